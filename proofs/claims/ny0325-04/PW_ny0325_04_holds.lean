import PyProof.Rows.All
import PyProof.DictItems
import PyProof.Rows.TupMore
import PyProof.Rows.FactsDivmod
import PyProof.Rows.SeqMore
import PyProof.Rows.SortWalk
import KE.KBoundM
import KE.KLam
import KE.KDictSum
import KE.KStar
import Wide.FinOn
import OpenK.AllK
import Wide.All
import Lean
import PySem.Challenge.RW_ny0325_04
set_option Elab.async false
set_option linter.unusedVariables false
set_option maxRecDepth 100000
set_option maxHeartbeats 8000000
set_option genInjectivity false
set_option genSizeOf false
set_option tactic.hygienic false
open PySem PySem.W PySem.Calls PyProof.Rows
noncomputable section
namespace Mine
set_option backward.match.sparseCases true
section
noncomputable abbrev D:=PyData
noncomputable def cap:Nat:=100000
noncomputable abbrev Avoid:=Addr->Prop
noncomputable def objD (a:Addr):D:=.dict [(.int (Int.ofNat a),.none)]
mutual
inductive Rd (O M:Avoid) (h:Heap):Nat->Value->D->Prop where
 | none {k}:Rd O M h k .none .none
 | bool {k b}:Rd O M h k (.bool b) (.bool b)
 | int {k i t}:Rd O M h k (.int i t) (.int i)
 | str {k x t}:Rd O M h k (.str x t) (.str x)
 | obj {k a}:Rd O M h k (.ref a) (objD a)
 | list {k a vs n ds}:¬O a->(k=0->¬M a)->vs.size<=cap->h.get? a=some { cls:=.type "list",data:=.seq vs n }->Rds O M h (k - 1) vs.toList ds->Rd O M h k (.ref a) (.list ds)
 | tup {k a vs n ds}:¬O a->(k=0->¬M a)->vs.size<=cap->h.get? a=some { cls:=.type "tuple",data:=.seq vs n }->Rds O M h (k - 1) vs.toList ds->Rd O M h k (.ref a) (.tuple ds)
inductive Rds (O M:Avoid) (h:Heap):Nat->List Value->List D->Prop where
 | nil {k}:Rds O M h k [] []
 | cons {k v vs d ds}:Rd O M h k v d->Rds O M h k vs ds->Rds O M h k (v::vs) (d::ds)
end
theorem Rd.gen {O M O' M':Avoid}{h h':Heap}(S:Nat->Nat->Prop)(hS:∀{k k':Nat},S k k'->S (k - 1) (k' - 1))
  (N:∀{k k':Nat} {a:Addr} {c:Value} {vs:Array Value} {n:Nat},S k k'->¬O a->(k=0->¬M a)->h.get? a=some { cls:=c,data:=.seq vs n }->¬O' a/\(k'=0->¬M' a)/\h'.get? a=some { cls:=c,data:=.seq vs n }) {k k':Nat} {v:Value} {d:D} (e:S k k') (r:Rd O M h k v d):Rd O' M' h' k' v d :=
 Rd.rec (motive_1:=λk v d zw=>∀k',S k k'->Rd O' M' h' k' v d) (motive_2:=λk vs ds zw=>∀k',S k k'->Rds O' M' h' k' vs ds)
  (λzw zw=>.none) (λzw zw=>.bool) (λzw zw=>.int) (λzw zw=>.str) (λzw zw=>.obj)
  (λh1 h2 h3 h4 zw i zw e=>.list (N e h1 h2 h4).1 (N e h1 h2 h4).2.1 h3 (N e h1 h2 h4).2.2 (i _ (hS e)))
  (λh1 h2 h3 h4 zw i zw e=>.tup (N e h1 h2 h4).1 (N e h1 h2 h4).2.1 h3 (N e h1 h2 h4).2.2 (i _ (hS e)))
  (λzw zw=>.nil) (λzw zw i j zw e=>.cons (i _ e) (j _ e)) r _ e
theorem Rds.gen {O M O' M':Avoid}{h h':Heap}(S:Nat->Nat->Prop)(hS:∀{k k':Nat},S k k'->S (k - 1) (k' - 1))
  (N:∀{k k':Nat} {a:Addr} {c:Value} {vs:Array Value} {n:Nat},S k k'->¬O a->(k=0->¬M a)->h.get? a=some { cls:=c,data:=.seq vs n }->¬O' a/\(k'=0->¬M' a)/\h'.get? a=some { cls:=c,data:=.seq vs n }) {k k':Nat} {v:List Value} {d:List D} (e:S k k') (r:Rds O M h k v d):Rds O' M' h' k' v d :=
 Rds.rec (motive_1:=λk v d zw=>True) (motive_2:=λk vs ds zw=>∀k',S k k'->Rds O' M' h' k' vs ds)
  trivial trivial trivial trivial trivial (λzw zw zw zw zw zw=>trivial) (λzw zw zw zw zw zw=>trivial)
  (λzw zw=>.nil) (λa zw zw j zw e=>.cons (a.gen S hS N e) (j _ e)) r _ e
theorem jq4 {k k':Nat}(e:k=0/\k'=0):k - 1=0/\k' - 1=0:=by rw [e.1,e.2]; exact⟨rfl,rfl⟩
theorem Rd.seqs {O M:Avoid}{h h':Heap}(hk:∀b c vs n,h.get? b=some { cls:=c,data:=.seq vs n }->h'.get? b=some { cls:=c,data:=.seq vs n }){k:Nat}{v:Value}{d:D}(x:Rd O M h k v d):Rd O M h' k v d :=
 x.gen Eq (λe=>e ▸ rfl) (λe a b c=>⟨a,λz=>b (e.trans z),hk _ _ _ _ c⟩) rfl
theorem Rds.seqs {O M:Avoid}{h h':Heap}(hk:∀b c vs n,h.get? b=some { cls:=c,data:=.seq vs n }->h'.get? b=some { cls:=c,data:=.seq vs n }){k:Nat}{v:List Value}{d:List D}(x:Rds O M h k v d):Rds O M h' k v d :=
 x.gen Eq (λe=>e ▸ rfl) (λe a b c=>⟨a,λz=>b (e.trans z),hk _ _ _ _ c⟩) rfl
theorem Rd.keeps {O M:Avoid}{h h':Heap}{k:Nat}{v:Value}{d:D}(x:Rd O M h k v d)(hk:∀b o,h.get? b=some o->h'.get? b=some o):Rd O M h' k v d:=x.seqs λzw zw zw zw e=>hk _ _ e
theorem Rds.keeps {O M:Avoid}{h h':Heap}{k:Nat}{v:List Value}{d:List D}(x:Rds O M h k v d)(hk:∀b o,h.get? b=some o->h'.get? b=some o):Rds O M h' k v d:=x.seqs λzw zw zw zw e=>hk _ _ e
theorem Rd.but {O M:Avoid}{h h':Heap}(hk:∀b c vs n,¬M b->h.get? b=some { cls:=c,data:=.seq vs n }->h'.get? b=some { cls:=c,data:=.seq vs n }){k:Nat}{v:Value}{d:D}(e:k=0)(x:Rd O M h k v d):Rd O M h' k v d :=
 x.gen (λk k'=>k=0/\k'=0) jq4 (λe a b c=>⟨a,λzw=>b e.1,hk _ _ _ _ (b e.1) c⟩) ⟨e,e⟩
theorem Rds.but {O M:Avoid}{h h':Heap}(hk:∀b c vs n,¬M b->h.get? b=some { cls:=c,data:=.seq vs n }->h'.get? b=some { cls:=c,data:=.seq vs n }){k:Nat}{v:List Value}{d:List D}(e:k=0)(x:Rds O M h k v d):Rds O M h' k v d :=
 x.gen (λk k'=>k=0/\k'=0) jq4 (λe a b c=>⟨a,λzw=>b e.1,hk _ _ _ _ (b e.1) c⟩) ⟨e,e⟩
theorem Rd.imp {O M O' M':Avoid}{h:Heap}(ho:∀b,(h.get? b).isSome=true->¬O b->¬O' b)(hm:∀b,(h.get? b).isSome=true->¬O b->¬M b->¬M' b){k k':Nat}{v:Value}{d:D}(e:k<=k')(x:Rd O M h k v d):Rd O' M' h k' v d :=
 x.gen Nat.le (λe=>Nat.sub_le_sub_right e 1) (λe a b c=>⟨ho _ (c ▸ rfl) a,λz=>hm _ (c ▸ rfl) a (b (Nat.le_zero.mp (z ▸ e))),c⟩) e
theorem Rds.imp {O M O' M':Avoid}{h:Heap}(ho:∀b,(h.get? b).isSome=true->¬O b->¬O' b)(hm:∀b,(h.get? b).isSome=true->¬O b->¬M b->¬M' b){k k':Nat}{v:List Value}{d:List D}(e:k<=k')(x:Rds O M h k v d):Rds O' M' h k' v d :=
 x.gen Nat.le (λe=>Nat.sub_le_sub_right e 1) (λe a b c=>⟨ho _ (c ▸ rfl) a,λz=>hm _ (c ▸ rfl) a (b (Nat.le_zero.mp (z ▸ e))),c⟩) e
theorem Rd.free {O M:Avoid}{h:Heap}(k':Nat){k:Nat}{v:Value}{d:D}(x:Rd O M h k v d):Rd O (λzw=>False) h k' v d :=
 x.gen (λzw zw=>True) (λzw=>trivial) (λzw a zw c=>⟨a,λzw=>id,c⟩) trivial
theorem Rd.le {O M:Avoid}{h:Heap}{k k':Nat}{v:Value}{d:D}(e:k<=k')(x:Rd O M h k v d):Rd O M h k' v d:=x.imp (λzw zw a=>a) (λzw zw zw a=>a) e
theorem Rds.le {O M:Avoid}{h:Heap}{k k':Nat}{v:List Value}{d:List D}(e:k<=k')(x:Rds O M h k v d):Rds O M h k' v d:=x.imp (λzw zw a=>a) (λzw zw zw a=>a) e
theorem Rds.ind {O M:Avoid}{h:Heap}{k:Nat}{P:List Value->List D->Prop}(n:P [] [])(c:∀{v vs d ds},Rd O M h k v d->Rds O M h k vs ds->P vs ds->P (v::vs) (d::ds)){vs:List Value}{ds:List D}(x:Rds O M h k vs ds):P vs ds :=
 Rds.rec (motive_1:=λzw zw zw zw=>True) (motive_2:=λk' vs ds zw=>k'=k->P vs ds) trivial trivial trivial trivial trivial (λzw zw zw zw zw zw=>trivial) (λzw zw zw zw zw zw=>trivial)
  (λzw=>n) (λa b zw i e=>c (e ▸ a) (e ▸ b) (i e)) x rfl
theorem Rds.length {O M:Avoid}{h:Heap}{k:Nat}{vs:List Value}{ds:List D}(x:Rds O M h k vs ds):vs.length=ds.length :=
 x.ind (P:=λvs ds=>vs.length=ds.length) rfl λzw zw i=>congrArg (·+1) i
theorem Rds.pair {O M:Avoid}{h:Heap}{k:Nat}{vs:List Value}{ds:List D}(x:Rds O M h k vs ds):∀i:Nat,(vs[i]?=none/\ds[i]?=none)\/∃v d,vs[i]?=some v/\ds[i]?=some d/\Rd O M h k v d :=
 x.ind (P:=λvs ds=>∀i:Nat,(vs[i]?=none/\ds[i]?=none)\/∃v d,vs[i]?=some v/\ds[i]?=some d/\Rd O M h k v d) (λzw=>.inl ⟨rfl,rfl⟩) λa zw i n=>Nat.rec (.inr ⟨_,_,rfl,rfl,a⟩) (λn zw=>i n) n
theorem Rds.get {O M:Avoid}{h:Heap}{k:Nat}{vs:List Value}{ds:List D}(x:Rds O M h k vs ds){i:Nat}{d:D}(e:ds[i]?=some d):∃v,vs[i]?=some v/\Rd O M h k v d :=
 (x.pair i).elim (λz=>absurd (z.2.symm.trans e) nofun) λ⟨v,_,a,b,c⟩=>⟨v,a,Option.some.inj (b.symm.trans e) ▸ c⟩
theorem Rds.getV {O M:Avoid}{h:Heap}{k:Nat}{vs:List Value}{ds:List D}(x:Rds O M h k vs ds){i:Nat}{v:Value}(e:vs[i]?=some v):∃d,ds[i]?=some d/\Rd O M h k v d :=
 (x.pair i).elim (λz=>absurd (z.1.symm.trans e) nofun) λ⟨_,d,a,b,c⟩=>⟨d,b,Option.some.inj (a.symm.trans e) ▸ c⟩
theorem Rds.append {O M:Avoid}{h:Heap}{k:Nat}{vs vs':List Value}{ds ds':List D}(x:Rds O M h k vs ds)(y:Rds O M h k vs' ds'):Rds O M h k (vs++vs') (ds++ds') :=
 x.ind (P:=λvs ds=>Rds O M h k (vs++vs') (ds++ds')) y λa zw i=>.cons a i
theorem Rds.set {O M:Avoid}{h:Heap}{k:Nat}{vs:List Value}{ds:List D}(x:Rds O M h k vs ds)(i:Nat){v:Value}{d:D}(r:Rd O M h k v d):Rds O M h k (vs.set i v) (ds.set i d) :=
 x.ind (P:=λvs ds=>∀i:Nat,Rds O M h k (vs.set i v) (ds.set i d)) (λzw=>.nil) (λa b i n=>Nat.rec (.cons r b) (λn zw=>.cons a (i n)) n) i
theorem no {α:Type}{a:α}{P:Prop}(h:none=some a):P:=nomatch h
theorem nb {P:Prop}(h:false=true):P:=nomatch h
theorem Rds.cons_inv {O M:Avoid}{h:Heap}{k:Nat}{vs:List Value}{d:D}{ds:List D}(r:Rds O M h k vs (d::ds)):∃v vs',vs=v::vs'/\Rd O M h k v d/\Rds O M h k vs' ds:=by
 cases r with | cons a b=>exact⟨_,_,rfl,a,b⟩
theorem Rds.nil_inv {O M:Avoid}{h:Heap}{k:Nat}{vs:List Value}(r:Rds O M h k vs []):vs=[]:=by
 cases r; rfl
theorem Rds.one_inv {O M:Avoid}{h:Heap}{k:Nat}{vs:List Value}{d:D}(r:Rds O M h k vs [d]):∃v,vs=[v]/\Rd O M h k v d :=
 r.cons_inv.elim λv z=>z.elim λzw z=>⟨v,z.2.2.nil_inv ▸ z.1,z.2.1⟩
theorem Rds.two_inv {O M:Avoid}{h:Heap}{k:Nat}{vs:List Value}{d e:D}(r:Rds O M h k vs [d,e]):∃v w,vs=[v,w]/\Rd O M h k v d/\Rd O M h k w e :=
 r.cons_inv.elim λv z=>z.elim λzw z=>z.2.2.one_inv.elim λw y=>⟨v,w,y.1 ▸ z.1,z.2.1,y.2⟩
theorem Rds.three_inv {O M:Avoid}{h:Heap}{k:Nat}{vs:List Value}{d e f:D}(r:Rds O M h k vs [d,e,f]):∃v w x,vs=[v,w,x]/\Rd O M h k v d/\Rd O M h k w e/\Rd O M h k x f :=
 r.cons_inv.elim λv z=>z.elim λzw z=>z.2.2.two_inv.elim λw y=>y.elim λx y=>⟨v,w,x,y.1 ▸ z.1,z.2.1,y.2.1,y.2.2⟩
theorem wp_qe {α:Type}{M:Model}{A:Around}{t:Sem α}{Q:α->Shared->Prop}{E:Value->Shared->Prop}{s:Shared}(h:∀(Q':α->Shared->Prop) (E':Value->Shared->Prop),(∀a s,Q a s->Q' a s)->(∀e s,E e s->E' e s)->wpAny M A t Q' E' s):wpAny M A t Q E s:=h Q E (λzw zw=>id) λzw zw=>id
theorem wp_q {α:Type}{M:Model}{A:Around}{t:Sem α}{Q:α->Shared->Prop}{E:Value->Shared->Prop}{s:Shared}(h:∀Q':α->Shared->Prop,(∀a s,Q a s->Q' a s)->wpAny M A t Q' E s):wpAny M A t Q E s:=h Q λzw zw=>id
theorem ja3 (s:Shared):Keeps s s:=⟨s.heap,s.toks,rfl,λzw zw e=>e⟩
theorem ja1 {s s' s'':Shared}(a:Keeps s s')(b:Keeps s' s''):Keeps s s'':=by
 obtain⟨h,t,rfl,k⟩:=a
 obtain⟨h',t',rfl,k'⟩:=b
 exact⟨h',t',rfl,λb o e=>k' _ _ (k _ _ e)⟩
theorem ja0 {s s':Shared}(a:Keeps s s'):∀b o,s.heap.get? b=some o->s'.heap.get? b=some o:=by
 obtain⟨h,t,rfl,k⟩:=a
 exact k
theorem ja5 (s:Shared)(t:Nat):Keeps s { s with toks:=t }:=⟨s.heap,t,rfl,λzw zw e=>e⟩
theorem ja6 (s:Shared)(o:Obj)(t:Nat):Keeps s { s with heap:=s.heap.push o,toks:=t }:=⟨_,t,rfl,λzw zw e=>Heap.get?_push_of_some _ e⟩
noncomputable def VarAt (env:Env) (h:Heap) (x:Str) (v:Value):Prop :=
 (env.kindOf x=some .local/\∃m,h.Ns env.locals m/\m x=some v) ∨
 ((env.kindOf x=some .cell\/(env.kindOf x=some .free/\(x==("__classdict__":Str))=false))/\∃c,env.cells.lookup x=some c/\h.IsCell c (some v))
theorem VarAt.keeps {env:Env}{h h':Heap}{x:Str}{v:Value}(y:VarAt env h x v)(hk:∀b o,h.get? b=some o->h'.get? b=some o):VarAt env h' x v:=by
 rcases y with ⟨a,m,b,c⟩ | ⟨a,c,b,d⟩
 ·exact .inl ⟨a,m,b.keeps hk,c⟩
 ·exact .inr ⟨a,c,b,d.keeps hk⟩
structure Rho where
 sc:List (Str×NameKind)
 vars:List (Str×(D×Nat))
noncomputable def Rho.set (ρ:Rho) (x:Str) (d:D) (k:Nat):Rho:={ ρ with vars:=(x,(d,k))::ρ.vars }
noncomputable def OwnV (M:Avoid) (v:Value):Prop:=∃a,v=.ref a/\∀b,M b↔b=a
structure EnvOk (O M:Avoid) (ρ:Rho) (env:Env) (h:Heap):Prop where
 kind:env.scope.kind=.function
 gl:env.globals=mainGlobals
 bl:env.builtins=builtinsNs
 sc:env.scope.names=ρ.sc
 apart:∀x y c,env.cells.lookup x=some c->env.cells.lookup y=some c->x=y
 vars:∀x d k,ρ.vars.lookup x=some (d,k)->∃v,VarAt env h x v/\Rd O M h k v d/\(k≠0->OwnV M v)
theorem EnvOk.keeps {O M:Avoid}{ρ:Rho}{env:Env}{h h':Heap}(x:EnvOk O M ρ env h)(hk:∀b o,h.get? b=some o->h'.get? b=some o):EnvOk O M ρ env h' :=
 ⟨x.kind,x.gl,x.bl,x.sc,x.apart,λy d k e=>let ⟨v,a,b,o⟩:=x.vars y d k e; ⟨v,a.keeps hk,b.keeps hk,o⟩⟩
structure Glob where
 prog:Program
 w:World
 K:Frag
 h:Heap
 mg:Str->Option Value
 mb:Str->Option Value
 X:K.In h
 g:h.Ns mainGlobals mg
 b:h.Ns builtinsNs mb
 lim:h.NoLimit
 bt:∀x:Str,x≠"__name__"->mb x=bootBuiltins x
noncomputable def Glob.Up (g:Glob) (s:Shared):Prop:=∀b o,g.h.get? b=some o->s.heap.get? b=some o
theorem Glob.Up.keeps {g:Glob}{s s':Shared}(x:g.Up s)(k:Keeps s s'):g.Up s':=λb o e=>ja0 k _ _ (x b o e)
noncomputable abbrev Glob.M (g:Glob):Model:=model g.prog g.w
structure Room (n:Nat) (A:Around):Prop where
 handled:A.handled=none
 depth:A.depth+2*n+2 < recursionLimit
 units:A.units+30*n+60 < cLine
noncomputable def Alloc (O:Avoid) (s:Shared):Prop:=∀b,O b->∃o,s.heap.get? b=some o
theorem Alloc.keeps {O:Avoid}{s s':Shared}(x:Alloc O s)(k:Keeps s s'):Alloc O s':=λb o=>(x b o).elim λy e=>⟨y,ja0 k _ _ e⟩
theorem Alloc.new {O:Avoid}{s:Shared}(x:Alloc O s):¬O s.heap.objs.size:=λo=>by
 obtain⟨y,e⟩:=x _ o
 exact absurd (Heap.lt_size e) (Nat.lt_irrefl _)
noncomputable def EvS (g:Glob) (n:Nat) (ρ:Rho) (e:Expr) (d:D) (k:Nat):Prop :=
 ∀(O M:Avoid) (env:Env) (A:Around) (s:Shared) (E:Value->Shared->Prop),g.Up s->Room n A->Alloc O s->Alloc M s->EnvOk O M ρ env s.heap →
  wpAny g.M A (eval e env) (λv s'=>Keeps s s'/\Rd O M s'.heap k v d) E s
theorem EvS.use {g:Glob}{n:Nat}{ρ:Rho}{e:Expr}{d:D}{k:Nat}(x:EvS g n ρ e d k){O M:Avoid}{env:Env}{A:Around}{s:Shared}{E:Value->Shared->Prop}{Q:Value->Shared->Prop}
  (u:g.Up s) (r:Room n A) (aO:Alloc O s) (aM:Alloc M s) (eo:EnvOk O M ρ env s.heap)
  (q:∀v s',Keeps s s'->Rd O M s'.heap k v d->g.Up s'->Alloc O s'->Alloc M s'->EnvOk O M ρ env s'.heap->Q v s'):wpAny g.M A (eval e env) Q E s :=
 wpAny_mono (x O M env A s E u r aO aM eo) (λv s' ⟨a,b⟩=>q v s' a b (u.keeps a) (aO.keeps a) (aM.keeps a) (eo.keeps (ja0 a))) λzw zw z=>z
section
variable {g:Glob} {n:Nat} {ρ:Rho}
theorem jn6 {i:Int}{k:Nat}{c:Nat}{pos:Pos}:EvS g n ρ (.Constant (.int i) c pos) (.int i) k :=
 λO M env A s E u r aO aM eo=>wpAny_Constant_int ⟨ja5 s _,.int⟩
theorem ev_str {x:Str}{k:Nat}{c:Nat}{pos:Pos}:EvS g n ρ (.Constant (.str x) c pos) (.str x) k :=
 λO M env A s E u r aO aM eo=>Calls.Constant_str ⟨ja5 s _,.str⟩
theorem jh8 {k:Nat}{c:Nat}{pos:Pos}:EvS g n ρ (.Constant .none c pos) .none k :=
 λO M env A s E u r aO aM eo=>wpAny_pure (a:=Value.none) ⟨ja3 s,.none⟩
theorem uj4 {b:Bool}{k:Nat}{c:Nat}{pos:Pos}:EvS g n ρ (.Constant (.bool b) c pos) (.bool b) k :=
 λO M env A s E u r aO aM eo=>wpAny_pure (a:=Value.bool b) ⟨ja3 s,.bool⟩
theorem jb8 {x:Str}{pos:Pos}{d:D}{k:Nat}(h:ρ.vars.lookup x=some (d,k))(hd:(x==("__debug__":Str))=false):EvS g n ρ (.Name x pos) d k:=by
 intro O M env A s E u r aO aM eo
 obtain⟨v,hv,hr,_⟩:=eo.vars x d k h
 refine wpAny_Name ?_ hd
 rcases hv with ⟨a,m,b,c⟩ | ⟨a | ⟨a,a'⟩,c,b,e⟩
 ·exact wpAny_loadName_local eo.kind a b c ⟨ja3 s,hr⟩
 ·exact wpAny_loadName_cell eo.kind a b e ⟨ja3 s,hr⟩
 ·exact wpAny_loadName_free eo.kind a b e ⟨ja3 s,hr⟩ a'
theorem je8 {x:Str}{pos:Pos}{v:Value}{O M:Avoid}{env:Env}{A:Around}{s:Shared}{E:Value->Shared->Prop}{Q:Value->Shared->Prop}(u:g.Up s)(eo:EnvOk O M ρ env s.heap)
  (hs:ρ.sc.lookup x=some .globalImplicit) (hv:nsIn g.K mainGlobals x=some (some v)) (hd:(x==("__debug__":Str))=false) (q:Q v s):wpAny g.M A (eval (.Name x pos) env) Q E s:=by
 refine Calls.Name_function_global eo.kind (by unfold Env.kindOf; rw [eo.sc]; exact hs) ?_ hd
 refine Calls.loadGlobal_global (mg:=g.mg) ?_ (mg_of g.X g.g hv) q
 rw [eo.gl]
 exact g.g.keeps u
theorem jb7 {x:Str}{pos:Pos}{v:Value}{O M:Avoid}{env:Env}{A:Around}{s:Shared}{E:Value->Shared->Prop}{Q:Value->Shared->Prop}(u:g.Up s)(eo:EnvOk O M ρ env s.heap)
  (hs:ρ.sc.lookup x=some .globalImplicit) (hv:nsIn g.K mainGlobals x=some none) (hb:bootBuiltins x=some v) (hn:x≠"__name__") (hd:(x==("__debug__":Str))=false) (q:Q v s):wpAny g.M A (eval (.Name x pos) env) Q E s:=by
 refine Calls.Name_function_global eo.kind (by unfold Env.kindOf; rw [eo.sc]; exact hs) ?_ hd
 refine Calls.loadGlobal_builtin (mg:=g.mg) (mb:=g.mb) ?_ (mg_none_of g.X g.g hv) ?_ ((g.bt x hn).trans hb) q
 ·rw [eo.gl]; exact g.g.keeps u
 ·rw [eo.bl]; exact g.b.keeps u
theorem ev_binop {l r:Expr}{op:Operator}{pos:Pos}{a b d:D}{k ka kb:Nat}(x:EvS g n ρ l a ka)(y:EvS g n ρ r b kb)
  (q:∀(O M:Avoid) (A:Around) (s:Shared) (E:Value->Shared->Prop) (va vb:Value),Room n A->Alloc O s->Alloc M s->Rd O M s.heap ka va a->Rd O M s.heap kb vb b->wpAny g.M A (binaryOp op va vb) (λv s'=>Keeps s s'/\Rd O M s'.heap k v d) E s) :
  EvS g n ρ (.BinOp l op r pos) d k:=by
 intro O M env A s E u rm aO aM eo
 refine wpAny_BinOp (x.use u rm aO aM eo λva s_1 k_1 r_1 u_1 o_1 m_1 e_1=>y.use u_1 rm o_1 m_1 e_1 λvb s_2 k_2 r_2 u_2 o_2 m_2 e_2=>?_)
 exact wpAny_mono (q O M A s_2 E va vb rm o_2 m_2 (r_1.keeps (ja0 k_2)) r_2) (λv s' ⟨p,q⟩=>⟨ja1 k_1 (ja1 k_2 p),q⟩) λzw zw z=>z
end
end
variable {g:Glob} {n k:Nat} {A:Around} {s s':Shared} {ρ ρ':Rho} {O M F:Avoid} {E Q:Value->Shared->Prop} {R:Result->Shared->Prop} {v:Value} {d:D} {P:Params} {h h':Heap} {x:Str} {pos:Pos} {e target elt iter:Expr} {ds:List D} {env:Env} {a:Addr}
set_option backward.match.sparseCases false
section
theorem ja4 {i:Int}(x:Rd O M h k v (.int i)):∃t,v=.int i t:=by cases x; exact⟨_,rfl⟩
theorem jh3 {i:Str}(x:Rd O M h k v (.str i)):∃t,v=.str i t:=by cases x; exact⟨_,rfl⟩
theorem jt5 {i:Bool}(x:Rd O M h k v (.bool i)):v=.bool i:=by cases x; rfl
theorem jx9 (x:Rd O M h k v .none):v=.none:=by cases x; rfl
theorem jc3:cap<=sizeLine:=by decide
theorem jc5 (x:Rd O M h k v (.list ds)):∃a vs n,v=.ref a/\vs.size<=cap/\IsL h a vs n/\Rds O M h (k - 1) vs.toList ds/\¬O a/\(k=0->¬M a):=by
 cases x with
 | list h1 h2 h3 h4 h5=>exact⟨_,_,_,rfl,h3,h4,h5,h1,h2⟩
theorem qb9 (x:Rd O M h k v (.tuple ds)):∃a vs n,v=.ref a/\vs.size<=cap/\IsT h a vs n/\Rds O M h (k - 1) vs.toList ds/\¬O a/\(k=0->¬M a):=by
 cases x with
 | tup h1 h2 h3 h4 h5=>exact⟨_,_,_,rfl,h3,h4,h5,h1,h2⟩
theorem jl6 {vs:Array Value}(aO:Alloc O s)(aM:Alloc M s)(hz:vs.size<=cap)(r:Rds O M s.heap (k - 1) vs.toList ds) :
  Rd O M (s.heap.push { cls:=.type "list",data:=.seq vs }) k (.ref s.heap.objs.size) (.list ds) :=
 .list aO.new (λzw=>aM.new) hz (Heap.get?_push_size _ rfl) (r.keeps λzw zw e=>Heap.get?_push_of_some _ e)
theorem jt4 {vs:Array Value}(aO:Alloc O s)(aM:Alloc M s)(hz:vs.size<=cap)(r:Rds O M s.heap (k - 1) vs.toList ds) :
  Rd O M (s.heap.push { cls:=.type "tuple",data:=.seq vs }) k (.ref s.heap.objs.size) (.tuple ds) :=
 .tup aO.new (λzw=>aM.new) hz (Heap.get?_push_size _ rfl) (r.keeps λzw zw e=>Heap.get?_push_of_some _ e)
noncomputable def BinS (g:Glob) (n:Nat) (op:Operator) (a:D) (ka:Nat) (b:D) (kb:Nat) (d:D) (k:Nat):Prop :=
 ∀(O M:Avoid) (A:Around) (s:Shared) (E:Value->Shared->Prop) (va vb:Value),Room n A->Alloc O s->Alloc M s->Rd O M s.heap ka va a->Rd O M s.heap kb vb b →
  wpAny g.M A (binaryOp op va vb) (λv s'=>Keeps s s'/\Rd O M s'.heap k v d) E s
theorem ev_bin {l r:Expr}{op:Operator}{a b:D}{ka kb:Nat}(x:EvS g n ρ l a ka)(y:EvS g n ρ r b kb)(q:BinS g n op a ka b kb d k):EvS g n ρ (.BinOp l op r pos) d k :=
 ev_binop x y q
section
variable {g:Glob} {n ka kb k:Nat}
theorem bin_add {x y:Int}:BinS g n .Add (.int x) ka (.int y) kb (.int (x+y)) k:=λO M A s E va vb r aO aM ra rb=>by
 obtain⟨t,rfl⟩:=ja4 ra; obtain⟨u,rfl⟩:=ja4 rb
 exact P.add_int ⟨ja5 s _,.int⟩
theorem bin_sub {x y:Int}:BinS g n .Sub (.int x) ka (.int y) kb (.int (x - y)) k:=λO M A s E va vb r aO aM ra rb=>by
 obtain⟨t,rfl⟩:=ja4 ra; obtain⟨u,rfl⟩:=ja4 rb
 exact P.sub_int ⟨ja5 s _,.int⟩
theorem bin_mul {x y:Int}(h:IntMulOk x y):BinS g n .Mult (.int x) ka (.int y) kb (.int (x*y)) k:=λO M A s E va vb r aO aM ra rb=>by
 obtain⟨t,rfl⟩:=ja4 ra; obtain⟨u,rfl⟩:=ja4 rb
 exact P.mul_int ⟨ja5 s _,.int⟩ h
theorem bin_mod {x y:Int}(h:y≠0):BinS g n .Mod (.int x) ka (.int y) kb (.int (x.fmod y)) k:=λO M A s E va vb r aO aM ra rb=>by
 obtain⟨t,rfl⟩:=ja4 ra; obtain⟨u,rfl⟩:=ja4 rb
 exact mod_int' h ⟨ja5 s _,.int⟩
theorem bin_fdiv {x y:Int}(h:y≠0)(h2:y.natAbs < 1073741824):BinS g n .FloorDiv (.int x) ka (.int y) kb (.int (x.fdiv y)) k:=λO M A s E va vb r aO aM ra rb=>by
 obtain⟨t,rfl⟩:=ja4 ra; obtain⟨u,rfl⟩:=ja4 rb
 exact floordiv_int h ⟨ja5 s _,.int⟩ (.inl (PyProof.noPylong_small h2))
theorem bin_pow {x y:Int}(h:0<=y)(h2:(Builtin.Int.intBits x:Int)*y<=2 ^ 27):BinS g n .Pow (.int x) ka (.int y) kb (.int (x ^ y.toNat)) k:=λO M A s E va vb r aO aM ra rb=>by
 obtain⟨t,rfl⟩:=ja4 ra; obtain⟨u,rfl⟩:=ja4 rb
 exact pow_int h h2 ⟨ja5 s _,.int⟩
theorem bin_cat {y:Str}(h:x.length+y.length<=cap):BinS g n .Add (.str x) ka (.str y) kb (.str (x++y)) k:=λO M A s E va vb r aO aM ra rb=>by
 obtain⟨t,rfl⟩:=jh3 ra; obtain⟨u,rfl⟩:=jh3 rb
 refine P.add_str ?_
 have ex:∀z:Str,z.length=0->z=Str.empty:=λz hz=>by
  obtain⟨c⟩:=z
  have:c=#[]:=Array.eq_empty_of_size_eq_zero hz
  subst this; rfl
 split
 ·rename_i h0
  have:=ex x (by simpa using h0)
  subst this
  rw [Str.empty_append]
  exact⟨ja3 s,.str⟩
 ·split
  ·rename_i h0
   have:=ex y (by simpa using h0)
   subst this
   have e:x++Str.empty=x:=by
    obtain⟨c⟩:=x
    show Str.mk (c++#[])=_
    rw [Array.append_empty]
   rw [e]
   exact⟨ja3 s,.str⟩
  ·exact⟨by rw [Str.length_append]; exact Nat.le_trans h jc3,ja5 s _,.str⟩
theorem ua8 {xs ys:List D}(h:xs.length+ys.length<=cap)(ha:ka<=1)(hb:kb<=1):BinS g n .Add (.list xs) ka (.list ys) kb (.list (xs++ys)) 0:=λO M A s E va vb r aO aM ra rb=>by
 obtain⟨a,vs,m,rfl,h1,h2,h3,_,_⟩:=jc5 ra
 obtain⟨b,ws,m',rfl,h1',h2',h3',_,_⟩:=jc5 rb
 have l1:=h3.length; have l2:=h3'.length
 rw [Array.length_toList] at l1 l2
 refine P.add_list h2 h2' ⟨ja6 s _ _,?_⟩ (by rw [l1,l2]; exact Nat.le_trans h jc3)
 refine jl6 aO aM (by rw [Array.size_append,l1,l2]; exact h) ?_
 rw [Array.toList_append]
 exact(h3.le (by omega)).append (h3'.le (by omega))
end
noncomputable def EvsS (g:Glob) (n:Nat) (ρ:Rho) (es:List Expr) (ds:List D) (k:Nat):Prop :=
 ∀(O M:Avoid) (env:Env) (A:Around) (s:Shared) (E:Value->Shared->Prop) (pos:Pos),g.Up s->Room n A->Alloc O s->Alloc M s->EnvOk O M ρ env s.heap →
  wpAny g.M A (spliced (backTo pos (starEach es env))) (λvs s'=>Keeps s s'/\Rds O M s'.heap k vs ds) E s
noncomputable def jb1 (e:Expr):Bool:=e.ctorIdx != 22
theorem ji8 {es:List Expr}(h:jb1 e=true):starEach (e::es) env=(false,eval e env)::starEach es env:=by
 cases e <;> first | rfl | exact nb h | cases h
section
variable {g:Glob} {n:Nat} {ρ:Rho}
theorem jj2:EvsS g n ρ [] [] k:=λO M env A s E pos u r aO aM eo=>wpAny_items_nil ⟨ja3 s,.nil⟩
theorem jh0 {es:List Expr}(x:EvS g n ρ e d k)(y:EvsS g n ρ es ds k)(hs:jb1 e=true):EvsS g n ρ (e::es) (d::ds) k:=by
 intro O M env A s E pos u r aO aM eo
 refine wpAny_items_cons (x.use u r aO aM eo λv s_1 k_1 r_1 u_1 o_1 m_1 e_1=>wpAny_mono (y O M env A s_1 E pos u_1 r o_1 m_1 e_1) (λvs s_2 ⟨k_2,r_2⟩=>⟨ja1 k_1 k_2,.cons (r_1.keeps (ja0 k_2)) r_2⟩) λzw zw z=>z) (ji8 hs)
theorem jz5 {es:List Expr}(x:EvsS g n ρ es ds (k - 1))(hz:ds.length<=cap):EvS g n ρ (.List es pos) (.list ds) k:=by
 intro O M env A s E u r aO aM eo
 refine wpAny_List (wpAny_mono (x O M env A s E pos u r aO aM eo) (λvs s_1 hJ0=>?_) λzw zw z=>z)
 obtain⟨k_1,r_1⟩:=hJ0
 have l:=r_1.length
 refine⟨by rw [l]; exact Nat.le_trans hz jc3,ja1 k_1 (ja6 s_1 _ _),?_⟩
 exact jl6 (aO.keeps k_1) (aM.keeps k_1) (by rw [List.size_toArray,l]; exact hz) r_1
theorem ev_tup {es:List Expr}{c:Nat}(x:EvsS g n ρ es ds (k - 1))(hz:ds.length<=cap):EvS g n ρ (.Tuple es c pos) (.tuple ds) k:=by
 intro O M env A s E u r aO aM eo
 refine wpAny_Tuple (wpAny_mono (x O M env A s E pos u r aO aM eo) (λvs s_1 hJ0=>?_) λzw zw z=>z)
 obtain⟨k_1,r_1⟩:=hJ0
 have l:=r_1.length
 refine⟨by rw [l]; exact Nat.le_trans hz jc3,ja1 k_1 (ja6 s_1 _ _),?_⟩
 exact jt4 (aO.keeps k_1) (aM.keeps k_1) (by rw [List.size_toArray,l]; exact hz) r_1
end
end
section
mutual
noncomputable def jc6:D->Bool
 | .none | .bool _ | .int _ | .str _=>true
 | .list xs | .tuple xs=>plainDs xs
 | .dict _=>false
noncomputable def plainDs:List D->Bool
 | []=>true
 | x::xs=>jc6 x && plainDs xs
end
mutual
theorem jm8:∀{d:D},d.canLay0=true->jc6 d=true
 | .none,_=>by simp only [jc6]
 | .bool _,_=>by simp only [jc6]
 | .int _,_=>by simp only [jc6]
 | .str _,_=>by simp only [jc6]
 | .list xs,h=>by
  simp only [jc6]
  exact plains_of_canLay (by simpa [PyData.canLay0] using h)
 | .tuple xs,h=>by
  simp only [jc6]
  exact plains_of_canLay (by simpa [PyData.canLay0] using h)
 | .dict _,h=>by simp [PyData.canLay0] at h
theorem plains_of_canLay:∀{xs:List D},PyData.canLayAll0 xs=true->plainDs xs=true
 | [],_=>by simp only [plainDs]
 | x::xs,h=>by
  have h':x.canLay0=true/\PyData.canLayAll0 xs=true:=by simpa [PyData.canLayAll0] using h
  simp only [plainDs,jm8 h'.1,plains_of_canLay h'.2,Bool.and_self]
end
theorem jd0 {x:D}{xs:List D}(h:plainDs (x::xs)=true):jc6 x=true/\plainDs xs=true:=by simpa [plainDs] using h
theorem jl7 {xs:List D}(h:jc6 (.list xs)=true):plainDs xs=true:=by simpa [jc6] using h
theorem jo3 {xs:List D}(h:jc6 (.tuple xs)=true):plainDs xs=true:=by simpa [jc6] using h
theorem jv0:∀(xs:List Int),plainDs (xs.map .int)=true
 | []=>by simp [plainDs]
 | x::xs=>by simp [plainDs,jc6,jv0 xs]
theorem jb9 (h:SeqAt.shaped d=true):jc6 d=true:=jm8 (SeqAt.canLay_of_shaped h)
theorem Rd.reads (hp:jc6 d=true)(x:Rd O M h k v d):∃as,Reads h v d as :=
 Rd.rec (motive_1:=λzw v d zw=>jc6 d=true->∃as,Reads h v d as) (motive_2:=λzw v d zw=>plainDs d=true->∃as,ReadsAll h v d as)
  (λzw=>⟨_,.none⟩) (λzw=>⟨_,.bool _⟩) (λzw=>⟨_,.int _ _⟩) (λzw=>⟨_,.str _ _⟩) (λhp=>by simp [objD,jc6] at hp)
  (λzw zw zw h4 zw i hp=>(i (jl7 hp)).elim λzw r=>⟨_,.list h4 rfl rfl r⟩) (λzw zw zw h4 zw i hp=>(i (jo3 hp)).elim λzw r=>⟨_,.tuple h4 rfl rfl r⟩)
  (λzw=>⟨_,.nil⟩) (λzw zw i j hp=>(i (jd0 hp).1).elim λzw r=>(j (jd0 hp).2).elim λzw q=>⟨_,.cons r q⟩) x hp
noncomputable def CmpS (g:Glob) (n:Nat) (op:CmpOp) (a:D) (ka:Nat) (b:D) (kb:Nat) (r:Bool):Prop :=
 ∀(O M:Avoid) (A:Around) (s:Shared) (E:Value->Shared->Prop) (va vb:Value) (Q:Value->Shared->Prop),Room n A->Rd O M s.heap ka va a->Rd O M s.heap kb vb b->Q (.bool r) s->wpAny g.M A (compareOp op va vb) Q E s
theorem ud4 (r:Room n A)(h:1<=n):A.units+64 < cLine:=by have:=r.units; grind
section
variable {g:Glob} {n ka kb:Nat}
theorem ju2 {x y:Int}:CmpS g n .Eq (.int x) ka (.int y) kb (x==y):=λO M A s E va vb Q r ra rb q=>by
 obtain⟨t,rfl⟩:=ja4 ra; obtain⟨u,rfl⟩:=ja4 rb; exact P.eq_int q
theorem qd1 {x y:Int}:CmpS g n .NotEq (.int x) ka (.int y) kb (x != y):=λO M A s E va vb Q r ra rb q=>by
 obtain⟨t,rfl⟩:=ja4 ra; obtain⟨u,rfl⟩:=ja4 rb; exact P.ne_int q
theorem qd2 {x y:Int}:CmpS g n .Lt (.int x) ka (.int y) kb (decide (x < y)):=λO M A s E va vb Q r ra rb q=>by
 obtain⟨t,rfl⟩:=ja4 ra; obtain⟨u,rfl⟩:=ja4 rb; exact P.lt_int q
theorem qz5 {x y:Int}:CmpS g n .LtE (.int x) ka (.int y) kb (decide (x<=y)):=λO M A s E va vb Q r ra rb q=>by
 obtain⟨t,rfl⟩:=ja4 ra; obtain⟨u,rfl⟩:=ja4 rb; exact P.le_int q
theorem qz7 {x y:Int}:CmpS g n .Gt (.int x) ka (.int y) kb (decide (x > y)):=λO M A s E va vb Q r ra rb q=>by
 obtain⟨t,rfl⟩:=ja4 ra; obtain⟨u,rfl⟩:=ja4 rb; exact P.gt_int q
theorem qz8 {x y:Int}:CmpS g n .GtE (.int x) ka (.int y) kb (decide (x>=y)):=λO M A s E va vb Q r ra rb q=>by
 obtain⟨t,rfl⟩:=ja4 ra; obtain⟨u,rfl⟩:=ja4 rb; exact P.ge_int q
theorem qz9 {y:Str}:CmpS g n .Eq (.str x) ka (.str y) kb (x.cps.toList==y.cps.toList):=λO M A s E va vb Q r ra rb q=>by
 obtain⟨t,rfl⟩:=jh3 ra; obtain⟨u,rfl⟩:=jh3 rb; exact P.eq_str q
theorem qz4 {y:Str}:CmpS g n .NotEq (.str x) ka (.str y) kb (x.cps.toList != y.cps.toList):=λO M A s E va vb Q r ra rb q=>by
 obtain⟨t,rfl⟩:=jh3 ra; obtain⟨u,rfl⟩:=jh3 rb; exact P.ne_str q
theorem cmp_eq {a b:D}(ha:SeqAt.shaped a=true)(hb:SeqAt.shaped b=true)(hn:1<=n):CmpS g n .Eq a ka b kb (PyData.eqv a b):=λO M A s E va vb Q r ra rb q=>by
 obtain⟨as,ra⟩:=ra.reads (jb9 ha); obtain⟨bs,rb⟩:=rb.reads (jb9 hb)
 exact eq_dataH ra rb ha hb (ud4 r hn) q
theorem cmp_ne {a b:D}(ha:SeqAt.shaped a=true)(hb:SeqAt.shaped b=true)(hn:1<=n):CmpS g n .NotEq a ka b kb (!PyData.eqv a b):=λO M A s E va vb Q r ra rb q=>by
 obtain⟨as,ra⟩:=ra.reads (jb9 ha); obtain⟨bs,rb⟩:=rb.reads (jb9 hb)
 exact ne_dataH ra rb ha hb (ud4 r hn) q
theorem qq2 {xs:List D}(ha:SeqAt.shaped d=true)(hb:SeqAt.shaped (.list xs)=true)(hn:1<=n):CmpS g n .In d ka (.list xs) kb (xs.any λy=>PyData.eqv y d):=λO M A s E va vb Q r ra rb q=>by
 obtain⟨as,ra⟩:=ra.reads (jb9 ha); obtain⟨bs,rb⟩:=rb.reads (jb9 hb)
 have h1:=SeqAt.canLay_of_shaped ha; have h2:=SeqAt.canLay_of_shaped hb; have h3:=SeqAt.depth_of_shaped ha
 refine SeqAt.in_list_reads rb ra (by simpa [PyData.canLay0] using h2) h1 ?_ q
 have:=r.units
 have h4:=Nat.min_le_right (PyData.depthAll xs) (PyData.depth d)
 grind
theorem qa9 {xs:List D}(ha:SeqAt.shaped d=true)(hb:SeqAt.shaped (.list xs)=true)(hn:1<=n):CmpS g n .NotIn d ka (.list xs) kb (!xs.any λy=>PyData.eqv y d):=λO M A s E va vb Q r ra rb q=>by
 obtain⟨as,ra⟩:=ra.reads (jb9 ha); obtain⟨bs,rb⟩:=rb.reads (jb9 hb)
 have h1:=SeqAt.canLay_of_shaped ha; have h2:=SeqAt.canLay_of_shaped hb; have h3:=SeqAt.depth_of_shaped ha
 refine SeqAt.notIn_list_reads rb ra (by simpa [PyData.canLay0] using h2) h1 ?_ q
 have:=r.units
 have h4:=Nat.min_le_right (PyData.depthAll xs) (PyData.depth d)
 grind
theorem qz6 {y:Str}:CmpS g n .In (.str y) ka (.str x) kb (!(Builtin.Str.occurrences x y 0 x.length 1).isEmpty):=λO M A s E va vb Q r ra rb q=>by
 obtain⟨t,rfl⟩:=jh3 ra; obtain⟨u,rfl⟩:=jh3 rb; exact P.in_str q
noncomputable def isN:D->Bool
 | .none=>true
 | _=>false
theorem qi9 (r:Rd O M h k v d):(v==.none)=isN d:=by
 cases r <;> rfl
theorem jf0 {a:D}:CmpS g n .Is a ka .none kb (isN a):=λO M A s E va vb Q r ra rb q=>by
 have:=jx9 rb; subst this
 exact is_none (by rw [qi9 ra]; exact q)
theorem jh1 {a:D}:CmpS g n .IsNot a ka .none kb (!isN a):=λO M A s E va vb Q r ra rb q=>by
 have:=jx9 rb; subst this
 exact isNot_none (by rw [qi9 ra]; exact q)
end
section
variable {g:Glob} {n:Nat} {ρ:Rho}
theorem ev_cmp {l r:Expr}{op:CmpOp}{a b:D}{c:Bool}{ka kb:Nat}(x:EvS g n ρ l a ka)(y:EvS g n ρ r b kb)(q:CmpS g n op a ka b kb c)(hm:behindInMarks op r=false):EvS g n ρ (.Compare l [op] [r] pos) (.bool c) k:=by
 intro O M env A s E u rm aO aM eo
 refine wpAny_Compare1 (x.use u rm aO aM eo λva s_1 k_1 r_1 u_1 o_1 m_1 e_1=>y.use u_1 rm o_1 m_1 e_1 λvb s_2 k_2 r_2 u_2 o_2 m_2 e_2=>?_) hm
 exact q O M A s_2 E va vb _ rm (r_1.keeps (ja0 k_2)) r_2 ⟨ja1 k_1 k_2,.bool⟩
end
noncomputable def TestS (g:Glob) (n:Nat) (ρ:Rho) (e:Expr) (b:Bool):Prop :=
 ∀(O M:Avoid) (env:Env) (A:Around) (s:Shared) (E:Value->Shared->Prop),g.Up s->Room n A->Alloc O s->Alloc M s->EnvOk O M ρ env s.heap →
  wpAny g.M A (isTrue e env (eval e env)) (λc s'=>Keeps s s'/\c=b) E s
theorem TestS.use {b:Bool}(x:TestS g n ρ e b){Q:Bool->Shared->Prop}
  (u:g.Up s) (r:Room n A) (aO:Alloc O s) (aM:Alloc M s) (eo:EnvOk O M ρ env s.heap)
  (q:∀s',Keeps s s'->g.Up s'->Alloc O s'->Alloc M s'->EnvOk O M ρ env s'.heap->Q b s'):wpAny g.M A (isTrue e env (eval e env)) Q E s :=
 wpAny_mono (x O M env A s E u r aO aM eo) (λc s' ⟨a,hb⟩=>by subst hb; exact q s' a (u.keeps a) (aO.keeps a) (aM.keeps a) (eo.keeps (ja0 a))) λzw zw z=>z
noncomputable def je6:D->Bool
 | .none=>false
 | .bool b=>b
 | .int i=>i != 0
 | .str x=>(x.length:Int) != 0
 | .list xs=>!xs.isEmpty
 | .tuple xs=>!xs.isEmpty
 | .dict xs=>!xs.isEmpty
noncomputable def jv9:D->Bool
 | .str x=>decide (x.length<=cap)
 | .tuple _=>false
 | .dict _=>false
 | _=>true
set_option tactic.hygienic true in
theorem jn9 {Q:Bool->Shared->Prop}(r:Rd O M s.heap k v d)(hl:jv9 d=true)
  (q:∀s',Keeps s s'->Q (je6 d) s'):wpAny g.M A (truthy v) Q E s:=by
 cases r with
 | none=>exact PyProof.Rows.truthy_none (q s (ja3 s))
 | bool=>exact wpAny_truthy_bool (q s (ja3 s))
 | int=>exact P.truthy_int (q s (ja3 s))
 | str =>
  rename_i x t
  have h:x.length<=cap:=of_decide_eq_true hl
  have hc:cap=100000:=rfl
  exact P.truthy_str (by omega) (q _ (ja5 s _))
 | list h1 h2 h3 h4 h5 =>
  rename_i a vs m ds
  have hc:cap=100000:=rfl
  refine wpAny_truthy_list (IsL.isList h4) (by omega) ?_
  have e:(!vs.isEmpty)=je6 (.list ds):=by
   have l:=h5.length
   rw [Array.length_toList] at l
   unfold je6 Array.isEmpty
   cases ds with
   | nil=>rw [l]; rfl
   | cons d ds=>rw [l]; rfl
  rw [e]
  exact q _ (ja5 s _)
 | tup=>cases hl
 | obj=>cases hl
noncomputable def jr6 (e:Expr):Bool:=e.ctorIdx != 0 && e.ctorIdx != 3 && e.ctorIdx != 5 && e.ctorIdx != 15
section
variable {g:Glob} {n:Nat} {ρ:Rho}
theorem jt0 (x:EvS g n ρ e d k)(hl:jv9 d=true)(hp:jr6 e=true):TestS g n ρ e (je6 d):=by
 intro O M env A s E u rm aO aM eo
 refine wpAny_isTrue_value (x.use u rm aO aM eo λv s_1 k_1 r_1 zw zw zw zw=>jn9 r_1 hl λs' k'=>⟨ja1 k_1 k',rfl⟩) ?_
 cases e <;> first | rfl | (cases hp; done) | (rename_i op _ _; cases op <;> first | rfl | exact nb hp | cases hp)
theorem jl2 {l r:Expr}{op:CmpOp}{a b:D}{c:Bool}{ka kb:Nat}(x:EvS g n ρ l a ka)(y:EvS g n ρ r b kb)(q:CmpS g n op a ka b kb c)(hm:behindInMarks op r=false):TestS g n ρ (.Compare l [op] [r] pos) c:=by
 intro O M env A s E u rm aO aM eo
 refine wpAny_isTrue_Compare1 (x.use u rm aO aM eo λva s_1 k_1 r_1 u_1 o_1 m_1 e_1=>y.use u_1 rm o_1 m_1 e_1 λvb s_2 k_2 r_2 u_2 o_2 m_2 e_2=>?_) hm
 exact q O M A s_2 E va vb _ rm (r_1.keeps (ja0 k_2)) r_2 (wpAny_truthy_bool ⟨ja1 k_1 k_2,rfl⟩)
theorem test_not {b:Bool}(x:TestS g n ρ e b):TestS g n ρ (.UnaryOp .Not e pos) (!b):=by
 intro O M env A s E u rm aO aM eo
 exact wpAny_isTrue_Not (x.use u rm aO aM eo λs_1 k_1 zw zw zw zw=>⟨k_1,rfl⟩)
noncomputable def AllS (g:Glob) (n:Nat) (ρ:Rho) (op:BoolOp) (es:List Expr) (b:Bool):Prop :=
 ∀(O M:Avoid) (env:Env) (A:Around) (s:Shared) (E:Value->Shared->Prop),g.Up s->Room n A->Alloc O s->Alloc M s->EnvOk O M ρ env s.heap →
  wpAny g.M A (allTrue op es env) (λc s'=>Keeps s s'/\c=b) E s
theorem qq9:AllS g n ρ .And [] true:=λO M env A s E u rm aO aM eo=>wpAny_allTrue_And_nil ⟨ja3 s,rfl⟩
theorem ub2:AllS g n ρ .Or [] false:=λO M env A s E u rm aO aM eo=>wpAny_allTrue_Or_nil ⟨ja3 s,rfl⟩
theorem jv4 {es:List Expr}{b c:Bool}(x:TestS g n ρ e b)(y:b=true->AllS g n ρ .And es c):AllS g n ρ .And (e::es) (b && c):=by
 intro O M env A s E u rm aO aM eo
 refine wpAny_allTrue_And_cons (x.use u rm aO aM eo λs_1 k_1 u_1 o_1 m_1 e_1=>?_)
 cases b with
 | false=>exact⟨k_1,rfl⟩
 | true=>exact wpAny_mono (y rfl O M env A s_1 E u_1 rm o_1 m_1 e_1) (λc' s' ⟨a,hb⟩=>⟨ja1 k_1 a,by rw [hb]; rfl⟩) λzw zw z=>z
theorem qa5 {es:List Expr}{b c:Bool}(x:TestS g n ρ e b)(y:b=false->AllS g n ρ .Or es c):AllS g n ρ .Or (e::es) (b || c):=by
 intro O M env A s E u rm aO aM eo
 refine wpAny_allTrue_Or_cons (x.use u rm aO aM eo λs_1 k_1 u_1 o_1 m_1 e_1=>?_)
 cases b with
 | true=>exact⟨k_1,rfl⟩
 | false=>exact wpAny_mono (y rfl O M env A s_1 E u_1 rm o_1 m_1 e_1) (λc' s' ⟨a,hb⟩=>⟨ja1 k_1 a,by rw [hb]; rfl⟩) λzw zw z=>z
theorem jk3 {op:BoolOp}{es:List Expr}{b:Bool}(x:AllS g n ρ op es b):TestS g n ρ (.BoolOp op es pos) b:=by
 intro O M env A s E u rm aO aM eo
 exact wpAny_isTrue_BoolOp (x O M env A s E u rm aO aM eo)
theorem qt6 {t a b:Expr}{c:Bool}(x:TestS g n ρ t c)(y:c=true->EvS g n ρ a d k)(z:c=false->EvS g n ρ b d k):EvS g n ρ (.IfExp t a b pos) d k:=by
 intro O M env A s E u rm aO aM eo
 refine wpAny_IfExp (x.use u rm aO aM eo λs_1 k_1 u_1 o_1 m_1 e_1=>?_)
 cases c with
 | true=>exact wpAny_mono (y rfl O M env A s_1 E u_1 rm o_1 m_1 e_1) (λc' s' ⟨a,hb⟩=>⟨ja1 k_1 a,hb⟩) λzw zw z=>z
 | false=>exact wpAny_mono (z rfl O M env A s_1 E u_1 rm o_1 m_1 e_1) (λc' s' ⟨a,hb⟩=>⟨ja1 k_1 a,hb⟩) λzw zw z=>z
theorem uj3 {x y:Expr}{a:D}{ka:Nat}(hx:EvS g n ρ x a ka)(hl:jv9 a=true)(ht:je6 a=true->a=d/\ka<=k)(hf:je6 a=false->EvS g n ρ y d k):EvS g n ρ (.BoolOp .Or [x,y] pos) d k:=by
 intro O M env A s E u rm aO aM eo
 refine wpAny_Or2 (hx.use u rm aO aM eo λv s_1 k_1 r_1 u_1 o_1 m_1 e_1=>jn9 r_1 hl λs_2 k_2=>?_)
 cases hb:je6 a with
 | true=>obtain⟨rfl,hk⟩:=ht hb; exact⟨ja1 k_1 k_2,(r_1.keeps (ja0 k_2)).le hk⟩
 | false=>exact wpAny_mono (hf hb O M env A s_2 E (u_1.keeps k_2) rm (o_1.keeps k_2) (m_1.keeps k_2) (e_1.keeps (ja0 k_2))) (λc' s' ⟨a,hb⟩=>⟨ja1 k_1 (ja1 k_2 a),hb⟩) λzw zw z=>z
theorem uj5 {x y:Expr}{a:D}{ka:Nat}(hx:EvS g n ρ x a ka)(hl:jv9 a=true)(hf:je6 a=false->a=d/\ka<=k)(ht:je6 a=true->EvS g n ρ y d k):EvS g n ρ (.BoolOp .And [x,y] pos) d k:=by
 intro O M env A s E u rm aO aM eo
 refine wpAny_And2 (hx.use u rm aO aM eo λv s_1 k_1 r_1 u_1 o_1 m_1 e_1=>jn9 r_1 hl λs_2 k_2=>?_)
 cases hb:je6 a with
 | false=>obtain⟨rfl,hk⟩:=hf hb; exact⟨ja1 k_1 k_2,(r_1.keeps (ja0 k_2)).le hk⟩
 | true=>exact wpAny_mono (ht hb O M env A s_2 E (u_1.keeps k_2) rm (o_1.keeps k_2) (m_1.keeps k_2) (e_1.keeps (ja0 k_2))) (λc' s' ⟨a,hb⟩=>⟨ja1 k_1 (ja1 k_2 a),hb⟩) λzw zw z=>z
theorem ev_neg {i:Int}{ka:Nat}(x:EvS g n ρ e (.int i) ka):EvS g n ρ (.UnaryOp .USub e pos) (.int (-i)) k:=by
 intro O M env A s E u rm aO aM eo
 refine wpAny_UnaryOp (x.use u rm aO aM eo λv s_1 k_1 r_1 zw zw zw zw=>?_)
 ((show let Q0:=_; wpAny _ _ _ Q0 _ _); intro Q0)
 obtain⟨t,rfl⟩:=ja4 r_1
 exact P.neg_int ⟨ja1 k_1 (ja5 _ _),.int⟩
theorem ev_not {a:D}{ka:Nat}(x:EvS g n ρ e a ka)(hl:jv9 a=true):EvS g n ρ (.UnaryOp .Not e pos) (.bool (!je6 a)) k:=by
 intro O M env A s E u rm aO aM eo
 refine wpAny_UnaryOp (x.use u rm aO aM eo λv s_1 k_1 r_1 zw zw zw zw=>not_value (jn9 r_1 hl λs_2 k_2=>⟨ja1 k_1 k_2,.bool⟩))
end
end
section
section
variable {g:Glob} {n:Nat} {ρ:Rho}
theorem jz8 {e':Expr}{es:List Expr}{b c:Bool}{ka kb:Nat}(x:EvS g n ρ e (.bool b) ka)(y:b=true->EvS g n ρ (.BoolOp .And (e'::es) pos) (.bool c) kb):EvS g n ρ (.BoolOp .And (e::e'::es) pos) (.bool (b && c)) k:=by
 intro O M env A s E u rm aO aM eo
 refine BoolOp_and (x.use u rm aO aM eo λv s_1 k_1 r_1 u_1 o_1 m_1 e_1=>jn9 r_1 rfl λs_2 k_2=>?_)
 cases b with
 | false=>have:=jt5 r_1; subst this; exact⟨ja1 k_1 k_2,.bool⟩
 | true=>exact wpAny_mono (y rfl O M env A s_2 E (u_1.keeps k_2) rm (o_1.keeps k_2) (m_1.keeps k_2) (e_1.keeps (ja0 k_2))) (λc' s' ⟨a,hb⟩=>⟨ja1 k_1 (ja1 k_2 a),by have:=jt5 hb; subst this; exact .bool⟩) λzw zw z=>z
theorem qc6 {e':Expr}{es:List Expr}{b c:Bool}{ka kb:Nat}(x:EvS g n ρ e (.bool b) ka)(y:b=false->EvS g n ρ (.BoolOp .Or (e'::es) pos) (.bool c) kb):EvS g n ρ (.BoolOp .Or (e::e'::es) pos) (.bool (b || c)) k:=by
 intro O M env A s E u rm aO aM eo
 refine BoolOp_or (x.use u rm aO aM eo λv s_1 k_1 r_1 u_1 o_1 m_1 e_1=>jn9 r_1 rfl λs_2 k_2=>?_)
 cases b with
 | true=>have:=jt5 r_1; subst this; exact⟨ja1 k_1 k_2,.bool⟩
 | false=>exact wpAny_mono (y rfl O M env A s_2 E (u_1.keeps k_2) rm (o_1.keeps k_2) (m_1.keeps k_2) (e_1.keeps (ja0 k_2))) (λc' s' ⟨a,hb⟩=>⟨ja1 k_1 (ja1 k_2 a),by have:=jt5 hb; subst this; exact .bool⟩) λzw zw z=>z
end
noncomputable def idxD:D->Int->Option D
 | .list xs,i=>(seqIndex? i xs.length).bind (xs[·]?)
 | .tuple xs,i=>(seqIndex? i xs.length).bind (xs[·]?)
 | .str x,i=>if x.length<=cap then ((seqIndex? i x.length).bind (x.cps[·]?)).map λc=>.str ⟨#[c]⟩ else none
 | _,_=>none
theorem jp6 {i:Int}{j:Nat}(h:seqIndex? i n=some j):j < n/\-(n:Int)<=i/\i < n/\(0<=i->i.toNat=j)/\(i < 0->(i+n).toNat=j):=by
 unfold seqIndex? at h
 dsimp only at h
 by_cases h0:i < 0
 ·simp only [h0,if_true] at h
  by_cases c:(decide (0<=i+(n:Int)) && decide (i+(n:Int) < n))=true
  ·rw [if_pos c] at h
   have h:=Option.some.inj h
   simp only [Bool.and_eq_true,decide_eq_true_eq] at c
   omega
  ·rw [if_neg c] at h; cases h
 ·simp only [h0,if_false] at h
  by_cases c:(decide (0<=i) && decide (i < (n:Int)))=true
  ·rw [if_pos c] at h
   have h:=Option.some.inj h
   simp only [Bool.and_eq_true,decide_eq_true_eq] at c
   omega
  ·rw [if_neg c] at h; cases h
noncomputable def SubS (g:Glob) (n:Nat) (a:D) (ka:Nat) (b:D) (kb:Nat) (d:D) (k:Nat):Prop :=
 ∀(O M:Avoid) (A:Around) (s:Shared) (E:Value->Shared->Prop) (va vb:Value) (Q:Value->Shared->Prop) (value slice:Expr),notSlice slice=true->Room n A->Alloc O s->Alloc M s->Rd O M s.heap ka va a->Rd O M s.heap kb vb b →
  (∀v s',Keeps s s'->Rd O M s'.heap k v d->Q v s')->wpAny g.M A (subscriptTail value slice va vb) Q E s
where
 notSlice (e:Expr):Bool:=e.ctorIdx != 26
theorem jc4 {slice:Expr}(h:SubS.notSlice slice=true)(o i:Value):subscripted slice false o i=operate [o,i] (getItem o i):=by
 cases slice <;> first | rfl | exact nb h | cases h
section
variable {g:Glob} {n:Nat} {ρ:Rho} {ka kb:Nat}
set_option tactic.hygienic true in
theorem sub_idx {a:D}{i:Int}(h:idxD a i=some d):SubS g n a ka (.int i) kb d (ka - 1):=by
 intro O M A s E va vb Q value slice hns r aO aM ra rb q
 obtain⟨t,rfl⟩:=ja4 rb
 have hc:cap=100000:=rfl
 cases ra with
 | none=>cases h
 | bool=>cases h
 | int=>cases h
 | obj=>cases h
 | str =>
  rename_i x u
  have h:(if x.length<=cap then ((seqIndex? i x.length).bind (x.cps[·]?)).map λc=>PyData.str ⟨#[c]⟩ else none)=some d:=h
  by_cases hx:x.length<=cap
  ·rw [if_pos hx] at h
   cases hj:(seqIndex? i x.length).bind (x.cps[·]?) with
   | none=>rw [hj] at h; cases h
   | some c =>
    rw [hj] at h
    cases h
    obtain⟨j,hj1,hj2⟩:=Option.bind_eq_some_iff.mp hj
    have b:=jp6 hj1
    refine tail_any (typeIs_str s x u) F.slot_str_getitem.lookup (P.getItem_str ?_ hj (q _ _ (ja5 s _) .str)) (jc4 hns _ _)
    rw [Bool.or_eq_false_iff]
    exact⟨decide_eq_false (by omega),decide_eq_false (by omega)⟩
  ·rw [if_neg hx] at h; cases h
 | list h1 h2 h3 h4 h5 =>
  rename_i a vs m ds
  obtain⟨j,hj1,hj2⟩:=Option.bind_eq_some_iff.mp h
  have b:=jp6 hj1
  have l:=h5.length
  rw [Array.length_toList] at l
  obtain⟨v,hv,hr⟩:=h5.get hj2
  rw [Array.getElem?_toList] at hv
  have hi:=IsL.isList h4
  refine tail_any (T:="list") ⟨_,h4,rfl⟩ slot_list_getitem.lookup ?_ (jc4 hns _ _)
  by_cases h0:0<=i
  ·refine wpAny_getItem_list hi h0 (by omega) ?_ (q _ _ (ja3 s) hr)
   rw [b.2.2.2.1 h0]; exact hv
  ·refine wpAny_getItem_list_neg hi (by omega) (by rw [l]; omega) (by omega) ?_ (q _ _ (ja3 s) hr)
   rw [l,b.2.2.2.2 (by omega)]; exact hv
 | tup h1 h2 h3 h4 h5 =>
  rename_i a vs m ds
  obtain⟨j,hj1,hj2⟩:=Option.bind_eq_some_iff.mp h
  have b:=jp6 hj1
  have l:=h5.length
  rw [Array.length_toList] at l
  obtain⟨v,hv,hr⟩:=h5.get hj2
  rw [Array.getElem?_toList] at hv
  refine tail_any (T:="tuple") ⟨_,h4,rfl⟩ F.slot_tuple_getitem.lookup ?_ (jc4 hns _ _)
  exact P.getItem_tuple h4 (by omega) (by omega) (by rw [l]; exact hj1) hv (q _ _ (ja3 s) hr)
theorem ev_sub {i:Expr}{a b:D}(x:EvS g n ρ e a ka)(y:EvS g n ρ i b kb)(q:SubS g n a ka b kb d k)(hs:SubS.notSlice i=true):EvS g n ρ (.Subscript e i pos) d k:=by
 intro O M env A s E u rm aO aM eo
 refine Subscript_ (x.use u rm aO aM eo λva s_1 k_1 r_1 u_1 o_1 m_1 e_1=>y.use u_1 rm o_1 m_1 e_1 λvb s_2 k_2 r_2 u_2 o_2 m_2 e_2=>?_)
 exact q O M A s_2 E va vb _ e i hs rm o_2 m_2 (r_1.keeps (ja0 k_2)) r_2 λv s' k' r'=>⟨ja1 k_1 (ja1 k_2 k'),r'⟩
theorem ev_item {i:Expr}{a:D}{z:Int}(x:EvS g n ρ e a ka)(y:EvS g n ρ i (.int z) kb)(h:idxD a z=some d)(hk:ka<=k+1)(hs:SubS.notSlice i=true):EvS g n ρ (.Subscript e i pos) d k:=by
 have:=ev_sub (pos:=pos) x y (sub_idx h) hs
 intro O M env A s E u rm aO aM eo
 exact wpAny_mono (this O M env A s E u rm aO aM eo) (λv s' ⟨a,b⟩=>⟨a,b.le (by omega)⟩) λzw zw z=>z
end
noncomputable def jw2 (g:Glob) (n:Nat) (ρ:Rho) (e:Option Expr) (p:Option Int):Prop :=
 match e with
 | none=>p=none
 | some e=>∃k,EvS g n ρ e (match p with | some i=>.int i | none=>.none) k
theorem jo4 {e:Option Expr}{p:Option Int}(x:jw2 g n ρ e p)
  (u:g.Up s) (r:Room n A) (aO:Alloc O s) (aM:Alloc M s) (eo:EnvOk O M ρ env s.heap)
  (q:∀v s',Keeps s s'->IsPart v p->g.Up s'->Alloc O s'->Alloc M s'->EnvOk O M ρ env s'.heap->Q v s'):wpAny g.M A (evalPart e env) Q E s:=by
 cases e with
 | none =>
  cases x
  exact wpAny_pure (q _ _ (ja3 s) .none u aO aM eo)
 | some e =>
  obtain⟨k,x⟩:=x
  refine x.use u r aO aM eo λv s' k' r' u' o' m' e'=>q v s' k' ?_ u' o' m' e'
  cases p with
  | none=>have:=jx9 r'; subst this; exact .none
  | some i=>obtain⟨t,rfl⟩:=ja4 r'; exact .int _ _
noncomputable def jp1 (xs:List D) (lo hi st:Option Int):List D :=
 (sliceRange (sliceBounds lo hi st xs.length).1 (sliceBounds lo hi st xs.length).2.1 (sliceBounds lo hi st xs.length).2.2).filterMap (xs[·]?)
theorem Rds.pick {O M:Avoid}{h:Heap}{k:Nat}{vs:List Value}{ds:List D}(r:Rds O M h k vs ds):∀(is:List Nat),Rds O M h k (is.filterMap (vs[·]?)) (is.filterMap (ds[·]?))
 | []=>.nil
 | i::is=>by
  have ih:=r.pick is
  cases hv:vs[i]? with
  | none =>
   have l:=r.length
   have:ds[i]?=none:=by rw [List.getElem?_eq_none_iff] at hv ⊢; omega
   simp only [List.filterMap_cons,hv,this]
   exact ih
  | some v =>
   obtain⟨d,hd,hr⟩:=r.getV hv
   simp only [List.filterMap_cons,hv,hd]
   exact .cons hr ih
theorem jg0 {lo hi st:Option Expr}{p:Pos}(o i:Value):∃ops,subscripted (.Slice lo hi st p) false o i=operate ops (getItem o i):=by
 cases st with
 | none=>exact⟨_,rfl⟩
 | some e=>exact⟨_,rfl⟩
section
variable {g:Glob} {n:Nat} {ρ:Rho}
theorem qp9 {lo hi st:Option Expr}{p:Pos}{xs:List D}{l h t:Option Int}{ka:Nat}(x:EvS g n ρ e (.list xs) ka)(hl:jw2 g n ρ lo l)(hh:jw2 g n ρ hi h)(ht:jw2 g n ρ st t)(h0:t≠some 0)(hk:ka - 1<=k - 1) :
  EvS g n ρ (.Subscript e (.Slice lo hi st p) pos) (.list (jp1 xs l h t)) k:=by
 intro O M env A s E u rm aO aM eo
 refine Subscript_ (x.use u rm aO aM eo λva s_1 k_1 r_1 u_1 o_1 m_1 e_1=>wpAny_Slice (jo4 hl u_1 rm o_1 m_1 e_1 λvl s_2 k_2 p_2 u_2 o_2 m_2 e_2=>jo4 hh u_2 rm o_2 m_2 e_2 λvh s_3 k_3 p_3 u_3 o_3 m_3 e_3=>jo4 ht u_3 rm o_3 m_3 e_3 λvt s_4 k_4 p_4 u_4 o_4 m4 e_4=>?_))
 ((show let Q0:=_; wpAny _ _ _ Q0 _ _); intro Q0)
 have k5:Keeps s_1 { s_4 with heap:=s_4.heap.push { cls:=.type "slice",data:=.fields #[vl,vh,vt] } }:=ja1 k_2 (ja1 k_3 (ja1 k_4 (ja6 s_4 _ _)))
 have r5:=r_1.keeps (ja0 k5)
 obtain⟨a,vs,m,rfl,h1,h2,h3,_,_⟩:=jc5 r5
 obtain⟨ops,hops⟩:=jg0 (lo:=lo) (hi:=hi) (st:=st) (p:=p) (.ref a) (.ref s_4.heap.objs.size)
 have sz:=h3.length
 rw [Array.length_toList] at sz
 refine tail_any (T:="list") ⟨_,h2,rfl⟩ slot_list_getitem.lookup (wpAny_getItem_list_slice (IsL.isList h2) (Heap.IsSliceOf.new ..) p_2 p_3 p_4 h0 ⟨ja1 k_1 (ja1 k5 (ja6 _ _ _)),?_⟩ (Nat.le_trans h1 jc3)) hops
 refine jl6 ((o_1.keeps k5)) ((m_1.keeps k5)) (Nat.le_trans (slicePick_size_le ..) h1) ?_
 unfold slicePick jp1
 rw [<- sz]
 have e:((sliceRange (sliceBounds l h t vs.size).1 (sliceBounds l h t vs.size).2.1 (sliceBounds l h t vs.size).2.2).filterMap (vs[·]?)).toArray.toList=(sliceRange (sliceBounds l h t vs.size).1 (sliceBounds l h t vs.size).2.1 (sliceBounds l h t vs.size).2.2).filterMap (vs.toList[·]?):=by
  simp
 rw [e]
 exact(h3.pick _).le hk
theorem qz0 {lo hi:Option Expr}{p:Pos}{l h:Option Int}{ka:Nat}(hx:EvS g n ρ e (.str x) ka)(hl:jw2 g n ρ lo l)(hh:jw2 g n ρ hi h)(hz:x.length<=cap) :
  EvS g n ρ (.Subscript e (.Slice lo hi none p) pos) (.str (Txt.slice x l h)) k:=by
 intro O M env A s E u rm aO aM eo
 refine Subscript_ (hx.use u rm aO aM eo λva s_1 k_1 r_1 u_1 o_1 m_1 e_1=>wpAny_Slice (jo4 hl u_1 rm o_1 m_1 e_1 λvl s_2 k_2 p_2 u_2 o_2 m_2 e_2=>jo4 hh u_2 rm o_2 m_2 e_2 λvh s_3 k_3 p_3 u_3 o_3 m_3 e_3=>wpAny_pure (a:=Value.none) ?_))
 have k5:Keeps s_1 { s_3 with heap:=s_3.heap.push { cls:=.type "slice",data:=.fields #[vl,vh,.none] } }:=ja1 k_2 (ja1 k_3 (ja6 s_3 _ _))
 obtain⟨t,rfl⟩:=jh3 r_1
 obtain⟨ops,hops⟩:=jg0 (lo:=lo) (hi:=hi) (st:=none) (p:=p) (.str x t) (.ref s_3.heap.objs.size)
 have hpl:∃pl:Option (Int×Tok),vl=partValue pl/\pl.map (·.1)=l:=by cases p_2 with | none=>exact⟨none,rfl,rfl⟩ | int i u=>exact⟨some (i,u),rfl,rfl⟩
 have hph:∃ph:Option (Int×Tok),vh=partValue ph/\ph.map (·.1)=h:=by cases p_3 with | none=>exact⟨none,rfl,rfl⟩ | int i u=>exact⟨some (i,u),rfl,rfl⟩
 obtain⟨pl,rfl,rfl⟩:=hpl
 obtain⟨ph,rfl,rfl⟩:=hph
 refine tail_any (T:="str") (typeIs_str _ x t) F.slot_str_getitem.lookup (wpAny_getItem_str_slice (l:=pl) (u:=ph) (st:=none) ⟨_,Heap.get?_push_size _ rfl,rfl,rfl⟩ rfl ?_) hops
 unfold sliceMade Txt.slice slicePicked
 simp only [Option.map_none,Option.getD_none]
 split
 ·exact⟨ja1 k_1 k5,.str⟩
 ·refine⟨?_,ja1 k_1 (ja1 k5 (ja5 _ _)),.str⟩
  show(List.toArray _).size<=sizeLine
  rw [List.size_toArray]
  exact Nat.le_trans (List.length_filterMap_le _ _) (Nat.le_trans (indices_len_le _ _ _) (Nat.le_trans hz jc3))
end
end
set_option backward.match.sparseCases true
section
noncomputable def jc1 (g:Glob) (n:Nat) (f:Value) (ds:List D) (ks:Nat) (d:D) (k:Nat):Prop :=
 ∀(O M:Avoid) (A:Around) (s:Shared) (E:Value->Shared->Prop) (vs:List Value),g.Up s->Room n A->Alloc O s->Alloc M s->Rds O M s.heap ks vs ds →
  wpAny g.M A (call f vs) (λv s'=>Keeps s s'/\Rd O M s'.heap k v d) E s
inductive Callee (g:Glob):Str->Value->Prop where
 | fn {x:Str} {a:Addr} {c:Value} {dd:Option Addr} {fd:FuncData} {sl:Array (Option Value)}:nsIn g.K mainGlobals x=some (some (.ref a))->g.K.lookup a=some ⟨c,dd,.func fd,sl⟩->Callee g x (.ref a)
 | bt {x:Str} {id:String}:nsIn g.K mainGlobals x=some none->bootBuiltins x=some (.builtin id)->x≠"__name__"->Callee g x (.builtin id)
 | ty {x:Str} {T:String}:nsIn g.K mainGlobals x=some none->bootBuiltins x=some (.type T)->x≠"__name__"->Callee g x (.type T)
theorem ja9 {pos:Pos}{env:Env}:∀{es:List Expr},es.all jb1=true->(backTo pos (starEach es env)).any (·.1)=false
 | [],_=>rfl
 | e::es,h=>by
  simp only [List.all_cons,Bool.and_eq_true] at h
  have ih:=ja9 (pos:=pos) (env:=env) h.2
  have:starEach (e::es) env=(false,eval e env)::starEach es env:=ji8 h.1
  rw [this]
  show(false || (backTo pos (starEach es env)).any (·.1))=false
  rw [ih]; rfl
theorem ja8 {M:Model}{f:Value}{es:List Expr}{Q:Args->Shared->Prop}(hs:es.all jb1=true)
  (h:wpAny M A (spliced (backTo pos (starEach es env))) (λvs s'=>Q ⟨vs,[]⟩ s') E s):wpAny M A (evalArgs f true (backTo pos (starEach es env)) []) Q E s:=by
 cases es with
 | nil =>
  unfold evalArgs
  show wpAny M A (spliced [] >>= _) Q E s
  refine wpAny_bind (wpAny_mono h (λvs s' h'=>?_) λzw zw x=>x)
  refine wpAny_holding ?_
  exact wpAny_bind (wpAny_pure (wpAny_bind (wpAny_pure (wpAny_pure h'))))
 | cons e es =>
  simp only [List.all_cons,Bool.and_eq_true] at hs
  have:starEach (e::es) env=(false,eval e env)::starEach es env:=ji8 hs.1
  rw [this] at h ⊢
  exact Calls.evalArgs_plain h
section
variable {g:Glob} {n:Nat} {ρ:Rho}
theorem ju1 {p:Pos}{es:List Expr}{ks:Nat}{f:Value}(hf:Callee g x f)(hsc:ρ.sc.lookup x=some .globalImplicit)(hd:(x==("__debug__":Str))=false)(hs:es.all jb1=true)
  (a:EvsS g n ρ es ds ks) (c:jc1 g n f ds ks d k):EvS g n ρ (.Call (.Name x p) es [] pos) d k:=by
 intro O M env A s E u rm aO aM eo
 have tail:wpAny g.M A (spliced (backTo pos (starEach es env))) (λvs s_1=>g.Up s_1/\wpAny g.M A (call f vs) (λv s'=>Keeps s s'/\Rd O M s'.heap k v d) E s_1) E s :=
  wpAny_mono (a O M env A s E pos u rm aO aM eo) (λvs s_1 ⟨k_1,r_1⟩=>⟨u.keeps k_1,wpAny_mono (c O M A s_1 E vs (u.keeps k_1) rm (aO.keeps k_1) (aM.keeps k_1) r_1) (λv s' ⟨k_2,r_2⟩=>⟨ja1 k_1 k_2,r_2⟩) λzw zw z=>z⟩) λzw zw z=>z
 refine Call_ ?_
 cases hf with
 | fn h1 h2 =>
  refine je8 u eo hsc h1 hd ?_
  refine Calls.callWith_function (ja8 hs (wpAny_mono tail (λvs s_1 ⟨u_1,h_1⟩=>⟨⟨u_1 _ _ (g.X _ _ h2),rfl⟩,h_1⟩) λzw zw z=>z))
 | bt h1 h2 h3 =>
  refine jb7 u eo hsc h1 h2 h3 hd ?_
  exact Calls.callWith_builtin (ja9 hs) (ja8 hs (wpAny_mono tail (λvs s_1 ⟨u_1,h_1⟩=>h_1) λzw zw z=>z))
 | ty h1 h2 h3 =>
  refine jb7 u eo hsc h1 h2 h3 hd ?_
  exact PySem.callWith_type (ja9 hs) (ja8 hs (wpAny_mono tail (λvs s_1 ⟨u_1,h_1⟩=>h_1) λzw zw z=>z))
end
end
set_option backward.match.sparseCases false
section
noncomputable abbrev qj9 (xs:List Int):D:=.list (xs.map .int)
theorem jf5 {O M:Avoid}{h:Heap}{k:Nat}:∀{xs:List Int} {vs:List Value},Rds O M h k vs (xs.map .int)->∃ys:List (Int×Tok),vs=ys.map (λp=>Value.int p.1 p.2)/\ys.map (·.1)=xs
 | [],_,.nil=>⟨[],rfl,rfl⟩
 | x::xs,_,.cons a b=>by
  obtain⟨t,rfl⟩:=ja4 a
  obtain⟨ys,rfl,e⟩:=jf5 b
  exact⟨(x,t)::ys,rfl,by rw [List.map_cons,e]⟩
theorem jd2 {O M:Avoid}{h:Heap}{k:Nat}:∀(ys:List (Int×Tok)),Rds O M h k (ys.map (λp=>Value.int p.1 p.2)) ((ys.map (·.1)).map .int)
 | []=>.nil
 | y::ys=>.cons .int (jd2 ys)
noncomputable def minI (xs:List Int):Int:=xs.tail.foldl min (xs.headD 0)
noncomputable def maxI (xs:List Int):Int:=xs.tail.foldl max (xs.headD 0)
theorem jj6:∀(xs:List Int) (a:Int),xs.foldl min a<=a/\(∀y∈xs,xs.foldl min a<=y)/\(xs.foldl min a=a\/xs.foldl min a∈xs)
 | [],a=>⟨Int.le_refl _,λzw h=>(nomatch h),.inl rfl⟩
 | x::xs,a=>by
  first | (have zz:=jj6 xs (min a x); have h1:=zz.1; have h2:=zz.2.1; have h3:=zz.2.2; clear zz) | obtain⟨h1,h2,h3⟩:=jj6 xs (min a x)
  rw [List.foldl_cons]
  refine⟨by grind,λy hy=>?_,?_⟩
  ·rcases List.mem_cons.mp hy with rfl | hy
   ·grind
   ·exact h2 y hy
  ·rcases h3 with h | h
   ·rw [h]
    by_cases hc:a<=x
    ·left; grind
    ·right; rw [Int.min_eq_right (by grind)]; exact List.mem_cons_self
   ·exact .inr (List.mem_cons_of_mem _ h)
theorem jn4:∀(xs:List Int) (a:Int),a<=xs.foldl max a/\(∀y∈xs,y<=xs.foldl max a)/\(xs.foldl max a=a\/xs.foldl max a∈xs)
 | [],a=>⟨Int.le_refl _,λzw h=>(nomatch h),.inl rfl⟩
 | x::xs,a=>by
  first | (have zz:=jn4 xs (max a x); have h1:=zz.1; have h2:=zz.2.1; have h3:=zz.2.2; clear zz) | obtain⟨h1,h2,h3⟩:=jn4 xs (max a x)
  rw [List.foldl_cons]
  refine⟨by grind,λy hy=>?_,?_⟩
  ·rcases List.mem_cons.mp hy with rfl | hy
   ·grind
   ·exact h2 y hy
  ·rcases h3 with h | h
   ·rw [h]
    by_cases hc:x<=a
    ·left; grind
    ·right; rw [Int.max_eq_right (by grind)]; exact List.mem_cons_self
   ·exact .inr (List.mem_cons_of_mem _ h)
theorem uf5 {xs:List Int}(h:xs≠[]):minI xs∈xs/\∀y∈xs,minI xs<=y:=by
 cases xs with
 | nil=>exact absurd rfl h
 | cons x xs =>
  first | (have zz:=jj6 xs x; have h1:=zz.1; have h2:=zz.2.1; have h3:=zz.2.2; clear zz) | obtain⟨h1,h2,h3⟩:=jj6 xs x
  show xs.foldl min x∈x::xs/\∀y∈x::xs,xs.foldl min x<=y
  refine⟨?_,λy hy=>?_⟩
  ·rcases h3 with h | h
   ·rw [h]; exact List.mem_cons_self
   ·exact List.mem_cons_of_mem _ h
  ·rcases List.mem_cons.mp hy with rfl | hy
   ·exact h1
   ·exact h2 y hy
theorem jy7 {xs:List Int}(h:xs≠[]):maxI xs∈xs/\∀y∈xs,y<=maxI xs:=by
 cases xs with
 | nil=>exact absurd rfl h
 | cons x xs =>
  obtain⟨h1,h2,h3⟩:=jn4 xs x
  show xs.foldl max x∈x::xs/\∀y∈x::xs,y<=xs.foldl max x
  refine⟨?_,λy hy=>?_⟩
  ·rcases h3 with h | h
   ·rw [h]; exact List.mem_cons_self
   ·exact List.mem_cons_of_mem _ h
  ·rcases List.mem_cons.mp hy with rfl | hy
   ·exact h1
   ·exact h2 y hy
theorem ji1 {tk:Nat}(h:∀b o,s.heap.get? b=some o->h'.get? b=some o):Keeps s { s with heap:=h',toks:=tk }:=⟨h',tk,rfl,h⟩
section
variable {g:Glob} {n ks k:Nat}
theorem call_int {i:Int}:jc1 g n (.type "int") [.int i] ks (.int i) k:=λO M A s E vs u r aO aM rs=>by
 obtain⟨v,rfl,a⟩:=rs.one_inv
 obtain⟨t,rfl⟩:=ja4 a
 exact call_int_int ⟨ja3 s,.int⟩
theorem ua6 {xs:List D}:jc1 g n (.builtin "len") [.list xs] ks (.int xs.length) k:=λO M A s E vs u r aO aM rs=>by
 obtain⟨v,rfl,a⟩:=rs.one_inv
 obtain⟨a,vs,m,rfl,h1,h2,h3,_,_⟩:=jc5 a
 have l:=h3.length
 rw [Array.length_toList] at l
 have hc:cap=100000:=rfl
 refine Calls.call_len_list (IsL.isList h2) (by grind) ?_
 rw [l]
 exact⟨ja5 s _,.int⟩
theorem ua5 (hx:x.length<=cap):jc1 g n (.builtin "len") [.str x] ks (.int x.length) k:=λO M A s E vs u r aO aM rs=>by
 obtain⟨v,rfl,a⟩:=rs.one_inv
 obtain⟨t,rfl⟩:=jh3 a
 have hc:cap=100000:=rfl
 exact P.len_str (by grind) ⟨ja5 s _,.int⟩
theorem ul1 {a b:Int}:jc1 g n (.builtin "min") [.int a,.int b] ks (.int (min a b)) k:=λO M A s E vs u r aO aM rs=>by
 cases rs with | cons x rs=>cases rs with | cons y rs=>cases rs with | nil =>
  obtain⟨t,rfl⟩:=ja4 x; obtain⟨u,rfl⟩:=ja4 y
  refine min_two_ints r.handled λh' tk hk=>⟨ji1 hk,?_⟩
  split
  ·rw [Int.min_eq_right (by grind)]; exact .int
  ·rw [Int.min_eq_left (by grind)]; exact .int
theorem ul2 {a b:Int}:jc1 g n (.builtin "max") [.int a,.int b] ks (.int (max a b)) k:=λO M A s E vs u r aO aM rs=>by
 cases rs with | cons x rs=>cases rs with | cons y rs=>cases rs with | nil =>
  obtain⟨t,rfl⟩:=ja4 x; obtain⟨u,rfl⟩:=ja4 y
  refine max_two_ints r.handled λh' tk hk=>⟨ji1 hk,?_⟩
  split
  ·rw [Int.max_eq_right (by grind)]; exact .int
  ·rw [Int.max_eq_left (by grind)]; exact .int
theorem qf0 {xs:List Int}(x:Rd O M h k v (qj9 xs)):∃a ys m,v=.ref a/\ys.size<=cap/\IsL h a (intItems ys) m/\ys.toList.map (·.1)=xs:=by
 obtain⟨a,vs,m,rfl,h1,h2,h3,_,_⟩:=jc5 x
 obtain⟨ys,e,hx⟩:=jf5 h3
 have:vs=intItems ys.toArray:=by
  apply Array.ext'
  rw [e]; simp [intItems]
 subst this
 exact⟨a,ys.toArray,m,rfl,by simpa [intItems] using h1,h2,by simpa using hx⟩
theorem ua3 {xs:List Int}(hne:xs≠[]):jc1 g n (.builtin "min") [qj9 xs] ks (.int (minI xs)) k:=λO M A s E vs u r aO aM rs=>by
 obtain⟨v,rfl,a⟩:=rs.one_inv
 obtain⟨a,ys,m,rfl,h1,h2,h3⟩:=qf0 a
 have hs:0 < ys.size:=by
  rcases Nat.eq_zero_or_pos ys.size with h | h
  ·exfalso; apply hne; rw [<- h3,Array.eq_empty_of_size_eq_zero h]; rfl
  ·exact h
 refine min_intList r.handled (IsL.isList h2) hs λv h' tk hv hk=>⟨ji1 hk,?_⟩
 obtain⟨t,rfl⟩:=intItems_at hv
 have hb:=argBest_lt (numAt ys) (ys.size - 1)
 have hl:(ys.toList.map (·.1)).length=ys.size:=by simp
 have e:numAt ys (argBest (λi j=>decide (numAt ys i < numAt ys j)) (ys.size - 1))=minI xs:=by
  rw [<- h3] at hne ⊢
  obtain⟨m1,m2⟩:=uf5 hne
  obtain⟨j,hj,hje⟩:=mem_getD m1
  have b1:=hb.2 j (by omega)
  have b2:=m2 (numAt ys (argBest (λi j=>decide (numAt ys i < numAt ys j)) (ys.size - 1))) (by rw [numAt_eq]; exact getD_mem (by omega))
  rw [numAt_eq ys j,hje] at b1
  omega
 rw [e]; exact .int
theorem ua4 {xs:List Int}(hne:xs≠[]):jc1 g n (.builtin "max") [qj9 xs] ks (.int (maxI xs)) k:=λO M A s E vs u r aO aM rs=>by
 obtain⟨v,rfl,a⟩:=rs.one_inv
 obtain⟨a,ys,m,rfl,h1,h2,h3⟩:=qf0 a
 have hs:0 < ys.size:=by
  rcases Nat.eq_zero_or_pos ys.size with h | h
  ·exfalso; apply hne; rw [<- h3,Array.eq_empty_of_size_eq_zero h]; rfl
  ·exact h
 refine max_intList r.handled (IsL.isList h2) hs λv h' tk hv hk=>⟨ji1 hk,?_⟩
 obtain⟨t,rfl⟩:=intItems_at hv
 have hb:=argBest_gt (numAt ys) (ys.size - 1)
 have hl:(ys.toList.map (·.1)).length=ys.size:=by simp
 have e:numAt ys (argBest (λi j=>decide (numAt ys i > numAt ys j)) (ys.size - 1))=maxI xs:=by
  rw [<- h3] at hne ⊢
  obtain⟨m1,m2⟩:=jy7 hne
  obtain⟨j,hj,hje⟩:=mem_getD m1
  have b1:=hb.2 j (by omega)
  have b2:=m2 (numAt ys (argBest (λi j=>decide (numAt ys i > numAt ys j)) (ys.size - 1))) (by rw [numAt_eq]; exact getD_mem (by omega))
  rw [numAt_eq ys j,hje] at b1
  omega
 rw [e]; exact .int
theorem ua2 {xs:List Int}:jc1 g n (.builtin "sum") [qj9 xs] ks (.int xs.sum) k:=λO M A s E vs u r aO aM rs=>by
 cases rs with | cons a0 b=>cases b with | nil =>
  obtain⟨a,ys,m,rfl,h1,h2,h3⟩:=qf0 a0
  refine call_sum_walkG (iter_intList (IsL.isList h2) λs_2 e st hfp hlI=>?_)
  subst e
  refine⟨_,_,_,_,_,_,numAt ys,rfl,Walks.list (A:=A.in1) r.handled _ a hlI (intItems ys),st,hfp,(λzw zw=>intItems_at),λh' tk t' hk=>⟨ji1 (old_kept hk),?_⟩⟩
  have e:preSum (numAt ys) (intItems ys).size=xs.sum:=by
   have hl:(intItems ys).size=(ys.toList.map (·.1)).length:=by simp [intItems]
   rw [preSum_eq,hl,List.take_length,h3]
  rw [e]; exact .int
end
noncomputable def je2 (e:Expr):Bool:=e.ctorIdx != 16
theorem ji7 {o:Expr}{name:Str}(h:je2 o=true):attributeBase o name env (eval o env)=eval o env:=by
 cases o <;> first | rfl | exact nb h | cases h
section
variable {g:Glob} {n:Nat} {ρ:Rho}
noncomputable def idxOf (xs:List Int) (x:Int):Option Nat:=xs.findIdx? (·==x)
theorem ev_index {a:Expr}{apos:Pos}{xs:List Int}{x:Int}{j:Nat}{ka kb:Nat}(hx:EvS g n ρ e (qj9 xs) ka)(hy:EvS g n ρ a (.int x) kb)(hj:idxOf xs x=some j)(hb:je2 e=true)(hs:jb1 a=true)(hl:(apos.endLine==pos.line)=true) :
  EvS g n ρ (.Call (.Attribute e "index" apos) [a] [] pos) (.int j) k:=by
 intro O M env A s E u rm aO aM eo
 have hst:starEach [a] env=[(false,eval a env)]:=ji8 hs
 refine Call_method1 (ji7 hb) hst hl (hx.use u rm aO aM eo λv s_1 k_1 r_1 u_1 o_1 m_1 e_1=>?_)
 obtain⟨l,ys,m,rfl,h1,h2,h3⟩:=qf0 r_1
 refine⟨"list","list.index",F.plainAttrs_list,F.slot_list_index,F.type_list_index,⟨_,h2,rfl⟩,λb hb=>⟨_,by cases hb; exact h2,rfl⟩,?_⟩
 refine P.index_list (hy.use u_1 rm o_1 m_1 e_1 λw s_2 k_2 r_2 u_2 o_2 m_2 e_2=>?_)
 obtain⟨t,rfl⟩:=ja4 r_2
 have hlen:xs.length=ys.size:=by rw [<- h3]; simp
 obtain⟨hj1,hj2⟩:=List.findIdx?_eq_some_iff_getElem.mp hj
 have hc:cap=100000:=rfl
 have hjs:j < (intItems ys).size:=by simp only [intItems,Array.size_map]; grind
 have item:∀q (hq:q < (intItems ys).size),∃t,(intItems ys)[q]=.int (numAt ys q) t:=λq hq=>intItems_at (Array.getElem?_eq_getElem hq)
 have num:∀q (hq:q < xs.length),numAt ys q=xs[q]:=λq hq=>by
  subst h3
  rw [numAt_eq,getD_at hq]
 refine⟨intItems ys,m,(λy=>match y with | .int i _=>i==x | _=>false),j,hjs,ja0 k_2 _ _ h2,λy hy=>?_,by grind,?_,λq hq hqj=>?_,?_⟩
 ·obtain⟨q,hq,rfl⟩:=Array.mem_iff_getElem.mp hy
  obtain⟨t',e'⟩:=item q hq
  rw [e']
  exact MeetsSeq.EqGives.int _ _ _ _
 ·obtain⟨t',e'⟩:=item j hjs
  rw [e',num j hj1]
  exact hj2.1
 ·obtain⟨t',e'⟩:=item q hq
  rw [e',num q (by grind)]
  have:=hj2.2 q hqj
  simpa using this
 ·exact⟨ja1 k_1 (ja1 k_2 (ja5 _ _)),.int⟩
theorem ev_lower {apos:Pos}{ka:Nat}(hx:EvS g n ρ e (.str x) ka)(hz:(Txt.lower x).length<=cap)(hb:je2 e=true)(hl:(apos.endLine==pos.line)=true) :
  EvS g n ρ (.Call (.Attribute e "lower" apos) [] [] pos) (.str (Txt.lower x)) k:=by
 intro O M env A s E u rm aO aM eo
 refine Call_method0 (ji7 hb) hl (hx.use u rm aO aM eo λv s_1 k_1 r_1 u_1 o_1 m_1 e_1=>?_)
 obtain⟨t,rfl⟩:=jh3 r_1
 exact SB.lower (decide_eq_false (by have:=jc3; grind)) ⟨ja1 k_1 (ja5 _ _),.str⟩
theorem ev_upper {apos:Pos}{ka:Nat}(hx:EvS g n ρ e (.str x) ka)(hz:(Txt.upper x).length<=cap)(hb:je2 e=true)(hl:(apos.endLine==pos.line)=true) :
  EvS g n ρ (.Call (.Attribute e "upper" apos) [] [] pos) (.str (Txt.upper x)) k:=by
 intro O M env A s E u rm aO aM eo
 refine Call_method0 (ji7 hb) hl (hx.use u rm aO aM eo λv s_1 k_1 r_1 u_1 o_1 m_1 e_1=>?_)
 obtain⟨t,rfl⟩:=jh3 r_1
 exact SB.upper (decide_eq_false (by have:=jc3; grind)) ⟨ja1 k_1 (ja5 _ _),.str⟩
end
end
section
noncomputable def Chg (P:Avoid) (s s':Shared):Prop:=(∃h' tk,s'={ s with heap:=h',toks:=tk })/\∀b o,¬P b->s.heap.get? b=some o->s'.heap.get? b=some o
theorem Chg.refl {P:Avoid}:Chg P s s:=⟨⟨_,_,rfl⟩,λzw zw zw e=>e⟩
theorem Chg.trans {P:Avoid}{s'':Shared}(a:Chg P s s')(b:Chg P s' s''):Chg P s s'':=by
 obtain⟨⟨h,tk,rfl⟩,k⟩:=a
 obtain⟨⟨h',tk',rfl⟩,k'⟩:=b
 exact⟨⟨h',tk',rfl⟩,λb o hb e=>k' b o hb (k b o hb e)⟩
theorem Chg.of_keeps {P:Avoid}(a:Keeps s s'):Chg P s s':=by
 obtain⟨h,t,rfl,k⟩:=a
 exact⟨⟨h,t,rfl⟩,λb o zw e=>k b o e⟩
theorem Chg.mono {P P':Avoid}(a:Chg P s s')(h:∀b,P b->P' b):Chg P' s s':=⟨a.1,λb o hb e=>a.2 b o (λz=>hb (h b z)) e⟩
theorem Chg.up {P:Avoid}(a:Chg P s s')(u:g.Up s)(h:∀b o,g.h.get? b=some o->¬P b):g.Up s':=λb o e=>a.2 b o (h b o e) (u b o e)
noncomputable def Tgt (tt:Bool) (target:Expr):Prop:=match tt with
 | false=>∃x p,target=.Name x p
 | true=>∃es k p,target=.Tuple es k p
structure Wid (M W M':Avoid) (s_1:Shared):Prop where
 up:∀b,M b->M' b
 new:∀b,M' b->M b\/W b\/s_1.heap.get? b=none
theorem Wid.refl {W:Avoid}{s_1:Shared}:Wid M W M s_1:=⟨λzw h=>h,λzw h=>.inl h⟩
theorem Wid.not {W M':Avoid}{sa s_1:Shared}(w:Wid M W M' s_1)(k:Keeps sa s_1)(hW:∀b,W b->sa.heap.get? b=none){b:Addr}(hb:(sa.heap.get? b).isSome=true)(h:¬M b):¬M' b:=λz=>by
 obtain⟨o,e⟩:=Option.isSome_iff_exists.mp hb
 rcases w.new b z with z | z | z
 ·exact h z
 ·rw [hW b z] at e; cases e
 ·rw [ja0 k _ _ e] at z; cases z
theorem Wid.rds {O' W M':Avoid}{sa s_1:Shared}(w':Wid O W O' s_1)(w:Wid M W M' s_1)(k:Keeps sa s_1)(hW:∀b,W b->sa.heap.get? b=none){vs:List Value}(r:Rds O M sa.heap 0 vs ds):Rds O' M' sa.heap 0 vs ds :=
 r.imp (λb hb h=>w'.not k hW hb h) (λb hb zw h=>w.not k hW hb h) (Nat.le_refl _)
noncomputable def isFS (o:Obj):Bool:=match o.data with
 | .fields _=>true
 | .seq _ _=>true
 | _=>false
structure Itr (g:Glob) (A:Around) (tt:Bool) (it:Value) (ds:List D) (O M W:Avoid) (s s_1:Shared) (St:Nat->Heap->Prop):Prop where
 start:St 0 s_1.heap
 wnew:∀b,W b->s.heap.get? b=none/\∃o,s_1.heap.get? b=some o
 kinds:∀i h,St i h->∀b,W b->∃o,h.get? b=some o/\isFS o=true
 frame:∀i h h',St i h->(∀b o,¬O b->¬M b->(∃o',s_1.heap.get? b=some o')->h.get? b=some o->h'.get? b=some o)->St i h'
 item:∀(O' M':Avoid) i d (t:Shared) (target:Expr) (E:Value->Shared->Prop) (Q:Value->Shared->Prop),Wid O W O' s_1->Wid M W M' s_1->Tgt tt target->ds[i]?=some d->St i t.heap->Alloc O' t->Alloc M' t →
  (∀v t_2,Chg W t t_2->Rd O' M' t_2.heap 0 v d->St (i+1) t_2.heap->Q v t_2) →
  wpAny g.M A (pyNext it) (λr t_1=>∃v,r=some v/\wpAny g.M A (letOwnedTupleGo target it v) (λzw t_2=>Q v t_2) E t_1) E t
 done:∀(t:Shared) (E:Value->Shared->Prop) (Q:Option Value->Shared->Prop),St ds.length t.heap->(∀t_1,Chg W t t_1->Q none t_1)->wpAny g.M A (pyNext it) Q E t
 self:∀(t:Shared) (E:Value->Shared->Prop) (Q:Value->Shared->Prop),St 0 t.heap->Q it t->wpAny g.M A (pyIter it) Q E t
noncomputable def Agree (O M:Avoid) (sa:Shared) (h:Heap):Prop:=∀b c vs n,¬O b->¬M b->sa.heap.get? b=some { cls:=c,data:=.seq vs n }->h.get? b=some { cls:=c,data:=.seq vs n }
theorem Agree.refl {sa s_1:Shared}(k:Keeps sa s_1):Agree O M sa s_1.heap:=λzw zw zw zw zw zw e=>ja0 k _ _ e
theorem Rd.both (hk:∀b c vs n,¬O b->¬M b->h.get? b=some { cls:=c,data:=.seq vs n }->h'.get? b=some { cls:=c,data:=.seq vs n })(e:k=0)(x:Rd O M h k v d):Rd O M h' k v d :=
 x.gen (λk k'=>k=0/\k'=0) jq4 (λe a b c=>⟨a,λzw=>b e.1,hk _ _ _ _ a (b e.1) c⟩) ⟨e,e⟩
theorem Agree.rd {O' M':Avoid}{sa:Shared}(a:Agree O M sa h)(up':∀b,O b->O' b)(up:∀b,M b->M' b)(r:Rd O' M' sa.heap 0 v d):Rd O' M' h 0 v d:=r.both (λb c vs n ho hb e=>a b c vs n (λz=>ho (up' b z)) (λz=>hb (up b z)) e) rfl
theorem jd5 {t:Shared}{Q:Unit->Shared->Prop}{it:Value}(h:Tgt false target)(q:Q () t):wpAny g.M A (letOwnedTupleGo target it v) Q E t:=by
 obtain⟨x,p,rfl⟩:=h
 exact wpAny_pure (a:=()) q
theorem jc2 {sa:Shared}(k:Keeps s sa):s.heap.get? sa.heap.objs.size=none:=by
 cases h:s.heap.get? sa.heap.objs.size with
 | none=>rfl
 | some o=>exact absurd (Heap.lt_size (ja0 k _ _ h)) (Nat.lt_irrefl _)
theorem je5 {sa:Shared}(k:Keeps s sa){b:Addr}(hb:sa.heap.objs.size<=b):s.heap.get? b=none:=by
 cases h:s.heap.get? b with
 | none=>rfl
 | some o=>exact absurd (Heap.lt_size (ja0 k _ _ h)) (Nat.not_lt.mpr hb)
noncomputable def isTup:D->Bool
 | .tuple _=>true
 | _=>false
section
variable {g:Glob} {A:Around} {O M:Avoid}
theorem itr_list {tt:Bool}{sa s_1:Shared}{it:Addr}{vs:Array Value}{m:Nat}(hh:A.handled=none)(k_0:Keeps s sa)(k_1:Keeps sa s_1)(hn:sa.heap.get? it=none)(h1:s_1.heap.IsListIter it a 0)(aOa:Alloc O sa)(aM:Alloc M sa)(hO:¬O a)(hM:¬M a)(hl:IsL sa.heap a vs m)(r:Rds O M sa.heap 0 vs.toList ds)(ht:tt=true->ds.all isTup=true) :
  Itr g A tt (.ref it) ds O M (λb=>b=it) s s_1 (λi h=>h.IsListIter it a i/\Agree O M sa h):=by
 have hlen:=r.length
 rw [Array.length_toList] at hlen
 have hW:∀b,b=it->sa.heap.get? b=none:=λb hb=>hb ▸ hn
 have f1:∃o,s_1.heap.get? it=some o:=h1.elim λo zq=>zq.elim λh zw=>⟨o,h⟩
 have nO:¬O it:=λz=>by obtain⟨o,e⟩:=aOa _ z; exact no (hn.symm.trans e)
 have nM:¬M it:=λz=>by obtain⟨o,e⟩:=aM _ z; exact no (hn.symm.trans e)
 refine⟨⟨h1,Agree.refl k_1⟩,λb hb=>by
   subst hb
   refine⟨?_,f1⟩
   cases e:s.heap.get? b with
   | none=>rfl
   | some o=>exact no (hn.symm.trans (ja0 k_0 _ _ e)),λi h st b hb=>by
   subst hb
   obtain⟨o,ho,hc,hd⟩:=st.1
   exact⟨o,ho,by unfold isFS; rw [hd]⟩,
  λi h h' st hk=>st.1.elim λo zq=>⟨⟨o,hk _ _ nO nM f1 zq.1,zq.2⟩,λb c ws n ho hb e=>hk _ _ ho hb ⟨_,ja0 k_1 _ _ e⟩ (st.2 b c ws n ho hb e)⟩,?_,?_,?_⟩
 ·intro O' M' i d t target E Q wd' wd htg hd hJ0 aO aM' q
  obtain⟨hit,ag⟩:=hJ0
  obtain⟨v,hv,hr⟩:=(wd'.rds wd k_1 hW r).get hd
  have hl':t.heap.IsList a vs:=IsL.isList (ag a _ _ _ hO hM hl)
  refine wpAny_pyNext_list_item hit hl' (by rw [<- Array.getElem?_toList]; exact hv) λh' hit' hs'=>⟨v,rfl,?_⟩
  have ag':Agree O M sa h':=λb c ws n ho hb e=>hs'.extBut b _ (λz=>no (hn.symm.trans (z ▸ e))) (ag b c ws n ho hb e)
  have fin:=q v { t with heap:=h' } ⟨⟨h',t.toks,rfl⟩,λb o hb e=>hs'.extBut b o hb e⟩ (ag'.rd wd'.up wd.up hr) ⟨hit',ag'⟩
  cases tt with
  | false=>exact jd5 htg fin
  | true =>
   obtain⟨es,k,p,rfl⟩:=htg
   have hd':isTup d=true:=List.all_eq_true.mp (ht rfl) d (List.mem_of_getElem? hd)
   cases hr with
   | tup=>exact wpAny_letOwnedTupleGo_listiter hit' fin
   | _=>first | exact no hd' | exact nb hd' | cases hd'
 ·intro t E Q hJ0 q
  obtain⟨hit,ag⟩:=hJ0
  exact wpAny_pyNext_list_end hh hit (IsL.isList (ag a _ _ _ hO hM hl)) (by rw [<- hlen]; simp) λh' he'=>q _ ⟨⟨h',t.toks,rfl⟩,λb o hb e=>he' b o hb e⟩
 ·intro t E Q hJ0 q
  obtain⟨hit,ag⟩:=hJ0
  exact wpAny_pyIter_listiter hit q
end
noncomputable def IterS (g:Glob) (n:Nat) (ρ:Rho) (tt:Bool) (e:Expr) (ds:List D):Prop :=
 ∀(O M:Avoid) (env:Env) (A:Around) (s:Shared) (E:Value->Shared->Prop) (Q:Value->Shared->Prop),g.Up s->Room n A->Alloc O s->Alloc M s->EnvOk O M ρ env s.heap →
  (∀it s_1 W St,Keeps s s_1->Itr g A tt it ds O M W s s_1 St->Q it s_1)->wpAny g.M A (eval e env) (λx s'=>wpAny g.M A (pyIter x) Q E s') E s
section
variable {g:Glob} {n:Nat} {ρ:Rho}
theorem uh0 {tt:Bool}(x:EvS g n ρ e (.list ds) 0)(ht:tt=true->ds.all isTup=true):IterS g n ρ tt e ds:=by
 intro O M env A s E Q u rm aO aM eo q
 refine x.use u rm aO aM eo λv sa k_1 r_1 u_1 o_1 m_1 e_1=>?_
 obtain⟨a,vs,m,rfl,h1,h2,h3,h4,h5⟩:=jc5 r_1
 exact wpAny_pyIter_list (IsL.isList h2) (q _ _ _ _ (ja1 k_1 (ja6 sa _ _)) (itr_list rm.handled k_1 (ja6 sa _ _) (jc2 (ja3 sa)) ⟨_,Heap.get?_push_size _ rfl,rfl,rfl⟩ o_1 m_1 h4 (h5 rfl) h2 h3 ht))
end
noncomputable def jd9 (a b c:Int):List Int:=(List.range (Builtin.Range.rangeSize a b c).toNat).map λ(i:Nat)=>a+(i:Int)*c
section
variable {g:Glob} {A:Around} {O M:Avoid}
theorem ug9 {sa:Shared}{a c:Int}(hh:A.handled=none)(k_0:Keeps s sa)(aOa:Alloc O sa)(aM:Alloc M sa) :
  Itr g A false (.ref sa.heap.objs.size) (((List.range n).map λ(i:Nat)=>a+(i:Int)*c).map .int) O M (λb=>b=sa.heap.objs.size) s { sa with heap:=sa.heap.push { cls:=.type "range_iterator",data:=.fields #[rawInt a,rawInt (n:Int),rawInt c] } }
   (λi h=>IsRangeIter h sa.heap.objs.size (a+(i:Int)*c) ((n:Int) - (i:Int)) c):=by
 have W:=Walks.range (prog:=g.prog) (w:=g.w) (A:=A) hh sa.heap.objs.size a c n
 have h1:∃o,({ sa with heap:=sa.heap.push { cls:=.type "range_iterator",data:=.fields #[rawInt a,rawInt (n:Int),rawInt c] } }:Shared).heap.get? sa.heap.objs.size=some o:=⟨_,Heap.get?_push_size _ rfl⟩
 refine⟨?_,λb hb=>by subst hb; exact⟨jc2 k_0,h1⟩,λi h st b hb=>by subst hb; exact⟨_,st,rfl⟩,λi h h' st hk=>hk _ _ aOa.new aM.new h1 st,?_,?_,?_⟩
 ·show IsRangeIter (sa.heap.push _) _ _ _ _
  have:a+((0:Nat):Int)*c=a:=by simp
  rw [this]
  have:(n:Int) - ((0:Nat):Int)=n:=by simp
  rw [this]
  exact Heap.get?_push_size _ rfl
 ·intro O' M' i d t target E Q wd' wd htg hd st aO aM' q
  have hi:i < n:=by
   have:=(List.getElem?_eq_some_iff.mp hd).1
   simpa using this
  have hd':d=.int (a+(i:Int)*c):=by
   simp [hi] at hd
   exact hd.symm
  subst hd'
  refine W.item i t _ E hi st λv h' tk hv st' hk=>⟨v,rfl,?_⟩
  obtain⟨u,rfl⟩:=hv
  exact jd5 htg (q _ _ ⟨⟨_,_,rfl⟩,λb o hb e=>hk b o (by simpa using hb) e⟩ .int st')
 ·intro t E Q st q
  have hl:(((List.range n).map λ(i:Nat)=>a+(i:Int)*c).map PyData.int).length=n:=by simp
  rw [hl] at st
  exact W.done t Q E st λh' tk hk=>q _ ⟨⟨_,_,rfl⟩,λb o hb e=>hk b o (by simpa using hb) e⟩
 ·intro t E Q st q
  exact W.self 0 t Q E st q
theorem ug8 {sa:Shared}{t:Tok}{o:Obj}{St:Nat->Heap->Prop}(kd:∀i h,St i h->∃o,h.get? sa.heap.objs.size=some o/\isFS o=true)(W:Walks g.prog g.w A sa.heap.objs.size [sa.heap.objs.size] [sa.heap.objs.size] x.cps.size (SignAt x) St)(hst:St 0 (sa.heap.push o))(ho:o.isFreed=false)(k_0:Keeps s sa)(aOa:Alloc O sa)(aM:Alloc M sa) :
  Itr g A false (.ref sa.heap.objs.size) (x.cps.toList.map λc=>.str ⟨#[c]⟩) O M (λb=>b=sa.heap.objs.size) s { sa with heap:=sa.heap.push o } St:=by
 have h1:∃o',({ sa with heap:=sa.heap.push o }:Shared).heap.get? sa.heap.objs.size=some o':=⟨_,Heap.get?_push_size _ ho⟩
 refine⟨hst,λb hb=>by subst hb; exact⟨jc2 k_0,h1⟩,λi h st b hb=>by subst hb; exact kd i h st,λi h h' st hk=>W.frame _ _ _ st λb hb o e=>?_,?_,?_,?_⟩
 ·rcases List.mem_cons.mp hb with rfl | hb
  ·exact hk _ _ aOa.new aM.new h1 e
  ·cases hb
 ·intro O' M' i d t target E Q wd' wd htg hd st aO aM' q
  simp only [List.getElem?_map,Option.map_eq_some_iff] at hd
  obtain⟨c,hc,rfl⟩:=hd
  have hi:i < x.cps.size:=by simpa using (List.getElem?_eq_some_iff.mp hc).1
  refine W.item i t _ E hi st λv h' tk hv st' hk=>⟨v,rfl,?_⟩
  obtain⟨c',u,hc',rfl⟩:=hv
  rw [Array.getElem?_toList] at hc
  rw [hc] at hc'
  cases hc'
  exact jd5 htg (q _ _ ⟨⟨_,_,rfl⟩,λb o hb e=>hk b o (by first | omega | simpa using hb) e⟩ .str st')
 ·intro t E Q st q
  rw [List.length_map,Array.length_toList] at st
  exact W.done t Q E st λh' tk hk=>q _ ⟨⟨_,_,rfl⟩,λb o hb e=>hk b o (by first | grind | simpa using hb) e⟩
 ·intro t E Q st q
  exact W.self 0 t Q E st q
end
section
variable {g:Glob} {n:Nat} {ρ:Rho}
theorem iter_str (hx:EvS g n ρ e (.str x) k):IterS g n ρ false e (x.cps.toList.map λc=>.str ⟨#[c]⟩):=by
 intro O M env A s E Q u rm aO aM eo q
 refine hx.use u rm aO aM eo λv sa k_1 r_1 u_1 o_1 m_1 e_1=>?_
 obtain⟨t,rfl⟩:=jh3 r_1
 refine wpAny_pyIter_strU ?_
 cases ha:x.cps.all (· < 128)
 ·have e:strIterType x="str_iterator":=by simp [strIterType,ha]
  rw [e]
  exact q _ _ _ _ (ja1 k_1 (ja6 sa _ _)) (ug8 (t:=t) (λi h st=>let ⟨o,ho,hc,hd⟩:=st; ⟨o,ho,by unfold isFS; rw [hd]⟩) (Walks.strWide rm.handled _ x t) ⟨_,Heap.get?_push_size _ rfl,rfl,rfl⟩ rfl k_1 o_1 m_1)
 ·have e:strIterType x="str_ascii_iterator":=by simp [strIterType,ha]
  rw [e]
  exact q _ _ _ _ (ja1 k_1 (ja6 sa _ _)) (ug8 (t:=t) (λi h st=>let ⟨o,ho,hc,hd⟩:=st; ⟨o,ho,by unfold isFS; rw [hd]⟩) (Walks.strAscii rm.handled _ x t) ⟨_,Heap.get?_push_size _ rfl,rfl,rfl⟩ rfl k_1 o_1 m_1)
noncomputable def jo8 (a b c:Int):Bool:=decide (-1000000<=a) && decide (a<=1000000) && decide (-1000000<=b) && decide (b<=1000000) && decide (0 < c) && decide (c<=1000)
theorem jr4 {a b c:Int}(h:jo8 a b c=true):0<=Builtin.Range.rangeSize a b c/\Builtin.Range.rangeSize a b c<=2000000/\Builtin.Range.small a b c=true:=by
 unfold jo8 at h
 simp only [Bool.and_eq_true,decide_eq_true_eq] at h
 obtain⟨⟨⟨⟨⟨h1,h2⟩,h3⟩,h4⟩,h5⟩,h6⟩:=h
 have sz:0<=Builtin.Range.rangeSize a b c/\Builtin.Range.rangeSize a b c<=2000000:=by
  clear h6
  unfold Builtin.Range.rangeSize
  rw [if_pos h5]
  by_cases hab:a < b
  ·rw [if_pos hab]
   have e0:0<=b - a - 1:=by omega
   have e1:=Int.ediv_nonneg e0 (Int.le_of_lt h5)
   have e2:=Int.ediv_le_self c e0
   have e3:b - a - 1+1<=2000000:=by omega
   exact⟨Int.le_add_one e1,Int.le_trans (Int.add_le_add_right e2 1) e3⟩
  ·rw [if_neg hab]; exact⟨Int.le_refl 0,by decide⟩
 refine⟨sz.1,sz.2,?_⟩
 unfold Builtin.Range.small Builtin.Range.rangeFitsLong
 rw [if_pos h5]
 simp only [Bool.and_eq_true,decide_eq_true_eq,Bool.or_eq_true]
 have l:-(2 ^ 63)<=(-1000000:Int):=by decide
 have u:(1000000:Int) < 2 ^ 63:=by decide
 have e1:-(2 ^ 63)<=(0:Int):=by decide
 have e2:(1000:Int) < 2 ^ 63:=by decide
 have e3:(2000000:Int) < 2 ^ 63:=by decide
 have e4:0<=c - 1/\b+(c - 1)<=2000000:=⟨by omega,by omega⟩
 exact⟨⟨⟨⟨⟨Int.le_trans l h1,Int.lt_of_le_of_lt h2 u⟩,Int.le_trans l h3,Int.lt_of_le_of_lt h4 u⟩,Int.le_trans e1 (Int.le_of_lt h5),Int.lt_of_le_of_lt h6 e2⟩,Int.le_trans e1 sz.1,Int.lt_of_le_of_lt sz.2 e3⟩,.inr ⟨Int.le_trans (Int.le_trans l h3) (Int.le_add_of_nonneg_right e4.1),Int.lt_of_le_of_lt e4.2 e3⟩⟩
theorem js1 {sa:Shared}{a b c:Int}{t u v:Tok}{tk:Nat}(h:jo8 a b c=true)(hh:A.handled=none)(k_1:Keeps s sa)(o_1:Alloc O sa)(m_1:Alloc M sa)
  (q:∀it s_1 W St,Keeps s s_1->Itr g A false it ((jd9 a b c).map .int) O M W s s_1 St->Q it s_1) :
  wpAny g.M A (pyIter (.ref sa.heap.objs.size)) Q E { sa with heap:=sa.heap.push { cls:=.type "range",data:=.fields #[.int a t,.int b u,.int c v] },toks:=tk }:=by
 obtain⟨z1,z2,z3⟩:=jr4 h
 have kk:Keeps sa { sa with heap:=sa.heap.push { cls:=.type "range",data:=.fields #[.int a t,.int b u,.int c v] },toks:=tk }:=ja6 sa _ _
 refine wpAny_pyIter_range (Heap.get?_push_size _ rfl) z3 ?_
 have:=ug9 (g:=g) (O:=O) (a:=a) (c:=c) (n:=(Builtin.Range.rangeSize a b c).toNat) hh (ja1 k_1 kk) (o_1.keeps kk) (m_1.keeps kk)
 rw [Int.toNat_of_nonneg z1] at this
 exact q _ _ _ _ (ja1 k_1 (ja1 kk (ja6 _ _ _))) this
theorem qg7 {es:Expr}(x:EvS g n ρ es d k)(hs:jb1 es=true):EvsS g n ρ [es] [d] k:=jh0 x jj2 hs
theorem jp8 {p:Pos}{b:Int}(hc:Callee g "range" (.type "range"))(hsc:ρ.sc.lookup ("range":Str)=some .globalImplicit)(x:EvS g n ρ e (.int b) k)(hs:jb1 e=true)(h:jo8 0 b 1=true) :
  IterS g n ρ false (.Call (.Name "range" p) [e] [] pos) ((jd9 0 b 1).map .int):=by
 intro O M env A s E Q u rm aO aM eo q
 cases hc with
 | ty h1 h2 h3 =>
  refine Call_ (jb7 u eo hsc h1 h2 h3 (by decide) (PySem.callWith_type (ja9 (by simp [hs])) (ja8 (by simp [hs]) (wpAny_mono (qg7 x hs O M env A s E pos u rm aO aM eo) (λvs sa hJ0=>?_) λzw zw z=>z))))
  obtain⟨k_1,r_1⟩:=hJ0
  obtain⟨v,rfl,a⟩:=r_1.one_inv
  obtain⟨t,rfl⟩:=ja4 a
  exact call_range_1 (js1 h rm.handled k_1 (aO.keeps k_1) (aM.keeps k_1) q)
theorem qo4 {p:Pos}{e':Expr}{a b:Int}(hc:Callee g "range" (.type "range"))(hsc:ρ.sc.lookup ("range":Str)=some .globalImplicit)(x:EvS g n ρ e (.int a) k)(y:EvS g n ρ e' (.int b) k)(hs:jb1 e=true)(hs':jb1 e'=true)(h:jo8 a b 1=true) :
  IterS g n ρ false (.Call (.Name "range" p) [e,e'] [] pos) ((jd9 a b 1).map .int):=by
 intro O M env A s E Q u rm aO aM eo q
 cases hc with
 | ty h1 h2 h3 =>
  refine Call_ (jb7 u eo hsc h1 h2 h3 (by decide) (PySem.callWith_type (ja9 (by simp [hs,hs'])) (ja8 (by simp [hs,hs']) (wpAny_mono (jh0 x (qg7 y hs') hs O M env A s E pos u rm aO aM eo) (λvs sa hJ0=>?_) λzw zw z=>z))))
  obtain⟨k_1,r_1⟩:=hJ0
  obtain⟨v,w,rfl,a,b⟩:=r_1.two_inv
  obtain⟨t,rfl⟩:=ja4 a
  obtain⟨t',rfl⟩:=ja4 b
  exact call_range_2 (js1 h rm.handled k_1 (aO.keeps k_1) (aM.keeps k_1) q)
end
section
variable {g:Glob} {A:Around} {O M:Avoid}
noncomputable def ql1 (ds:List D):List D:=(List.range ds.length).map λ(i:Nat)=>.tuple [.int (i:Int),ds.getD i .none]
theorem uj6 {i:Nat}(h:(ql1 ds)[i]?=some d):∃x,ds[i]?=some x/\d=.tuple [.int (i:Int),x]:=by
 unfold ql1 at h
 simp only [List.getElem?_map,Option.map_eq_some_iff] at h
 obtain⟨j,hj,rfl⟩:=h
 obtain⟨hl,rfl⟩:=List.getElem?_eq_some_iff.mp hj
 rw [List.length_range] at hl
 simp only [List.getElem_range]
 exact⟨_,List.getElem?_eq_getElem hl,by simp [List.getD_eq_getElem?_getD,List.getElem?_eq_getElem hl]⟩
theorem ql0 (ds:List D):(ql1 ds).length=ds.length:=by first | grind [ql1] | simp [ql1]
theorem itr_enum {sa s_1:Shared}{en it:Addr}{vs:Array Value}{m:Nat}(hh:A.handled=none)(k_0:Keeps s sa)(k_1:Keeps sa s_1)(aOa:Alloc O sa)(aM:Alloc M sa)(hO:¬O a)(hM:¬M a)(hl:IsL sa.heap a vs m)(r:Rds O M sa.heap 0 vs.toList ds)
  (l1:@LE.le Nat _ sa.heap.objs.size en) (l2:@LE.le Nat _ sa.heap.objs.size it) (ne:it≠en) (he:IsEnum s_1.heap en it 0 .none) (hi:s_1.heap.IsListIter it a 0) :
  Itr g A true (.ref en) (ql1 ds) O M (λb=>b=en\/b=it) s s_1 (λi h=>(∃old,IsEnum h en it i old)/\h.IsListIter it a i/\Agree O M sa h):=by
 have hlen:=r.length
 rw [Array.length_toList] at hlen
 have e1:∃o,s_1.heap.get? it=some o:=(hi).elim λo zq=>zq.elim λh zw=>⟨o,h⟩
 have e2:∃o,s_1.heap.get? en=some o:=⟨_,he⟩
 have nO:∀c,@LE.le Nat _ sa.heap.objs.size c->¬O c:=λc hc z=>by obtain⟨o,e⟩:=aOa _ z; exact absurd (Heap.lt_size e) (Nat.not_lt.mpr hc)
 have nM:∀c,@LE.le Nat _ sa.heap.objs.size c->¬M c:=λc hc z=>by obtain⟨o,e⟩:=aM _ z; exact absurd (Heap.lt_size e) (Nat.not_lt.mpr hc)
 have le:∀b,(b=en\/b=it)->@LE.le Nat _ sa.heap.objs.size b:=λb hb=>hb.elim (λz=>z ▸ l1) λz=>z ▸ l2
 have hP:∀b,(b=en\/b=it)->s.heap.get? b=none/\∃o,s_1.heap.get? b=some o:=λb hb=>⟨je5 k_0 (le b hb),hb.elim (λz=>z ▸ e2) λz=>z ▸ e1⟩
 have nA:∀{b c ws n},sa.heap.get? b=some { cls:=c,data:=.seq ws n }->b≠en/\b≠it:=λe=>⟨Nat.ne_of_lt (Nat.lt_of_lt_of_le (Heap.lt_size e) l1),Nat.ne_of_lt (Nat.lt_of_lt_of_le (Heap.lt_size e) l2)⟩
 have hW:∀b,(b=en\/b=it)->sa.heap.get? b=none:=λb hb=>je5 (ja3 sa) (le b hb)
 refine⟨⟨⟨_,he⟩,hi,Agree.refl k_1⟩,hP,?_,?_,?_,?_,?_⟩
 ·intro i h hJ b hb
  obtain⟨⟨old,h1⟩,⟨o,ho,hc,hd⟩,ag⟩:=hJ
  rcases hb with rfl | rfl
  ·exact⟨_,h1,rfl⟩
  ·exact⟨o,ho,by unfold isFS; rw [hd]⟩
 ·intro i h h' hJ hk
  obtain⟨⟨old,h1⟩,⟨o,ho,hr⟩,ag⟩:=hJ
  exact⟨⟨old,hk _ _ (nO _ l1) (nM _ l1) e2 h1⟩,⟨o,hk _ _ (nO _ l2) (nM _ l2) e1 ho,hr⟩,λb c ws n ho hb e=>hk _ _ ho hb ⟨_,ja0 k_1 _ _ e⟩ (ag b c ws n ho hb e)⟩
 ·intro O' M' i d t target E Q wd' wd htg hd hJ0 aO aM' q
  obtain⟨⟨old,h1⟩,hit,ag⟩:=hJ0
  obtain⟨x,hx,rfl⟩:=uj6 hd
  obtain⟨v,hv,hr⟩:=(wd'.rds wd k_1 hW r).get hx
  obtain⟨es,k,p,rfl⟩:=htg
  have hl':t.heap.IsList a vs:=IsL.isList (ag a _ _ _ hO hM hl)
  refine wpAny_pyNext_enum_item h1 hit hl' (by rw [<- Array.getElem?_toList]; exact hv) ne.symm λh' ho hit' hT hsz hk=>⟨_,rfl,?_⟩
  refine wpAny_letOwnedTupleGo_enum ho λh'' he'' hs''=>?_
  have nt:∀{b o},t.heap.get? b=some o->b≠t.heap.objs.size:=λe=>Nat.ne_of_lt (Heap.lt_size e)
  have ag':Agree O M sa h'':=λb c ws n ho hb e=>by
   have z:=nA e
   have e':=hk b _ z.1 z.2 (ag b c ws n ho hb e)
   exact hs''.extBut b _ z.1 e'
  have eff:Chg (λb=>b=en\/b=it) t { t with heap:=h'',toks:=t.toks+1 }:=⟨⟨_,_,rfl⟩,λb o hb e=>hs''.extBut b o (λz=>hb (.inl z)) (hk b o (λz=>hb (.inl z)) (λz=>hb (.inr z)) e)⟩
  have hne:t.heap.objs.size≠en:=Nat.ne_of_gt (Heap.lt_size h1)
  refine q _ _ eff ?_ ⟨⟨_,by simpa using he''⟩,?_,ag'⟩
  ·refine .tup aO.new (λzw=>aM'.new) (by show 2<=cap; decide) (hs''.extBut _ _ hne hT) (.cons .int (.cons (ag'.rd wd'.up wd.up hr) .nil))
  ·obtain⟨o,ho',hr'⟩:=hit'
   exact⟨o,hs''.extBut _ _ ne ho',hr'⟩
 ·intro t E Q hJ0 q
  obtain⟨⟨old,h1⟩,hit,ag⟩:=hJ0
  rw [ql0] at h1 hit
  refine wpAny_pyNext_enum_end hh h1 hit (IsL.isList (ag a _ _ _ hO hM hl)) (by rw [<- hlen]; simp) λh' he'=>q _ ⟨⟨_,t.toks,rfl⟩,λb o hb e=>he' b o (λz=>hb (.inr z)) e⟩
 ·intro t E Q hJ0 q
  obtain⟨⟨old,h1⟩,hit,ag⟩:=hJ0
  exact wpAny_pyIter_enum h1 q
end
section
variable {g:Glob} {n:Nat} {ρ:Rho}
theorem uh1 {p:Pos}(hc:Callee g "enumerate" (.type "enumerate"))(hsc:ρ.sc.lookup ("enumerate":Str)=some .globalImplicit)(x:EvS g n ρ e (.list ds) 0)(hs:jb1 e=true) :
  IterS g n ρ true (.Call (.Name "enumerate" p) [e] [] pos) (ql1 ds):=by
 intro O M env A s E Q u rm aO aM eo q
 cases hc with
 | ty h1 h2 h3 =>
  refine Call_ (jb7 u eo hsc h1 h2 h3 (by decide) (PySem.callWith_type (ja9 (by simp [hs])) (ja8 (by simp [hs]) (wpAny_mono (qg7 x hs O M env A s E pos u rm aO aM eo) (λvs sa hJ0=>?_) λzw zw z=>z))))
  obtain⟨k_1,r_1⟩:=hJ0
  obtain⟨v,rfl,a⟩:=r_1.one_inv
  obtain⟨l,us,m,rfl,g1,g2,g3,g4,g5⟩:=jc5 a
  refine call_enumerate_list (IsL.isList g2) λh' he hi hz hk=>wpAny_pyIter_enum he ?_
  exact q _ _ _ _ (ja1 k_1 (ji1 (tk:=sa.toks) hk)) (itr_enum rm.handled k_1 (ji1 (tk:=sa.toks) hk) (aO.keeps k_1) (aM.keeps k_1) g4 (g5 rfl) g2 g3 (Nat.le_add_right _ 1) (Nat.le_refl _) (Nat.ne_of_lt (Nat.lt_succ_self _)) he hi)
end
end
section
structure FrameOk (env:Env) (h:Heap):Prop where
 ns:∃m,h.Ns env.locals m
 cell:∀x,env.kindOf x=some .cell->∃c v,env.cells.lookup x=some c/\h.IsCell c v
theorem FrameOk.keeps (x:FrameOk env h)(hk:∀b o,h.get? b=some o->h'.get? b=some o):FrameOk env h' :=
 ⟨(x.ns).elim λm e=>⟨m,e.keeps hk⟩,λy hy=>let ⟨c,v,a,b⟩:=x.cell y hy; ⟨c,v,a,b.keeps hk⟩⟩
noncomputable def jl3 (env:Env) (x:Str):Addr:=match env.kindOf x with
 | some .local=>env.locals
 | _=>(env.cells.lookup x).getD 0
structure Stored (env:Env) (x:Str) (h h':Heap):Prop where
 same:Heap.SameBut (jl3 env x) h h'
 seqs:∀b c vs n,h.get? b=some { cls:=c,data:=.seq vs n }->h'.get? b=some { cls:=c,data:=.seq vs n }
theorem jj0 {b:Addr}{m:Str->Option Value}{c:Value}{vs:Array Value}(x:h.Ns a m)(y:h.get? b=some { cls:=c,data:=.seq vs n }):b≠a:=λz=>by
 subst z
 obtain⟨o,es,ep,ho,hd,_⟩:=x
 rw [ho] at y
 cases y
 cases hd
theorem qq3 {b:Addr}{v:Option Value}{c:Value}{vs:Array Value}(x:h.IsCell a v)(y:h.get? b=some { cls:=c,data:=.seq vs n }):b≠a:=λz=>by
 subst z
 obtain⟨o,ho,hd⟩:=x
 rw [ho] at y
 cases y
 cases hd
theorem ji4 {b:Addr}{m:Str->Option Value}{v:Option Value}(x:h.Ns a m)(y:h.IsCell b v):b≠a:=λz=>by
 subst z
 obtain⟨o,es,ep,ho,hd,_⟩:=x
 obtain⟨o',ho',hd'⟩:=y
 rw [ho] at ho'
 cases ho'
 rw [hd] at hd'
 cases hd'
theorem qc4 {y:Str}{d':D}{k':Nat}(h:(ρ.set x d k).vars.lookup y=some (d',k')):(y=x/\d'=d/\k'=k)\/(y≠x/\ρ.vars.lookup y=some (d',k')):=by
 unfold Rho.set at h
 rw [List.lookup_cons] at h
 cases hb:y==x with
 | true=>rw [hb] at h; cases h; exact .inl ⟨beq_iff_eq.mp hb,rfl,rfl⟩
 | false=>rw [hb] at h; exact .inr ⟨λz=>by rw [z] at hb; simp at hb,h⟩
theorem jq5 {Q:Unit->Shared->Prop}(eo:EnvOk O M ρ env s.heap)(fo:FrameOk env s.heap)
  (hx:env.kindOf x=some .local\/env.kindOf x=some .cell) (r:Rd O M s.heap k v d) (ho:k≠0->OwnV M v)
  (q:∀h' tk,Stored env x s.heap h'->EnvOk O M (ρ.set x d k) env h'->FrameOk env h'->Q () { s with heap:=h',toks:=tk }):wpAny g.M A (storeName env x v) Q E s:=by
 obtain⟨m,hm⟩:=fo.ns
 rcases hx with hx | hx
 ·have hsl:jl3 env x=env.locals:=by unfold jl3; rw [hx]
  refine wpAny_storeName_local hx hm (λh' hn hs=>?_) (by rw [eo.kind]; rfl)
  have sq:∀b c vs n,s.heap.get? b=some { cls:=c,data:=.seq vs n }->h'.get? b=some { cls:=c,data:=.seq vs n }:=λb c vs n e=>hs.extBut b _ (jj0 hm e) e
  refine q h' _ ⟨by rw [hsl]; exact hs,sq⟩ ⟨eo.kind,eo.gl,eo.bl,eo.sc,eo.apart,λy d' k' hy=>?_⟩ ⟨⟨_,hn⟩,λy hy=>?_⟩
  ·rcases qc4 hy with ⟨rfl,rfl,rfl⟩ | ⟨hne,hy⟩
   ·exact⟨v,.inl ⟨hx,_,hn,if_pos rfl⟩,r.seqs sq,ho⟩
   ·obtain⟨w,hw,hr,ow⟩:=eo.vars y d' k' hy
    refine⟨w,?_,hr.seqs sq,ow⟩
    rcases hw with ⟨a,m',b,c⟩ | ⟨a,c,b,e⟩
    ·refine .inl ⟨a,_,hn,?_⟩
     have:m' y=m y:=by
      obtain⟨o,es,ep,ho,hd,_,hf⟩:=hm
      obtain⟨o',es',ep',ho',hd',_,hf'⟩:=b
      rw [ho] at ho'; cases ho'
      rw [hd] at hd'; cases hd'
      rw [<- hf,<- hf']
     show(if y=x then some v else m y)=some w
     rw [if_neg hne,<- this]; exact c
    ·obtain⟨o,ho,hd⟩:=e
     exact .inr ⟨a,c,b,⟨o,hs.extBut _ _ (ji4 hm ⟨o,ho,hd⟩) ho,hd⟩⟩
  ·obtain⟨c,w,a,o,ho,hd⟩:=fo.cell y hy
   exact⟨c,w,a,o,hs.extBut _ _ (ji4 hm ⟨o,ho,hd⟩) ho,hd⟩
 ·obtain⟨c,v_0,hc,hcell⟩:=fo.cell x hx
  have hsl:jl3 env x=c:=by unfold jl3; rw [hx,hc]; rfl
  refine wpAny_storeName_cell eo.kind hx hc hcell λh' hn hs=>?_
  have sq:∀b c vs n,s.heap.get? b=some { cls:=c,data:=.seq vs n }->h'.get? b=some { cls:=c,data:=.seq vs n }:=λb c vs n e=>hs.extBut b _ (qq3 hcell e) e
  have hm':h'.Ns env.locals m:=by
   obtain⟨o,es,ep,ho,rest⟩:=hm
   exact⟨o,es,ep,hs.extBut _ _ (Ne.symm (ji4 ⟨o,es,ep,ho,rest⟩ hcell)) ho,rest⟩
  refine q h' _ ⟨by rw [hsl]; exact hs,sq⟩ ⟨eo.kind,eo.gl,eo.bl,eo.sc,eo.apart,λy d' k' hy=>?_⟩ ⟨⟨m,hm'⟩,λy hy=>?_⟩
  ·rcases qc4 hy with ⟨rfl,rfl,rfl⟩ | ⟨hne,hy⟩
   ·exact⟨v,.inr ⟨.inl hx,c,hc,hn⟩,r.seqs sq,ho⟩
   ·obtain⟨w,hw,hr,ow⟩:=eo.vars y d' k' hy
    refine⟨w,?_,hr.seqs sq,ow⟩
    rcases hw with ⟨a,m',b,c'⟩ | ⟨a,c',b,e⟩
    ·obtain⟨o,es,ep,ho,rest⟩:=b
     exact .inl ⟨a,m',⟨o,es,ep,hs.extBut _ _ (Ne.symm (ji4 ⟨o,es,ep,ho,rest⟩ hcell)) ho,rest⟩,c'⟩
    ·obtain⟨o,ho,hd⟩:=e
     exact .inr ⟨a,c',b,⟨o,hs.extBut _ _ (λz=>hne (eo.apart y x c' b (z ▸ hc))) ho,hd⟩⟩
  ·obtain⟨c',w,a,o,ho,hd⟩:=fo.cell y hy
   by_cases hcc:c'=c
   ·subst hcc
    exact⟨c',some v,a,hn⟩
   ·exact⟨c',w,a,o,hs.extBut _ _ hcc ho,hd⟩
noncomputable def onNm {β:Type} (f:Str->Pos->Option β) (e:Expr):Option β:=if h:e.ctorIdx=23 then Expr.Name.elim (motive_1:=λzw=>Option β) e h f else none
theorem qn7 {β:Type}{f:Str->Pos->Option β}{r:β}{P:Expr->Prop}(h:onNm f e=some r)(k:∀a b,f a b=some r->P (.Name a b)):P e :=
 if hh:e.ctorIdx=23 then Expr.Name.elim (motive_1:=λe=>onNm f e=some r->P e) e hh k h else no ((dif_neg hh).symm.trans h)
noncomputable def jb6 (e:Expr):Option Str:=onNm (λx zw=>some x) e
noncomputable def jb3 (e:Expr):Option (List Str):=if h:e.ctorIdx=23 then Expr.Name.elim (motive_1:=λzw=>Option (List Str)) e h λx zw=>some [x] else if h:e.ctorIdx=25 then Expr.Tuple.elim (motive_1:=λzw=>Option (List Str)) e h λes zw zw=>es.mapM jb6 else none
noncomputable def jf9 (ρ:Rho):List Str->List D->Option Rho
 | [],[]=>some ρ
 | x::xs,d::ds=>jf9 (ρ.set x d 0) xs ds
 | _,_=>none
noncomputable def jw0 (ρ:Rho):Expr->D->Option Rho
 | .Name x _,d=>some (ρ.set x d 0)
 | .Tuple es _ _,.tuple ds=>(es.mapM jb6).bind λxs=>jf9 ρ xs ds
 | _,_=>none
noncomputable def jm0 (env:Env) (x:Str):Prop:=env.kindOf x=some .local\/env.kindOf x=some .cell
section
variable {g:Glob} {A:Around} {E:Value->Shared->Prop} {O M:Avoid} {env:Env}
theorem js9 (t:Value->Sem Unit)(ts:List (Value->Sem Unit))(x:Value)(xs:List Value):assignInOrder (t::ts) (x::xs)=(do holding xs (t x); assignInOrder ts xs):=rfl
theorem qb2 {P:Avoid}:∀(es:List Expr) (xs:List Str) (vs:List Value) (ds:List D) (ρ ρ':Rho) (s:Shared) (Q:Unit->Shared->Prop),es.mapM jb6=some xs->jf9 ρ xs ds=some ρ' →
  (∀x∈xs,jm0 env x/\P (jl3 env x))->EnvOk O M ρ env s.heap->FrameOk env s.heap->Rds O M s.heap 0 vs ds →
  (∀s',Chg P s s'->(∀b c us n,s.heap.get? b=some { cls:=c,data:=.seq us n }->s'.heap.get? b=some { cls:=c,data:=.seq us n })->EnvOk O M ρ' env s'.heap->FrameOk env s'.heap->Q () s') →
  wpAny g.M A (assignInOrder ((assignEach es env).map (·.2)) vs) Q E s
 | [],xs,vs,ds,ρ,ρ',s,Q,h1,h2,h3,eo,fo,r,q=>by
  cases h1
  cases ds with
  | nil =>
   cases h2
   cases r
   exact wpAny_pure (q s Chg.refl (λzw zw zw zw e=>e) eo fo)
  | cons d ds=>cases h2
 | e::es,xs,vs,ds,ρ,ρ',s,Q,h1,h2,h3,eo,fo,r,q=>by
  rw [List.mapM_cons] at h1
  cases e with
  | Name x p =>
   have h1:((es.mapM jb6).bind λys=>some (x::ys))=some xs:=h1
   cases hm:es.mapM jb6 with
   | none=>rw [hm] at h1; cases h1
   | some ys =>
    rw [hm] at h1
    cases h1
    cases ds with
    | nil=>cases h2
    | cons d ds =>
     cases r with | cons a b =>
     obtain⟨hs,hp⟩:=h3 x List.mem_cons_self
     show wpAny g.M A (assignInOrder (assign (.Name x p) env::(assignEach es env).map (·.2)) _) Q E s
     rw [js9]
     refine wpAny_bind (wpAny_holding (wpAny_assign_Name (jq5 eo fo hs a (λz=>absurd rfl z) λh' tk st eo' fo'=>?_)))
     refine qb2 es ys _ ds _ ρ' _ Q hm h2 (λy hy=>h3 y (List.mem_cons_of_mem _ hy)) eo' fo' (b.seqs st.seqs) λs' ch sq eo'' fo''=>?_
     refine q s' (Chg.trans ⟨⟨h',tk,rfl⟩,λb o hb e=>st.same.extBut b o (λz=>hb (z ▸ hp)) e⟩ ch) (λb c us n e=>sq b c us n (st.seqs b c us n e)) eo'' fo''
  | _=>exact no h1
theorem qi0:∀(es:List Expr) (xs:List Str),es.mapM jb6=some xs->(assignEach es env).length=xs.length/\(assignEach es env).findIdx? (·.1)=none
 | [],xs,h=>by cases h; exact⟨rfl,rfl⟩
 | e::es,xs,h=>by
  rw [List.mapM_cons] at h
  cases e with
  | Name x p =>
   have h:((es.mapM jb6).bind λys=>some (x::ys))=some xs:=h
   cases hm:es.mapM jb6 with
   | none=>rw [hm] at h; cases h
   | some ys =>
    rw [hm] at h
    cases h
    obtain⟨h1,h2⟩:=qi0 es ys hm
    refine⟨by show(assignEach es env).length+1=ys.length+1; rw [h1],?_⟩
    show((false,assign (.Name x p) env)::assignEach es env).findIdx? (·.1)=none
    rw [List.findIdx?_cons]
    simp [h2]
  | _=>exact no h
theorem jm2:∀(xs:List Str) (ds:List D) (ρ ρ':Rho),jf9 ρ xs ds=some ρ'->xs.length=ds.length
 | [],[],_,_,_=>rfl
 | [],_::_,_,_,h=>by cases h
 | _::_,[],_,_,h=>by cases h
 | x::xs,d::ds,ρ,ρ',h=>by rw [List.length_cons,List.length_cons,jm2 xs ds _ _ h]
theorem qh5 {P:Avoid}{Q:Unit->Shared->Prop}{xs:List Str}(hh:A.handled=none)(hb:jw0 ρ target d=some ρ')(hn:jb3 target=some xs)(h3:∀x∈xs,jm0 env x/\P (jl3 env x))
  (eo:EnvOk O M ρ env s.heap) (fo:FrameOk env s.heap) (r:Rd O M s.heap 0 v d)
  (q:∀s',Chg P s s'->(∀b c us n,s.heap.get? b=some { cls:=c,data:=.seq us n }->s'.heap.get? b=some { cls:=c,data:=.seq us n })->EnvOk O M ρ' env s'.heap->FrameOk env s'.heap->Q () s'):wpAny g.M A (assign target env v) Q E s:=by
 cases target with
 | Name x p =>
  cases hb
  cases hn
  obtain⟨hs,hp⟩:=h3 x List.mem_cons_self
  exact wpAny_assign_Name (jq5 eo fo hs r (λz=>absurd rfl z) λh' tk st eo' fo'=>q _ ⟨⟨h',tk,rfl⟩,λb o hb e=>st.same.extBut b o (λz=>hb (z ▸ hp)) e⟩ st.seqs eo' fo')
 | Tuple es k p =>
  cases d with
  | tuple ds =>
   obtain⟨a,vs,m,rfl,g3,g4,g5,g1,g2⟩:=qb9 r
   have hn:es.mapM jb6=some xs:=hn
   have hb:((es.mapM jb6).bind λxs=>jf9 ρ xs ds)=some ρ':=hb
   rw [hn] at hb
   have hb:jf9 ρ xs ds=some ρ':=hb
   obtain⟨l1,l2⟩:=qi0 (env:=env) es xs hn
   have l3:=jm2 _ _ _ _ hb
   have l4:=g5.length
   rw [Array.length_toList] at l4
   refine wpAny_assign_Tuple hh ⟨_,g4,rfl,_,rfl⟩ (by rw [l1,l3,l4]) l2 λh' he=>?_
   have kk:∀b o,s.heap.get? b=some o->h'.get? b=some o:=λb o e=>he b o (Nat.ne_of_lt (Heap.lt_size e)) e
   refine qb2 (P:=P) es xs _ ds ρ ρ' _ Q hn hb h3 (eo.keeps kk) (fo.keeps kk) (g5.keeps kk) λs' ch sq eo' fo'=>?_
   exact q s' (Chg.trans (Chg.of_keeps (ji1 (tk:=s.toks) kk)) ch) (λb c us n e=>sq b c us n (kk _ _ e)) eo' fo'
  | _=>exact no hb
 | _=>exact no hn
end
end
set_option backward.match.sparseCases true
section
noncomputable abbrev testsOf (ifs:List Expr) (env:Env):Sem Bool:=forIn ifs true λc r=>if r=true then do let ok <- isTrue c env (eval c env); pure (ForInStep.yield ok) else pure (ForInStep.yield r)
noncomputable def IfsS (g:Glob) (n:Nat) (ρ:Rho) (ifs:List Expr) (b:Bool):Prop :=
 ∀(O M:Avoid) (env:Env) (A:Around) (s:Shared) (E:Value->Shared->Prop),g.Up s->Room n A->Alloc O s->Alloc M s->EnvOk O M ρ env s.heap →
  wpAny g.M A (testsOf ifs env) (λc s'=>Keeps s s'/\c=b) E s
section
variable {g:Glob} {n:Nat} {ρ:Rho}
theorem ifs_nil:IfsS g n ρ [] true:=λO M env A s E u rm aO aM eo=>wpAny_tests_nil ⟨ja3 s,rfl⟩
theorem uh3 {c:Expr}{b:Bool}(x:TestS g n ρ c b):IfsS g n ρ [c] b:=λO M env A s E u rm aO aM eo=>wpAny_tests_one (x O M env A s E u rm aO aM eo)
end
noncomputable def AccAt (h:Heap) (Z:Addr) (ys:Array Value):Prop:=∃n,IsL h Z ys n
theorem AccAt.chg {P:Avoid}{Z:Addr}{ys:Array Value}(a:AccAt s.heap Z ys)(c:Chg P s s')(h:¬P Z):AccAt s'.heap Z ys:=(a).elim λn e=>⟨n,c.2 _ _ h e⟩
theorem Rd.off (hk:∀b o,¬O b->h.get? b=some o->h'.get? b=some o)(x:Rd O M h k v d):Rd O M h' k v d :=
 x.gen Eq (λe=>e ▸ rfl) (λe a b c=>⟨a,λz=>b (e.trans z),hk _ _ a c⟩) rfl
theorem Rds.off (hk:∀b o,¬O b->h.get? b=some o->h'.get? b=some o){v:List Value}{d:List D}(x:Rds O M h k v d):Rds O M h' k v d :=
 x.gen Eq (λe=>e ▸ rfl) (λe a b c=>⟨a,λz=>b (e.trans z),hk _ _ a c⟩) rfl
theorem ue8 {W:Avoid}{t t':Shared}{m:Str->Option Value}(x:t.heap.Ns a m)(ch:Chg W t t')(kd:∀b,W b->∃o,t.heap.get? b=some o/\isFS o=true):t'.heap.Ns a m:=by
 obtain⟨o,es,ep,ho,hd,r⟩:=x
 refine⟨o,es,ep,ch.2 _ _ (λz=>?_) ho,hd,r⟩
 obtain⟨o',ho',hf⟩:=kd _ z
 rw [ho] at ho'; cases ho'
 unfold isFS at hf; rw [hd] at hf; cases hf
theorem qg9 {W:Avoid}{t t':Shared}{v:Option Value}(x:t.heap.IsCell a v)(ch:Chg W t t')(kd:∀b,W b->∃o,t.heap.get? b=some o/\isFS o=true):t'.heap.IsCell a v:=by
 obtain⟨o,ho,hd⟩:=x
 refine⟨o,ch.2 _ _ (λz=>?_) ho,hd⟩
 obtain⟨o',ho',hf⟩:=kd _ z
 rw [ho] at ho'; cases ho'
 unfold isFS at hf; rw [hd] at hf; cases hf
theorem EnvOk.chgW {W:Avoid}{t t':Shared}(eo:EnvOk O M ρ env t.heap)(ch:Chg W t t')(hWO:∀b,W b->O b)(kd:∀b,W b->∃o,t.heap.get? b=some o/\isFS o=true):EnvOk O M ρ env t'.heap:=by
 refine⟨eo.kind,eo.gl,eo.bl,eo.sc,eo.apart,λy d k hy=>?_⟩
 obtain⟨v,hv,hr,ow⟩:=eo.vars y d k hy
 refine⟨v,?_,hr.off λb o hb e=>ch.2 b o (λz=>hb (hWO b z)) e,ow⟩
 rcases hv with ⟨a,m,b,c⟩ | ⟨a,c,b,d⟩
 ·exact .inl ⟨a,m,ue8 b ch kd,c⟩
 ·exact .inr ⟨a,c,b,qg9 d ch kd⟩
theorem FrameOk.chgW {W:Avoid}{t t':Shared}(fo:FrameOk env t.heap)(ch:Chg W t t')(kd:∀b,W b->∃o,t.heap.get? b=some o/\isFS o=true):FrameOk env t'.heap:=by
 refine⟨?_,λx hx=>?_⟩
 ·obtain⟨m,h⟩:=fo.ns; exact⟨m,ue8 h ch kd⟩
 ·obtain⟨c,v,a,b⟩:=fo.cell x hx; exact⟨c,v,a,qg9 b ch kd⟩
noncomputable def BodyS (g:Glob) (A:Around) (O M P:Avoid) (env:Env) (Z:Addr) (body:Sem Unit) (ρ:Rho) (ds:List D):Prop :=
 ∀(t:Shared) (ys:Array Value) (E:Value->Shared->Prop) (Q:Unit->Shared->Prop),g.Up t->Alloc O t->Alloc M t->EnvOk O M ρ env t.heap->FrameOk env t.heap->AccAt t.heap Z ys->ys.size+ds.length<=cap →
  (∀t' (vs:List Value),Chg P t t'->AccAt t'.heap Z (ys++vs.toArray)->Rds O M t'.heap 0 vs ds->EnvOk O M ρ env t'.heap->FrameOk env t'.heap->g.Up t'->Alloc O t'->Alloc M t'->Q () t')->wpAny g.M A body Q E t
theorem jp4:∀(xs:List Str) (ds:List D) (ρ ρ':Rho),jf9 ρ xs ds=some ρ'->ρ'.sc=ρ.sc/\∀y,y∉xs->ρ'.vars.lookup y=ρ.vars.lookup y
 | [],[],_,_,h=>by cases h; exact⟨rfl,λzw zw=>rfl⟩
 | [],_::_,_,_,h=>by cases h
 | _::_,[],_,_,h=>by cases h
 | x::xs,d::ds,ρ,ρ',h=>by
  obtain⟨h1,h2⟩:=jp4 xs ds _ _ h
  refine⟨h1,λy hy=>?_⟩
  rw [h2 y λz=>hy (List.mem_cons_of_mem _ z)]
  unfold Rho.set
  rw [List.lookup_cons]
  cases hb:y==x with
  | true=>exact absurd (by rw [beq_iff_eq.mp hb]; exact List.mem_cons_self) hy
  | false=>rfl
theorem ju5 {xs:List Str}(h:jw0 ρ target d=some ρ')(hn:jb3 target=some xs):ρ'.sc=ρ.sc/\∀y,y∉xs->ρ'.vars.lookup y=ρ.vars.lookup y:=by
 cases target with
 | Name x p =>
  cases h; cases hn
  refine⟨rfl,λy hy=>?_⟩
  unfold Rho.set
  rw [List.lookup_cons]
  cases hb:y==x with
  | true=>exact absurd (by rw [beq_iff_eq.mp hb]; exact List.mem_cons_self) hy
  | false=>rfl
 | Tuple es k p =>
  cases d with
  | tuple ds =>
   have hn:es.mapM jb6=some xs:=hn
   have h:((es.mapM jb6).bind λxs=>jf9 ρ xs ds)=some ρ':=h
   rw [hn] at h
   exact jp4 _ _ _ _ h
  | _=>first | exact no h | exact nb h | cases h
 | _=>first | exact no hn | exact nb hn | cases hn
theorem EnvOk.unbind {xs:List Str}(e:EnvOk O M ρ' env h)(hb:jw0 ρ target d=some ρ')(hn:jb3 target=some xs)(hf:∀x∈xs,ρ.vars.lookup x=none):EnvOk O M ρ env h:=by
 obtain⟨h1,h2⟩:=ju5 hb hn
 refine⟨e.kind,e.gl,e.bl,e.sc.trans h1,e.apart,λy d k hy=>e.vars y d k ?_⟩
 rw [h2 y λz=>by rw [hf y z] at hy; cases hy]
 exact hy
theorem Chg.alloc {P:Avoid}(a:Chg P s s')(x:Alloc O s)(h:∀b,O b->P b->∃o,s'.heap.get? b=some o):Alloc O s':=λb hb=>by
 by_cases hp:P b
 ·exact h b hb hp
 ·obtain⟨o,e⟩:=x b hb
  exact⟨o,a.2 b o hp e⟩
noncomputable def ju7 (e:Expr) (j:Nat) (it acc:Value) (env:Env) (p:Pos) (target:Expr) (ifs:List Expr) (body:Sem Unit):Sem Fin:=do
 standAt p
 match <- pyNext it with
 | none=>pure (.done .next)
 | some v =>
  letOwnedTupleGo target it v
  assign target env v
  let mut ok:=true
  for c in ifs do
   if ok then ok <- isTrue c env (eval c env)
  if ok then
   body
  again (.compLoop e j it acc env)
structure ItemS (g:Glob) (n:Nat) (A:Around) (O M P:Avoid) (env:Env) (Z:Addr) (body:Sem Unit) (target:Expr) (ifs:List Expr) (ρ:Rho) (d:D) (out:List D) (ρ':Rho) (b:Bool):Prop where
 bind:jw0 ρ target d=some ρ'
 ifs:IfsS g n ρ' ifs b
 body:b=true->BodyS g A O M P env Z body ρ' out
 skip:b=false->out=[]
theorem jx3 {α:Type}{outs:List (List α)}{i:Nat}{out:List α}(h:outs[i]?=some out):(outs.take (i+1)).flatten=(outs.take i).flatten++out:=by
 rw [List.take_add_one,h]; simp
theorem qa2 {O0 M0 W P:Avoid}{gens:List Comprehension}{scope:Scope}{cp:Pos}{j:Nat}{it:Value}{Z:Addr}{p:Pos}{ifs:List Expr}{body:Sem Unit}{tt:Bool}{items:List D}{outs:List (List D)}{s_1:Shared}{St:Nat->Heap->Prop}{xs:List Str}{ys0:Array Value}{t_0:Shared}
  (hform:compTurn (.ListComp elt gens scope cp) j it (.ref Z) env=ju7 (.ListComp elt gens scope cp) j it (.ref Z) env p target ifs body)
  (rm:Room n A) (I:Itr g A tt it items O0 M0 W s s_1 St) (wdO:Wid O0 W O s_1) (wd:Wid M0 W M s_1) (hWO:∀b,W b->O b) (htt:Tgt tt target) (hn:jb3 target=some xs) (hst:∀x∈xs,jm0 env x/\P (jl3 env x)) (hfresh:∀x∈xs,ρ.vars.lookup x=none)
  (hPO:∀b,P b->O b) (hPf:∀b,P b->O0 b\/s_1.heap.get? b=none) (hPW:∀b,P b->¬W b) (hPg:∀b o,g.h.get? b=some o->¬P b/\¬W b) (hPZ:P Z) (hPlive:∀(t:Shared) ys,FrameOk env t.heap->AccAt t.heap Z ys->∀b,P b->∃o,t.heap.get? b=some o)
  (hlen:outs.length=items.length) (hit:∀(i:Nat) (d:D) (out:List D),items[i]?=some d->outs[i]?=some out->∃ρ' b,ItemS g n A O M P env Z body target ifs ρ d out ρ' b) (hcap:ys0.size+outs.flatten.length<=cap)
  (h0:Chg P s t_0) (hs0:St 0 t_0.heap) (hacc:AccAt t_0.heap Z ys0) (eo:EnvOk O M ρ env t_0.heap) (fo:FrameOk env t_0.heap) (u:g.Up t_0) (aO:Alloc O t_0) (aM:Alloc M t_0)
  (hR:∀t' (vs:List Value),Chg P s t'->AccAt t'.heap Z (ys0++vs.toArray)->Rds O M t'.heap 0 vs outs.flatten->EnvOk O M ρ env t'.heap->FrameOk env t'.heap->g.Up t'->(∀b,(O b\/M b)->¬W b->∃o,t'.heap.get? b=some o)->R (.ok .next) t') :
  codeAny g.M A (.compLoop (.ListComp elt gens scope cp) j it (.ref Z) env) R t_0:=by
 have hZW:¬W Z:=hPW Z hPZ
 refine codeAny_loop rfl (λk t=>∃i,∃vs:List Value,k=items.length+1 - i/\i<=items.length/\Chg P s t/\St i t.heap/\AccAt t.heap Z (ys0++vs.toArray)/\Rds O M t.heap 0 vs (outs.take i).flatten/\EnvOk O M ρ env t.heap/\FrameOk env t.heap/\g.Up t/\Alloc O t/\Alloc M t) ?_ (items.length+1)
  ⟨0,[],rfl,Nat.zero_le _,h0,hs0,by simpa using hacc,by simpa using Rds.nil,eo,fo,u,aO,aM⟩
 intro k t hJ
 show wpAny g.M A ((compTurn (.ListComp elt gens scope cp) j it (.ref Z) env).onRaise (λx=>do noteFrame x env; theTreesLotGoes x)) _ _ t
 refine wpAny_noted ?_
 ((show let Q0:=_; let E0:=_; wpAny _ _ _ Q0 E0 _); intro Q0 E0)
 obtain⟨i,vs,rfl,hi,ch,st,acc,rds,eo,fo,u,aO,aM⟩:=hJ
 rw [hform]
 unfold ju7
 refine wpAny_bind (wpAny_standAt (wpAny_bind ?_))
 ((show let Q0:=_; let E0:=_; wpAny _ _ _ Q0 E0 _); intro Q0 E0)
 have kd:=I.kinds i _ st
 by_cases hlt:i < items.length
 ·have hd:items[i]?=some items[i]:=List.getElem?_eq_getElem hlt
  have ho:outs[i]?=some outs[i]:=List.getElem?_eq_getElem (by omega)
  obtain⟨ρ',b,IS⟩:=hit i _ _ hd ho
  have hsz:(outs.take (i+1)).flatten.length<=outs.flatten.length:=by
   conv=>rhs; rw [<- List.take_append_drop (i+1) outs,List.flatten_append,List.length_append]
   (exact Nat.le_add_right _ _)
  rw [jx3 ho,List.length_append] at hsz
  have hvl:=rds.length
  refine' wpAny_mono (I.item O M i _ t target _ _ wdO wd htt hd st aO aM _) (λr t_1 h=>Exists.elim h λv h=>h.1 ▸ wpAny_bind h.2) λzw zw z=>z
  intro v t_2 chW rv st2
  ((show let Q0:=_; let E0:=_; wpAny _ _ _ Q0 E0 _); intro Q0 E0)
  refine wp_q λQs hQs=>?_
  ((show let Q0:=_; let E0:=_; wpAny _ _ _ Q0 E0 _); intro Q0 E0)
  have eo2:=eo.chgW chW hWO kd
  have fo2:=fo.chgW chW kd
  have kd2:=I.kinds _ _ st2
  have lv:∀b,W b->∃o,t_2.heap.get? b=some o:=λb hb=>(kd2 b hb).elim λo zq=>zq.elim λe zw=>⟨o,e⟩
  have u_2:g.Up t_2:=chW.up u λb o e=>(hPg b o e).2
  have aO2:Alloc O t_2:=chW.alloc aO λb zw hb=>lv b hb
  have aM2:Alloc M t_2:=chW.alloc aM λb zw hb=>lv b hb
  have acc2:=acc.chg chW hZW
  have rds2:Rds O M t_2.heap 0 vs (outs.take i).flatten:=rds.off λb o hb e=>chW.2 b o (λz=>hb (hWO b z)) e
  have ch2:Chg P s t_2:=by
   refine⟨?_,λb o hb e=>chW.2 b o (λz=>?_) (ch.2 b o hb e)⟩
   ·obtain⟨h,tk,e⟩:=ch.1
    obtain⟨h',tk',e'⟩:=chW.1
    exact⟨h',tk',by rw [e',e]⟩
   ·rw [(I.wnew b z).1] at e; cases e
  refine wpAny_bind (qh5 (P:=P) rm.handled IS.bind hn hst eo2 fo2 rv λt_3 ch3 sq3 eo3 fo3=>?_)
  have stP:∀{t t':Shared} {q:Nat},Chg P t t'->St q t.heap->St q t'.heap:=λc x=>I.frame _ _ _ x λb o ho hb ⟨o',e'⟩ e=>c.2 b o (λz=>by
   rcases hPf b z with z | z
   ·exact ho z
   ·rw [e'] at z; cases z) e
  have acc3:AccAt t_3.heap Z (ys0++vs.toArray):=(acc2).elim λm e=>⟨m,sq3 _ _ _ _ e⟩
  have live3:=hPlive t_3 _ fo3 acc3
  have u_3:g.Up t_3:=ch3.up u_2 λb o e=>(hPg b o e).1
  have aO3:Alloc O t_3:=ch3.alloc aO2 λb zw hp=>live3 b hp
  have aM3:Alloc M t_3:=ch3.alloc aM2 λb zw hp=>live3 b hp
  refine wpAny_bind (wpAny_mono (IS.ifs O M env A t_3 _ u_3 rm aO3 aM3 eo3) (λok t_4 hJ0=>?_) λzw zw z=>z)
  obtain⟨k_4,hok⟩:=hJ0
  subst hok
  have c_4:Chg P t_3 t_4:=Chg.of_keeps k_4
  have eo4:=eo3.keeps (ja0 k_4)
  have fo4:=fo3.keeps (ja0 k_4)
  have acc4:AccAt t_4.heap Z (ys0++vs.toArray):=(acc3).elim λm e=>⟨m,ja0 k_4 _ _ e⟩
  have rds4:Rds O M t_4.heap 0 vs (outs.take i).flatten:=(rds2.seqs sq3).keeps (ja0 k_4)
  have st4:St (i+1) t_4.heap:=stP c_4 (stP ch3 st2)
  have hb3:Chg P s t_4:=(ch2.trans ch3).trans c_4
  cases hb:ok with
  | false =>
   simp only [Bool.false_eq_true,if_false]
   have:=IS.skip hb
   refine wpAny_pure (hQs _ _ ⟨rfl,items.length+1 - (i+1),by grind,i+1,vs,rfl,by assumption,hb3,st4,acc4,?_,eo4.unbind IS.bind hn hfresh,fo4,u_3.keeps k_4,aO3.keeps k_4,aM3.keeps k_4⟩)
   rw [jx3 ho,this,List.append_nil]
   exact rds4
  | true =>
   simp only [if_true]
   refine wpAny_bind (IS.body hb t_4 _ _ _ (u_3.keeps k_4) (aO3.keeps k_4) (aM3.keeps k_4) eo4 fo4 acc4 ?_ λt_5 ws ch5 acc5 rw5 eo5 fo5 u5 aO5 aM5=>?_)
   ·have e:(ys0++vs.toArray).size=ys0.size+vs.length:=by simp
    rw [e,hvl]; grind
   ·refine wpAny_pure (hQs _ _ ⟨rfl,items.length+1 - (i+1),by grind,i+1,vs++ws,rfl,by assumption,hb3.trans ch5,stP ch5 st4,?_,?_,eo5.unbind IS.bind hn hfresh,fo5,u5,aO5,aM5⟩)
    ·have e:ys0++(vs++ws).toArray=ys0++vs.toArray++ws.toArray:=by simp
     rw [e]; exact acc5
    ·rw [jx3 ho]
     exact(rds4.off λb o hb e=>ch5.2 b o (λz=>hb (hPO b z)) e).append rw5
 ·have hie:i=items.length:=by grind
  subst hie
  refine I.done t _ _ st λt_1 chW=>?_
  refine wpAny_pure (hR t_1 vs ?_ (acc.chg chW hZW) ?_ (eo.chgW chW hWO kd) (fo.chgW chW kd) (chW.up u λb o e=>(hPg b o e).2) λb hb hw=>?_)
  ·refine⟨?_,λb o hb e=>chW.2 b o (λz=>?_) (ch.2 b o hb e)⟩
   ·obtain⟨h,tk,e⟩:=ch.1
    obtain⟨h',tk',e'⟩:=chW.1
    exact⟨h',tk',by rw [e',e]⟩
   ·rw [(I.wnew b z).1] at e; cases e
  ·have:outs.take items.length=outs:=by rw [<- hlen]; exact List.take_length
   rw [this] at rds
   exact rds.off λb o hb e=>chW.2 b o (λz=>hb (hWO b z)) e
  ·rcases hb with hb | hb
   ·obtain⟨o,e⟩:=aO b hb; exact⟨o,chW.2 b o hw e⟩
   ·obtain⟨o,e⟩:=aM b hb; exact⟨o,chW.2 b o hw e⟩
end
section
theorem ju4:∀(names:List (Str×NameKind)) (h:Heap) (acc:List (Str×Addr)) (x:Str),
  (∃c,(cellsFrom h.objs.size names acc).lookup x=some c/\h.objs.size<=c/\(pushCells h names).IsCell c none/\(x,NameKind.cell)∈names)\/((x,NameKind.cell)∉names/\(cellsFrom h.objs.size names acc).lookup x=acc.lookup x)
 | [],h,acc,x=>.inr ⟨λz=>(nomatch z),rfl⟩
 | (nm,kind)::r,h,acc,x=>by
  unfold pushCells cellsFrom
  split
  ·rename_i hk
   have hk:kind=.cell:=by simpa using hk
   subst hk
   have ih:=ju4 r (h.push { cls:=.type "cell",data:=.cell none }) ((nm,h.objs.size)::acc) x
   rw [Heap.size_push] at ih
   rcases ih with ⟨c,h1,h2,h3,h4⟩ | ⟨h1,h2⟩
   ·exact .inl ⟨c,h1,by omega,h3,List.mem_cons_of_mem _ h4⟩
   ·rw [List.lookup_cons] at h2
    cases hb:x==nm with
    | true =>
     rw [hb] at h2
     have:=beq_iff_eq.mp hb
     subst this
     exact .inl ⟨_,h2,Nat.le_refl _,⟨_,pushCells_keeps _ _ _ _ (Heap.get?_push_size _ rfl),rfl⟩,List.mem_cons_self⟩
    | false =>
     rw [hb] at h2
     exact .inr ⟨λz=>by
      rcases List.mem_cons.mp z with z | z
      ·cases z; simp at hb
      ·exact h1 z,h2⟩
  ·rename_i hk
   rcases ju4 r h acc x with ⟨c,h1,h2,h3,h4⟩ | ⟨h1,h2⟩
   ·exact .inl ⟨c,h1,h2,h3,List.mem_cons_of_mem _ h4⟩
   ·exact .inr ⟨λz=>by
     rcases List.mem_cons.mp z with z | z
     ·cases z; exact hk rfl
     ·exact h1 z,h2⟩
theorem jq2:∀(names:List (Str×NameKind)) (n:Nat) (acc:List (Str×Addr)),(∀x y c,acc.lookup x=some c->acc.lookup y=some c->x=y)->(∀x c,acc.lookup x=some c->@LT.lt Nat _ c n) →
  ∀x y c,(cellsFrom n names acc).lookup x=some c->(cellsFrom n names acc).lookup y=some c->x=y
 | [],n,acc,h1,h2=>h1
 | (nm,kind)::r,n,acc,h1,h2=>by
  unfold cellsFrom
  split
  ·refine jq2 r (n+1) ((nm,n)::acc) (λx y c hx hy=>?_) λx c hx=>?_
   ·rw [List.lookup_cons] at hx hy
    cases hb:x==nm <;> cases hb':y==nm <;> rw [hb] at hx <;> rw [hb'] at hy
    ·exact h1 x y c hx hy
    ·cases hy; exact absurd (h2 _ _ hx) (Nat.lt_irrefl _)
    ·cases hx; exact absurd (h2 _ _ hy) (Nat.lt_irrefl _)
    ·rw [beq_iff_eq.mp hb,beq_iff_eq.mp hb']
   ·rw [List.lookup_cons] at hx
    cases hb:x==nm <;> rw [hb] at hx
    ·exact Nat.lt_succ_of_lt (h2 _ _ hx)
    ·cases hx; exact Nat.lt_succ_self _
  ·exact jq2 r n acc h1 h2
structure Lay (names:List (Str×NameKind)) (cl:List (Str×Addr)) (h h_1:Heap) (cs:List (Str×Addr)):Prop where
 keep:∀b o,h.get? b=some o->h_1.get? b=some o
 ns:h_1.Ns h.objs.size (λzw=>none)
 look:∀x,(∃c,cs.lookup x=some c/\@LT.lt Nat _ h.objs.size c/\h_1.IsCell c none/\(x,NameKind.cell)∈names)\/((x,NameKind.cell)∉names/\cs.lookup x=cl.lookup x)
 apart:(∀x y c,cl.lookup x=some c->cl.lookup y=some c->x=y)->(∀x c,cl.lookup x=some c->@LT.lt Nat _ c h.objs.size)->∀x y c,cs.lookup x=some c->cs.lookup y=some c->x=y
theorem Lay.mk' (names:List (Str×NameKind))(cl:List (Str×Addr))(h:Heap)(T:String):Lay names cl h (pushCells (h.push { cls:=.type T,data:=.dict #[] }) names) (cellsFrom (h.objs.size+1) names cl):=by
 have e:(h.push { cls:=.type T,data:=.dict #[] }).objs.size=h.objs.size+1:=Heap.size_push ..
 refine⟨λb o e=>pushCells_keeps _ _ _ _ (Heap.get?_push_of_some _ e),(Heap.Ns.new h (.type T)).keeps (pushCells_keeps _ _),λx=>?_,λh1 h2=>jq2 _ _ _ h1 λx c hx=>Nat.lt_succ_of_lt (h2 x c hx)⟩
 have:=ju4 names (h.push { cls:=.type T,data:=.dict #[] }) cl x
 rw [e] at this
 rcases this with ⟨c,h1,h2,h3,h4⟩ | h
 ·exact .inl ⟨c,h1,by omega,h3,h4⟩
 ·exact .inr h
section
variable {M:Model} {A:Around} {E:Value->Shared->Prop} {s:Shared}
theorem jq6 {scope:Scope}{globals:Addr}{cl:List (Str×Addr)}{binds:List (Str×Value)}{qual:Str}{func:Option Addr}{code:Value}{around:Option Env}{builtins:Addr}{Q:Env->Shared->Prop}
  (h:∀h_1 cs,Lay scope.names cl s.heap h_1 cs->wpAny M A (forIn binds PUnit.unit λx r=>do storeName (newEnv scope s.heap.objs.size globals cs qual func code around builtins) x.1 x.2; pure (ForInStep.yield ⟨⟩))
   (λzw s'=>Q (newEnv scope s.heap.objs.size globals cs qual func code around builtins) s') E { s with heap:=h_1 }) :
  wpAny M A (newFunctionEnv scope globals cl binds qual func code around builtins) Q E s:=by
 cases around with
 | none =>
  simp only [newFunctionEnv,Option.isSome_none,Bool.false_eq_true,if_false]
  refine wpAny_bind (wpAny_alloc ?_)
  refine wpAny_bind (wpAny_layCells _ (λname kind cells=>by cases hkc:kind==NameKind.cell <;> simp [hkc]) _ _ _ _ ?_)
  refine wpAny_bind (wpAny_mono (h _ _ ?_) (λzw zw z=>wpAny_pure z) λzw zw z=>z)
  have:=Lay.mk' scope.names cl s.heap "frame"
  rw [show({ s with heap:=s.heap.push { cls:=.type "frame",data:=.dict #[] } }:Shared).heap.objs.size=s.heap.objs.size+1 from Heap.size_push ..]
  exact this
 | some o =>
  simp only [newFunctionEnv,Option.isSome_some,if_true]
  refine wpAny_bind (wpAny_alloc ?_)
  refine wpAny_bind (wpAny_layCells _ (λname kind cells=>by cases hkc:kind==NameKind.cell <;> simp [hkc]) _ _ _ _ ?_)
  refine wpAny_bind (wpAny_mono (h _ _ ?_) (λzw zw z=>wpAny_pure z) λzw zw z=>z)
  have:=Lay.mk' scope.names cl s.heap "dict"
  rw [show({ s with heap:=s.heap.push { cls:=.type "dict",data:=.dict #[] } }:Shared).heap.objs.size=s.heap.objs.size+1 from Heap.size_push ..]
  exact this
end
theorem ju3 {env:Env}(f:Str×NameKind->List (Str×Addr)->Sem (ForInStep (List (Str×Addr))))
  (hf:∀name kind cells,f (name,kind) cells=if kind==.free then (do let a <- cellOf env name; pure (.yield ((name,a)::cells))) else pure (.yield cells)) :
  ∀(names:List (Str×NameKind)) (acc:List (Str×Addr)),(∀x,(x,NameKind.free)∈names->(env.cells.lookup x).isSome=true)->(∀x c,acc.lookup x=some c->env.cells.lookup x=some c) →
  ∃cl,forIn names acc f=(pure cl:Sem _)/\(∀x c,cl.lookup x=some c->env.cells.lookup x=some c)/\(∀x,(x,NameKind.free)∈names\/(acc.lookup x).isSome=true↔(cl.lookup x).isSome=true)
 | [],acc,_,h2=>⟨acc,by rw [List.forIn_nil],h2,λx=>⟨λhx=>by
   rcases hx with hx | hx
   ·cases hx
   ·exact hx,λhx=>.inr hx⟩⟩
 | (nm,kind)::r,acc,h1,h2=>by
  rw [List.forIn_cons,hf]
  cases hk:kind==NameKind.free with
  | true =>
   have:kind=.free:=by simpa using hk
   subst this
   obtain⟨c,hc⟩:=Option.isSome_iff_exists.mp (h1 nm List.mem_cons_self)
   obtain⟨cl,e,h3,h4⟩:=ju3 f hf r ((nm,c)::acc) (λx hx=>h1 x (List.mem_cons_of_mem _ hx)) λx c' hx=>by
    rw [List.lookup_cons] at hx
    cases hb:x==nm with
    | true=>rw [hb] at hx; cases hx; rw [beq_iff_eq.mp hb]; exact hc
    | false=>rw [hb] at hx; exact h2 x c' hx
   refine⟨cl,?_,h3,λx=>(Iff.intro (λhx=>?_) (λhx=>?_)).trans (h4 x)⟩
   ·rw [if_pos rfl]
    have:cellOf env nm=pure c:=by unfold cellOf; rw [hc]
    rw [this]
    exact e
   ·rcases hx with hx | hx
    ·rcases List.mem_cons.mp hx with hx | hx
     ·cases hx; right; simp
     ·exact .inl hx
    ·right
     rw [List.lookup_cons]
     cases x==nm
     ·exact hx
     ·rfl
   ·rcases hx with hx | hx
    ·exact .inl (List.mem_cons_of_mem _ hx)
    ·rw [List.lookup_cons] at hx
     cases hb:x==nm with
     | true=>rw [beq_iff_eq.mp hb]; exact .inl List.mem_cons_self
     | false=>rw [hb] at hx; exact .inr hx
  | false =>
   obtain⟨cl,e,h3,h4⟩:=ju3 f hf r acc (λx hx=>h1 x (List.mem_cons_of_mem _ hx)) h2
   refine⟨cl,?_,h3,λx=>(Iff.intro (λhx=>?_) (λhx=>?_)).trans (h4 x)⟩
   ·rw [if_neg (by simp)]; exact e
   ·rcases hx with hx | hx
    ·rcases List.mem_cons.mp hx with hx | hx
     ·cases hx; simp at hk
     ·exact .inl hx
    ·exact .inr hx
   ·rcases hx with hx | hx
    ·exact .inl (List.mem_cons_of_mem _ hx)
    ·exact .inr hx
theorem jl8 {scope:Scope}(h:∀x,(x,NameKind.free)∈scope.names->(env.cells.lookup x).isSome=true) :
  ∃cl,closureFor scope env=pure cl/\(∀x c,cl.lookup x=some c->env.cells.lookup x=some c)/\(∀x,(x,NameKind.free)∈scope.names->cl.lookup x=env.cells.lookup x)/\(∀x c,cl.lookup x=some c->(x,NameKind.free)∈scope.names):=by
 obtain⟨cl,e,h1,h2⟩:=ju3 (env:=env) (λx cells=>if x.2==.free then (do let a <- cellOf env x.1; pure (.yield ((x.1,a)::cells))) else pure (.yield cells)) (λname kind cells=>rfl) scope.names [] h (λx c hx=>by simp at hx)
 refine⟨cl,?_,h1,λx hx=>?_,λx c hx=>?_⟩
 ·unfold closureFor
  show(forIn scope.names [] _ >>= λcs=>pure cs)=_
  have:forIn scope.names [] (λx cells=>if x.2==NameKind.free then (do let a <- cellOf env x.1; pure (ForInStep.yield ((x.1,a)::cells))) else pure (ForInStep.yield cells))=(pure cl:Sem _):=e
  exact(congrArg (λz=>z >>= λcs=>pure cs) this)
 ·obtain⟨c,hc⟩:=Option.isSome_iff_exists.mp ((h2 x).mp (.inl hx))
  rw [hc,h1 x c hc]
 ·rcases(h2 x).mpr (by rw [hx]; rfl) with h | h
  ·exact h
  ·simp at h
end
noncomputable def jg8 (sc names:List (Str×NameKind)):List (Str×NameKind):=names.map λp=>if (p.2==.free && sc.lookup p.1==some .cell) then (p.1,NameKind.cell) else p
noncomputable def Rho.inner (ρ:Rho) (names:List (Str×NameKind)):Rho:=⟨jg8 ρ.sc names,ρ.vars.filter λp=>names.lookup p.1==some .free⟩
noncomputable def jf1 (ρ:Rho) (names:List (Str×NameKind)):Bool:=names.all λp=>names.lookup p.1==some p.2 && (p.2 != .free || ((ρ.vars.lookup p.1).isSome && (ρ.sc.lookup p.1==some .cell || ρ.sc.lookup p.1==some .free) && p.1 != ("__classdict__":Str)))
theorem jf7 {β:Type}(f:Str->Bool)(x:Str):∀(l:List (Str×β)),(l.filter λp=>f p.1).lookup x=if f x then l.lookup x else none
 | []=>by simp
 | (y,b)::l=>by
  have ih:=jf7 f x l
  rw [List.filter_cons,List.lookup_cons]
  cases hb:x==y with
  | true =>
   have:=beq_iff_eq.mp hb
   subst this
   cases hf:f x with
   | true=>simp
   | false=>simp only [hf,Bool.false_eq_true,if_false] at ih ⊢; exact ih
  | false =>
   cases hf:f y with
   | true=>simp only [if_true,List.lookup_cons,hb]; exact ih
   | false=>simp only [Bool.false_eq_true,if_false]; exact ih
theorem jf4 (sc:List (Str×NameKind))(x:Str):∀(l:List (Str×NameKind)),(jg8 sc l).lookup x=(l.lookup x).map λk=>if (k==.free && sc.lookup x==some .cell) then .cell else k
 | []=>rfl
 | (y,k)::l=>by
  have ih:=jf4 sc x l
  have e:jg8 sc ((y,k)::l)=(y,if (k==.free && sc.lookup y==some .cell) then NameKind.cell else k)::jg8 sc l:=by
   unfold jg8
   rw [List.map_cons]
   dsimp only
   split <;> rfl
  rw [e,List.lookup_cons,List.lookup_cons]
  cases hb:x==y with
  | true =>
   have:=beq_iff_eq.mp hb
   subst this
   rfl
  | false=>exact ih
theorem jg6 {names:List (Str×NameKind)}(h:jf1 ρ names=true){k:NameKind}(hm:(x,k)∈names) :
  names.lookup x=some k/\(k=.free->(ρ.vars.lookup x).isSome=true/\(ρ.sc.lookup x=some .cell\/ρ.sc.lookup x=some .free)/\(x==("__classdict__":Str))=false):=by
 have:=List.all_eq_true.mp h _ hm
 simp only [Bool.and_eq_true,Bool.or_eq_true,beq_iff_eq,bne_iff_ne,ne_eq] at this
 refine⟨this.1,λhk=>?_⟩
 rcases this.2 with h' | ⟨⟨h1,h2⟩,h3⟩
 ·exact absurd hk h'
 ·exact⟨h1,h2,by simpa using h3⟩
theorem jn3 {names:List (Str×NameKind)}(eo:EnvOk O M ρ env h)(ok:jf1 ρ names=true)(hm:(x,NameKind.free)∈names) :
  ∃d k c v,ρ.vars.lookup x=some (d,k)/\env.cells.lookup x=some c/\h.IsCell c (some v)/\Rd O M h k v d/\(ρ.sc.lookup x=some .cell\/ρ.sc.lookup x=some .free)/\(x==("__classdict__":Str))=false/\(k≠0->OwnV M v):=by
 obtain⟨h1,h2⟩:=jg6 ok hm
 obtain⟨h3,h4,h5⟩:=h2 rfl
 obtain⟨⟨d,k⟩,e⟩:=Option.isSome_iff_exists.mp h3
 obtain⟨v,hv,hr,ho⟩:=eo.vars x d k e
 rcases hv with ⟨a,m,b,c⟩ | ⟨a,c,b,c'⟩
 ·unfold Env.kindOf at a; rw [eo.sc] at a; rw [a] at h4; rcases h4 with h4 | h4 <;> cases h4
 ·exact⟨d,k,c,v,e,b,c',hr,h4,h5,ho⟩
theorem qk1 {O':Avoid}{names:List (Str×NameKind)}{env':Env}{h_1 t:Heap}{cl cs:List (Str×Addr)}(eo:EnvOk O M ρ env h)(ok:jf1 ρ names=true)(lay:Lay names cl h h_1 cs)
  (c1:∀x c,cl.lookup x=some c->env.cells.lookup x=some c) (c2:∀x,(x,NameKind.free)∈names->cl.lookup x=env.cells.lookup x) (c3:∀x c,cl.lookup x=some c->(x,NameKind.free)∈names)
  (e1:env'.scope.kind=.function) (e2:env'.globals=mainGlobals) (e3:env'.builtins=builtinsNs) (e4:env'.scope.names=jg8 ρ.sc names) (e5:env'.cells=cs) (e6:env'.locals=h.objs.size)
  (hk:∀b o,h_1.get? b=some o->t.get? b=some o) (hO:∀b,O' b->O b\/h.get? b=none):EnvOk O' M (ρ.inner names) env' t/\FrameOk env' t:=by
 have clt:∀x c,cl.lookup x=some c->@LT.lt Nat _ c h.objs.size:=λx c hx=>by
  obtain⟨d,k,c',v,g1,g2,g3,g4⟩:=jn3 eo ok (c3 x c hx)
  rw [c1 x c hx] at g2; cases g2
  exact g3.lt
 have kn:∀x,env'.kindOf x=(names.lookup x).map λk=>if (k==.free && ρ.sc.lookup x==some .cell) then .cell else k:=λx=>by unfold Env.kindOf; rw [e4]; exact jf4 _ _ _
 have frl:∀x,(x,NameKind.free)∈names->cs.lookup x=env.cells.lookup x:=λx hx=>by
  rcases lay.look x with ⟨c,g1,g2,g3,g4⟩ | ⟨g1,g2⟩
  ·have z1:=(jg6 ok hx).1; have z2:=(jg6 ok g4).1
   rw [z1] at z2; cases z2
  ·rw [g2,c2 x hx]
 refine⟨⟨e1,e2,e3,e4,?_,λx d k hx=>?_⟩,⟨⟨_,e6 ▸ lay.ns.keeps hk⟩,λx hx=>?_⟩⟩
 ·rw [e5]
  exact lay.apart (λx y c hx hy=>eo.apart x y c (c1 x c hx) (c1 y c hy)) clt
 ·have hx:(ρ.vars.filter λp=>names.lookup p.1==some .free).lookup x=some (d,k):=hx
  rw [jf7 (λy=>names.lookup y==some .free)] at hx
  split at hx
  ·rename_i hf
   have hf:names.lookup x=some .free:=by simpa using hf
   have hm:(x,NameKind.free)∈names:=mem_of_lookup hf
   obtain⟨d',k',c,v,g1,g2,g3,g4,g5,g6,g7⟩:=jn3 eo ok hm
   rw [hx] at g1; cases g1
   refine⟨v,.inr ⟨?_,c,by rw [e5,frl x hm]; exact g2,(g3.keeps lay.keep).keeps hk⟩,?_,g7⟩
   ·rw [kn x,hf]
    rcases g5 with g5 | g5
    ·left; simp [g5]
    ·right; exact⟨by simp [g5],g6⟩
   ·refine(g4.imp (O':=O') (M':=M) (λb hb h' z=>?_) (λzw zw zw a=>a) (Nat.le_refl _)).keeps λb o e=>hk _ _ (lay.keep _ _ e)
    rcases hO b z with z | z
    ·exact h' z
    ·rw [z] at hb; cases hb
  ·cases hx
 ·rw [kn x] at hx
  cases hn:names.lookup x with
  | none=>rw [hn] at hx; cases hx
  | some kd =>
   rw [hn] at hx
   have hm:=mem_of_lookup hn
   cases kd with
   | free =>
    obtain⟨d',k',c,v,g1,g2,g3,_⟩:=jn3 eo ok hm
    exact⟨c,some v,by rw [e5,frl x hm]; exact g2,(g3.keeps lay.keep).keeps hk⟩
   | cell =>
    rcases lay.look x with ⟨c,g1,g2,g3,g4⟩ | ⟨g1,g2⟩
    ·exact⟨c,none,by rw [e5]; exact g1,g3.keeps hk⟩
    ·exact absurd hm g1
   | _=>simp at hx
structure Place (g:Glob) (O P:Avoid) (env:Env) (Z:Addr) (names:List (Str×NameKind)):Prop where
 z:P Z
 o:∀b,P b->O b
 g:∀b o,g.h.get? b=some o->¬P b
 store:∀x,(names.lookup x=some .local\/names.lookup x=some .cell)->jm0 env x/\P (jl3 env x)
 live:∀(t:Shared) ys,FrameOk env t.heap->AccAt t.heap Z ys->∀b,P b->∃o,t.heap.get? b=some o
noncomputable abbrev qt7 (elt:Expr) (Z:Addr) (env:Env):Sem Unit:=do let _ <- call (.builtin "list.append") [.ref Z,<- eval elt env]
theorem ul6 {P:Avoid}{Z:Addr}{e:D}{names:List (Str×NameKind)}(rm:Room n A)(pl:Place g O P env Z names)(x:EvS g n ρ elt e 0) :
  BodyS g A O M P env Z (qt7 elt Z env) ρ [e]:=by
 intro t ys E Q u aO aM eo fo acc hc q
 refine wpAny_bind (x.use u rm aO aM eo λv t_1 k_1 r_1 u_1 o_1 m_1 eo1=>wpAny_bind ?_)
 obtain⟨m,hZ⟩:=acc
 have hZ1:=ja0 k_1 _ _ hZ
 refine append_at (prog:=g.prog) (w:=g.w) hZ1 (λh' hs he=>wpAny_pure ?_) (by have:=jc3; simp at hc; grind)
 have ch:Chg (λb=>b=Z) t_1 { t_1 with heap:=h' }:=⟨⟨h',t_1.toks,rfl⟩,λb o hb e=>hs.extBut b o hb e⟩
 have kd:∀b,b=Z->∃o,t_1.heap.get? b=some o/\isFS o=true:=λb hb=>by subst hb; exact⟨_,hZ1,rfl⟩
 have lv:∀b,b=Z->∃o,({ t_1 with heap:=h' }:Shared).heap.get? b=some o:=λb hb=>by subst hb; exact⟨_,he⟩
 refine q _ [v] (Chg.trans (Chg.of_keeps k_1) (ch.mono λb hb=>hb ▸ pl.z)) ⟨m+1,by simpa using he⟩ (.cons (r_1.off λb o hb e=>hs.extBut b o (λz=>hb (z ▸ pl.o _ pl.z)) e) .nil) (eo1.chgW ch (λb hb=>hb ▸ pl.o _ pl.z) kd) ((fo.keeps (ja0 k_1)).chgW ch kd)
  (ch.up u_1 λb o e z=>pl.g b o e (z ▸ pl.z)) (ch.alloc o_1 λb zw hb=>lv b hb) (ch.alloc m_1 λb zw hb=>lv b hb)
theorem jn7 {gens:List Comprehension}{scope:Scope}{j:Nat}{c:Comprehension}{it acc:Value}(hc:gens[j]?=some c)(ha:c.is_async=0)
  (h0:codeAny g.M A (.compLoop (.ListComp elt gens scope pos) j it acc env) R s)
  (h:∀E,wpAny g.M A (pyIter it) (λit' s'=>codeAny g.M A (.compLoop (.ListComp elt gens scope pos) j it' acc env) R s') E s) :
  codeAny g.M A (.compStart (.ListComp elt gens scope pos) j it acc env) R s:=by
 refine codeAny_of_tree ?_
 show wpAny _ _ ((compStart (.ListComp elt gens scope pos) j it acc env).onRaise (λx=>do noteFrame x env; standAt theWindowsPlace)) _ _ s
 refine wpAny_notedAt ?_
 have hcl:(clausesOf (.ListComp elt gens scope pos))[j]?=some c:=hc
 unfold compStart
 rw [hcl]
 simp only [Option.elim,ha]
 refine wpAny_ite ?_
 rw [if_neg (by decide)]
 refine wpAny_bind (wpAny_askSetting (wpAny_ite ?_))
 split
 ·first
   | exact wpAny_bind (wpAny_pure (wpAny_pure (And.intro rfl h0)))
   | exact wpAny_pure (And.intro rfl h0)
 ·exact wpAny_bind (wpAny_rule (wpAny_bind (wpAny_standAt (wpAny_bind (wpAny_mono (h _) (λit' s' h'=>wpAny_pure (And.intro rfl h')) λzw zw x=>x)))))
theorem EnvOk.impO {O':Avoid}(eo:EnvOk O M ρ env h)(ho:∀b,O' b->O b):EnvOk O' M ρ env h :=
 ⟨eo.kind,eo.gl,eo.bl,eo.sc,eo.apart,λx d k hx=>let ⟨v,a,b,o⟩:=eo.vars x d k hx; ⟨v,a,b.imp (λb zw h z=>h (ho b z)) (λzw zw zw a=>a) (Nat.le_refl _),o⟩⟩
noncomputable abbrev qs4 (e:Expr) (iter:Expr) (Z:Addr) (env:Env):Sem Unit:=do
 let x <- eval iter env
 standAt iter.pos
 let x <- foldedSetIterable iter env x
 let _ <- runOwn (.compStart e 1 (← holding [x] (pyIter x)) (.ref Z) env) env
theorem jq7 (elt target iter:Expr)(ifs:List Expr)(scope:Scope)(pos:Pos)(it:Value)(Z:Addr)(env:Env) :
  compTurn (.ListComp elt [⟨target,iter,ifs,0⟩] scope pos) 0 it (.ref Z) env=ju7 (.ListComp elt [⟨target,iter,ifs,0⟩] scope pos) 0 it (.ref Z) env iter.pos target ifs (qt7 elt Z env):=rfl
theorem qr5 (elt target iter:Expr)(ifs:List Expr)(target' iter':Expr)(ifs':List Expr)(scope:Scope)(pos:Pos)(it:Value)(Z:Addr)(env:Env) :
  compTurn (.ListComp elt [⟨target,iter,ifs,0⟩,⟨target',iter',ifs',0⟩] scope pos) 0 it (.ref Z) env =
   ju7 (.ListComp elt [⟨target,iter,ifs,0⟩,⟨target',iter',ifs',0⟩] scope pos) 0 it (.ref Z) env iter.pos target ifs (qs4 (.ListComp elt [⟨target,iter,ifs,0⟩,⟨target',iter',ifs',0⟩] scope pos) iter' Z env):=by
 unfold ju7 qs4
 simp only [bind_assoc,pure_bind]
 rfl
theorem ub8 (elt target iter:Expr)(ifs:List Expr)(target' iter':Expr)(ifs':List Expr)(scope:Scope)(pos:Pos)(it:Value)(Z:Addr)(env:Env) :
  compTurn (.ListComp elt [⟨target,iter,ifs,0⟩,⟨target',iter',ifs',0⟩] scope pos) 1 it (.ref Z) env =
   ju7 (.ListComp elt [⟨target,iter,ifs,0⟩,⟨target',iter',ifs',0⟩] scope pos) 1 it (.ref Z) env iter'.pos target' ifs' (qt7 elt Z env):=rfl
structure LastS (g:Glob) (n:Nat) (elt target:Expr) (ifs:List Expr) (ρ:Rho) (d:D) (out:List D):Prop where
 ex:∃ρ' b,jw0 ρ target d=some ρ'/\IfsS g n ρ' ifs b/\((b=true/\∃e,out=[e]/\EvS g n ρ' elt e 0)\/(b=false/\out=[]))
theorem LastS.item {P:Avoid}{Z:Addr}{ifs:List Expr}{out:List D}{names:List (Str×NameKind)}(x:LastS g n elt target ifs ρ d out)(rm:Room n A)(pl:Place g O P env Z names) :
  ∃ρ' b,ItemS g n A O M P env Z (qt7 elt Z env) target ifs ρ d out ρ' b:=by
 obtain⟨ρ',b,h1,h2,h3⟩:=x.ex
 refine⟨ρ',b,h1,h2,λhb=>?_,λhb=>?_⟩
 ·rcases h3 with ⟨_,e,rfl,he⟩ | ⟨h,_⟩
  ·exact ul6 rm pl he
  ·rw [hb] at h; cases h
 ·rcases h3 with ⟨h,_⟩ | ⟨_,h⟩
  ·rw [hb] at h; cases h
  ·exact h
noncomputable def jd8 (names:List (Str×NameKind)) (xs:List Str):Bool:=xs.all λx=>names.lookup x==some .local || names.lookup x==some .cell
theorem jg1 {names:List (Str×NameKind)}{xs:List Str}(h:jd8 names xs=true)(hx:x∈xs):names.lookup x=some .local\/names.lookup x=some .cell:=by
 have:=List.all_eq_true.mp h _ hx
 simpa using this
theorem jt8 {names:List (Str×NameKind)}(h:names.lookup x=some .local\/names.lookup x=some .cell):(ρ.inner names).vars.lookup x=none:=by
 show(ρ.vars.filter λp=>names.lookup p.1==some .free).lookup x=none
 rw [jf7 (λy=>names.lookup y==some .free)]
 rcases h with h | h <;> rw [h] <;> rfl
theorem ul5 {P:Avoid}{Z:Addr}{target' iter':Expr}{ifs ifs':List Expr}{scope:Scope}{tt:Bool}{items:List D}{outs:List (List D)}{xs:List Str}{names:List (Str×NameKind)}
  (rm:Room n A) (pl:Place g O P env Z names) (hs:∀x,foldedSetIterable iter' env x=pure x) (I:IterS g n ρ tt iter' items) (htt:Tgt tt target') (hn:jb3 target'=some xs) (hst:jd8 names xs=true) (hfresh:∀x∈xs,ρ.vars.lookup x=none)
  (hlen:outs.length=items.length) (hit:∀(i:Nat) (d:D) (out:List D),items[i]?=some d->outs[i]?=some out->LastS g n elt target' ifs' ρ d out) :
  BodyS g A O M P env Z (qs4 (.ListComp elt [⟨target,iter,ifs,0⟩,⟨target',iter',ifs',0⟩] scope pos) iter' Z env) ρ outs.flatten:=by
 intro t ys E Q u aO aM eo fo acc hc q
 refine wpAny_bind (wpAny_mono (I O M env A t E (λit s_1=>wpAny g.M A (runOwn (.compStart (.ListComp elt [⟨target,iter,ifs,0⟩,⟨target',iter',ifs',0⟩] scope pos) 1 it (.ref Z) env) env) (λzw s'=>Q () s') E s_1) u rm aO aM eo ?_) (λx s' hx=>?_) λzw zw z=>z)
 ·intro it s_1 W St k_1 it1
  have live:=pl.live t ys fo acc
  have hW:∀b,W b->t.heap.get? b=none:=λb hb=>(it1.wnew b hb).1
  have hPW:∀b,P b->¬W b:=λb hb hw=>by
   obtain⟨o,e⟩:=live b hb
   rw [hW b hw] at e; cases e
  refine wpAny_runOwn ?_
  let O2:Avoid:=λb=>O b\/W b
  have wdO:Wid O W O2 s_1:=⟨λb h=>.inl h,λb h=>by rcases h with h | h; exact .inl h; exact .inr (.inl h)⟩
  have hO_2:∀b,O2 b->O b\/t.heap.get? b=none:=λb h=>by
   rcases h with h | h
   ·exact .inl h
   ·exact .inr (hW b h)
  have eo2:EnvOk O2 M ρ env s_1.heap:=by
   have:=eo
   refine⟨eo.kind,eo.gl,eo.bl,eo.sc,eo.apart,λx d k hx=>?_⟩
   obtain⟨v,a,b,ow⟩:=eo.vars x d k hx
   refine⟨v,a.keeps (ja0 k_1),(b.imp (O':=O2) (M':=M) (λc hc' h z=>?_) (λzw zw zw a=>a) (Nat.le_refl _)).keeps (ja0 k_1),ow⟩
   rcases hO_2 c z with z | z
   ·exact h z
   ·rw [z] at hc'; cases hc'
  have aO2:Alloc O2 s_1:=λb h=>by
   rcases h with h | h
   ·exact aO.keeps k_1 b h
   ·exact(it1.wnew b h).2
  have loop:codeAny g.M A (.compLoop (.ListComp elt [⟨target,iter,ifs,0⟩,⟨target',iter',ifs',0⟩] scope pos) 1 it (.ref Z) env) (λr s'=>match r with | .ok f=>Q () s' | .error e=>cameBackBy g.M A env E e s') s_1:=by
   refine qa2 (O0:=O) (O:=O2) (M0:=M) (M:=M) (W:=W) (P:=P) (s:=t) (s_1:=s_1) (St:=St) (ρ:=ρ) (outs:=outs) (ys0:=ys) (ub8 ..) rm it1 wdO Wid.refl (λb h=>.inr h) htt hn (λx hx=>pl.store x (jg1 hst hx)) hfresh
    (λb h=>.inl (pl.o b h)) (λb h=>.inl (pl.o b h)) hPW (λb o e=>⟨pl.g b o e,λhw=>by have:=u b o e; rw [hW b hw] at this; cases this⟩) pl.z pl.live hlen
    (λi d out h1 h2=>(hit i d out h1 h2).item rm ⟨pl.z,λb h=>.inl (pl.o b h),pl.g,pl.store,pl.live⟩) hc (Chg.of_keeps k_1) it1.start ((acc).elim λm e=>⟨m,ja0 k_1 _ _ e⟩) eo2 (fo.keeps (ja0 k_1)) (u.keeps k_1) aO2 (aM.keeps k_1) ?_
   intro t' vs ch acc' rds eo' fo' u' al
   have nW:∀b,(∃o,t.heap.get? b=some o)->¬W b:=λb ⟨o,e⟩ hw=>by rw [hW b hw] at e; cases e
   exact q t' vs ch acc' (rds.imp (λb zw h z=>h (.inl z)) (λzw zw zw a=>a) (Nat.le_refl _)) (eo'.impO λb h=>.inl h) fo' u' (λb h=>al b (.inl (.inl h)) (nW b (aO b h))) (λb h=>al b (.inr h) (nW b (aM b h)))
  exact jn7 (c:=⟨target',iter',ifs',0⟩) rfl rfl loop λE'=>it1.self _ _ _ it1.start loop
 ·refine wpAny_bind (wpAny_standAt (wpAny_bind (wpAny_of_eq (hs x) ?_)))
  refine wpAny_bind (wpAny_holding (wpAny_mono hx (λit s_1 h_1=>?_) λzw zw z=>z))
  exact wpAny_bind (wpAny_mono h_1 (λzw zw z=>wpAny_pure z) λzw zw z=>z)
section
theorem jr3 (eo:EnvOk O M ρ env h)(scope:Scope):(relabel scope env).names=jg8 ρ.sc scope.names:=by
 unfold relabel jg8
 refine List.map_congr_left λp zw=>?_
 obtain⟨x,k⟩:=p
 have:env.kindOf x=ρ.sc.lookup x:=by unfold Env.kindOf; rw [eo.sc]
 simp only [eo.kind,this]
 simp
theorem EnvOk.wid {O':Avoid}(eo:EnvOk O M ρ env h)(ho:∀b,O' b->O b\/h.get? b=none):EnvOk O' M ρ env h :=
 ⟨eo.kind,eo.gl,eo.bl,eo.sc,eo.apart,λx d k hx=>let ⟨v,a,b,o⟩:=eo.vars x d k hx; ⟨v,a,b.imp (λb hb h z=>by
  rcases ho b z with z | z
  ·exact h z
  ·rw [z] at hb; cases hb) (λzw zw zw a=>a) (Nat.le_refl _),o⟩⟩
noncomputable def ql9 (g:Glob) (n:Nat) (O M:Avoid) (ρ:Rho) (tt:Bool) (e:Expr) (ds:List D):Prop :=
 ∀(env:Env) (A:Around) (s:Shared) (E:Value->Shared->Prop) (Q:Value->Shared->Prop),g.Up s->Room n A->Alloc O s->Alloc M s->EnvOk O M ρ env s.heap →
  (∀it s_1 W St,Keeps s s_1->Itr g A tt it ds O M W s s_1 St->Q it s_1)->wpAny g.M A (eval e env) (λx s'=>wpAny g.M A (pyIter x) Q E s') E s
theorem ji5 {ifs:List Expr}{rest:List Comprehension}{scope:Scope}{cp:Pos}{use:Option (Value->Sem Unit)}{tt:Bool}{items:List D}{outs:List (List D)}{xs:List Str}{body:Addr->Env->Sem Unit}
  (rm:Room n A) (hform:∀it Z env',compTurn (.ListComp elt (⟨target,iter,ifs,0⟩::rest) scope cp) 0 it (.ref Z) env'=ju7 (.ListComp elt (⟨target,iter,ifs,0⟩::rest) scope cp) 0 it (.ref Z) env' iter.pos target ifs (body Z env'))
  (hs:∀x,foldedSetIterable iter env x=pure x) (hkind:scope.kind=.function) (ok:jf1 ρ scope.names=true) (I:ql9 g n O M ρ tt iter items) (htt:Tgt tt target) (hn:jb3 target=some xs) (hst:jd8 scope.names xs=true) (hlen:outs.length=items.length)
  (hit:∀O' P env' Z,Place g O' P env' Z scope.names->∀(i:Nat) (d:D) (out:List D),items[i]?=some d->outs[i]?=some out->∃ρ' b,ItemS g n A O' M P env' Z (body Z env') target ifs (ρ.inner scope.names) d out ρ' b)
  (hcap:outs.flatten.length<=cap) (u:g.Up s) (aO:Alloc O s) (aM:Alloc M s) (eo:EnvOk O M ρ env s.heap)
  (hq:∀Z C t' m,Keeps s t'->t'.heap.Ns C m->s.heap.get? C=none->Rd O M t'.heap 0 (.ref Z) (.list outs.flatten)->compPost g.M A E use Q (.ref Z) C (.ok .next) t') :
  wpAny g.M A (comprehension (.ListComp elt (⟨target,iter,ifs,0⟩::rest) scope cp) scope env pos (newList []) false (eval iter env) use) Q E s:=by
 obtain⟨cl,hcl,c1,c2,c3⟩:=jl8 (env:=env) (scope:=scope) λx hx=>by
  obtain⟨d,k,c,v,_,h2,_⟩:=jn3 eo ok hx
  rw [h2]; rfl
 refine wpAny_comprehension_free (M:=g.M) rfl hs hcl hkind (λx hx hl=>by obtain⟨y,k⟩:=x; subst hl; exact(jg6 ok hx).1) ?_
 refine I env A s E _ u rm aO aM eo λit s_1 W St k_1 it1=>?_
 ((show let Q0:=_; let E0:=_; wpAny _ _ _ Q0 E0 _); intro Q0 E0)
 refine wpAny_newObj_type (jq6 λh_1 cs lay=>wpAny_pure ?_)
 generalize hH:s_1.heap.push { cls:=.type "list",dict:=none,data:=.seq ([]:List Value).toArray }=H at lay ⊢
 have hHs:H.objs.size=s_1.heap.objs.size+1:=by rw [<- hH,Heap.size_push]
 have hZ:IsL H s_1.heap.objs.size #[] 0:=by rw [<- hH]; exact IsL.new _ _
 have hkH:∀b o,s_1.heap.get? b=some o->H.get? b=some o:=λb o e=>by rw [<- hH]; exact Heap.get?_push_of_some _ e
 have k_2:Keeps s_1 { s_1 with heap:=h_1,toks:=s_1.toks }:=⟨h_1,_,rfl,λb o e=>lay.keep _ _ (hkH _ _ e)⟩
 generalize hcenv:({ newEnv scope H.objs.size env.globals cs env.qual none .none (some env) builtinsNs with scope:=relabel scope env }:Env)=cenv
 revert hcenv
 revert cenv
 refine id ?_
 intro cenv hcenv
 have n1:cenv.scope.kind=.function:=by rw [<- hcenv]; exact hkind
 have n2:cenv.globals=mainGlobals:=by rw [<- hcenv]; exact eo.gl
 have n3:cenv.builtins=builtinsNs:=by rw [<- hcenv]; exact eo.bl
 have n4:cenv.scope.names=jg8 ρ.sc scope.names:=by rw [<- hcenv]; exact jr3 eo scope
 have n5:cenv.cells=cs:=by rw [<- hcenv]; rfl
 have n6:cenv.locals=H.objs.size:=by rw [<- hcenv]; rfl
 let P:Avoid:=λb=>b=s_1.heap.objs.size\/b=H.objs.size\/∃x,(x,NameKind.cell)∈scope.names/\cs.lookup x=some b
 have hPge:∀b,P b->@LE.le Nat _ s_1.heap.objs.size b:=λb hb=>by
  rcases hb with hb | hb | ⟨x,hx,hc⟩
  ·rw [hb]; exact Nat.le_refl _
  ·rw [hb,hHs]; exact Nat.le_succ _
  ·rcases lay.look x with ⟨c,h1,h2,_⟩ | ⟨h1,_⟩
   ·rw [hc] at h1; cases h1; rw [hHs] at h2; omega
   ·exact absurd hx h1
 have hPn:∀b,P b->s_1.heap.get? b=none:=λb hb=>je5 (ja3 s_1) (hPge b hb)
 have hPs:∀b,P b->s.heap.get? b=none:=λb hb=>je5 k_1 (hPge b hb)
 let O':Avoid:=λb=>O b\/W b\/P b
 have hW:∀b,W b->s.heap.get? b=none:=λb hb=>(it1.wnew b hb).1
 have kn:∀x,cenv.kindOf x=(scope.names.lookup x).map λk=>if (k==.free && ρ.sc.lookup x==some .cell) then .cell else k:=λx=>by unfold Env.kindOf; rw [n4]; exact jf4 _ _ _
 have live:∀(t:Shared) ys,FrameOk cenv t.heap->AccAt t.heap s_1.heap.objs.size ys->∀b,P b->∃o,t.heap.get? b=some o:=λt ys fo acc b hb=>by
  rcases hb with hb | hb | ⟨x,hx,hc⟩
  ·obtain⟨m,e⟩:=acc; exact⟨_,hb ▸ e⟩
  ·obtain⟨m,o,_,_,e,_⟩:=fo.ns; exact⟨o,by rw [hb,<- n6]; exact e⟩
  ·obtain⟨c,v,e1,o,e2,_⟩:=fo.cell x (by rw [kn x,(jg6 ok hx).1]; rfl)
   rw [n5,hc] at e1; cases e1
   exact⟨o,e2⟩
 have pl:Place g O' P cenv s_1.heap.objs.size scope.names:=by
  refine⟨.inl rfl,λb hb=>.inr (.inr hb),λb o e hb=>?_,λx hx=>?_,live⟩
  ·have:=u b o e; rw [hPs b hb] at this; cases this
  ·rcases hx with hx | hx
   ·have e:cenv.kindOf x=some .local:=by rw [kn x,hx]; rfl
    refine⟨.inl e,.inr (.inl ?_)⟩
    unfold jl3; rw [e]; exact n6
   ·have e:cenv.kindOf x=some .cell:=by rw [kn x,hx]; rfl
    refine⟨.inr e,.inr (.inr ⟨x,mem_of_lookup hx,?_⟩)⟩
    unfold jl3; rw [e]
    rcases lay.look x with ⟨c,h1,h2,_⟩ | ⟨h1,_⟩
    ·rw [n5,h1]; rfl
    ·exact absurd (mem_of_lookup hx) h1
 have eoH:EnvOk O' M ρ env H:=((eo.wid (O':=O') λb hb=>by
  rcases hb with hb | hb | hb
  ·exact .inl hb
  ·exact .inr (hW b hb)
  ·exact .inr (hPs b hb)).keeps (ja0 k_1)).keeps hkH
 obtain⟨eo',fo'⟩:=qk1 (O':=O') (env':=cenv) (t:=h_1) eoH ok lay c1 c2 c3 n1 n2 n3 n4 n5 n6 (λzw zw e=>e) λb hb=>.inl hb
 have kk:Keeps s { s_1 with heap:=h_1,toks:=s_1.toks }:=ja1 k_1 k_2
 have st1:St 0 h_1:=it1.frame _ _ _ it1.start λb o zw zw zw e=>ja0 k_2 b o e
 have acc1:AccAt h_1 s_1.heap.objs.size #[]:=⟨0,lay.keep _ _ hZ⟩
 have aO':Alloc O' { s_1 with heap:=h_1,toks:=s_1.toks }:=λb hb=>by
  rcases hb with hb | hb | hb
  ·exact aO.keeps kk b hb
  ·obtain⟨o,e⟩:=(it1.wnew b hb).2; exact⟨o,ja0 k_2 _ _ e⟩
  ·exact live _ _ fo' acc1 b hb
 have nC:s.heap.get? H.objs.size=none:=hPs _ (.inr (.inl rfl))
 have loop:codeAny g.M A (.compLoop (.ListComp elt (⟨target,iter,ifs,0⟩::rest) scope cp) 0 it (.ref s_1.heap.objs.size) cenv) (compPost g.M A E use Q (.ref s_1.heap.objs.size) H.objs.size) { s_1 with heap:=h_1,toks:=s_1.toks }:=by
  refine qa2 (O0:=O) (O:=O') (M0:=M) (M:=M) (W:=W) (P:=P) (s:=s) (s_1:=s_1) (St:=St) (ρ:=ρ.inner scope.names) (outs:=outs) (ys0:=#[]) (hform _ _ _) rm it1 ⟨λb h=>.inl h,λb hb=>by
    rcases hb with hb | hb | hb
    ·exact .inl hb
    ·exact .inr (.inl hb)
    ·exact .inr (.inr (hPn b hb))⟩ Wid.refl (λb h=>.inr (.inl h)) htt hn (λx hx=>pl.store x (jg1 hst hx)) (λx hx=>jt8 (jg1 hst hx))
   pl.o (λb hb=>.inr (hPn b hb)) (λb hb hw=>by obtain⟨o,e⟩:=(it1.wnew b hw).2; rw [hPn b hb] at e; cases e) (λb o e=>⟨pl.g b o e,λhw=>by have:=u b o e; rw [hW b hw] at this; cases this⟩) pl.z live hlen
   (λi d out h1 h2=>hit O' P cenv _ pl i d out h1 h2) (by simpa using hcap) (Chg.of_keeps kk) st1 acc1 eo' fo' (u.keeps kk) aO' (aM.keeps kk) ?_
  intro t' vs ch acc' rds eo'' fo'' u' al
  have kt:Keeps s t':=by
   obtain⟨⟨h,tk,e⟩,k⟩:=ch
   refine⟨h,tk,e,λb o eb=>?_⟩
   have:=k b o (λhb=>by rw [hPs b hb] at eb; cases eb) eb
   rw [e] at this; exact this
  obtain⟨m,hm⟩:=fo''.ns
  rw [n6] at hm
  obtain⟨q,hacc⟩:=acc'
  have hl:=rds.length
  refine hq _ _ t' m kt hm nC (.list (λz=>?_) (λzw z=>?_) ?_ hacc ?_)
  ·obtain⟨o,e⟩:=aO _ z; rw [hPs _ (.inl rfl)] at e; cases e
  ·obtain⟨o,e⟩:=aM _ z; rw [hPs _ (.inl rfl)] at e; cases e
  ·have e:(#[]++vs.toArray).size=vs.length:=by simp
   rw [e,hl]; exact hcap
  ·simp only [Array.empty_append]
   exact rds.imp (λb zw h z=>h (.inl z)) (λzw zw zw a=>a) (Nat.le_refl _)
 exact jn7 (c:=⟨target,iter,ifs,0⟩) rfl rfl loop λE'=>it1.self _ _ _ st1 loop
theorem jl0 {t:Shared}{C:Addr}(k:Keeps s t)(hC:s.heap.get? C=none)(hs:Heap.SameBut C t.heap h'):Keeps s { t with heap:=h' }:=by
 obtain⟨h,tk,rfl,kk⟩:=k
 exact⟨h',tk,rfl,λb o e=>hs.extBut b o (λz=>by rw [z,hC] at e; cases e) (kk b o e)⟩
theorem qc9 {P:Avoid}{Z:Addr}{target' iter':Expr}{ifs ifs':List Expr}{scope:Scope}{cp:Pos}{tt':Bool}{xs xs':List Str}{out:List D}
  (rm:Room n A) (hs':∀env x,foldedSetIterable iter' env x=pure x) (htt':Tgt tt' target') (hn:jb3 target=some xs) (hn':jb3 target'=some xs') (hst':jd8 scope.names xs'=true) (hdis:xs'.all (λx=>!xs.contains x)=true) (pl:Place g O P env Z scope.names)
  (h:∃ρ' b,jw0 (ρ.inner scope.names) target d=some ρ'/\IfsS g n ρ' ifs b ∧
   ((b=true/\∃(items':List D) (outs':List (List D)),out=outs'.flatten/\outs'.length=items'.length/\IterS g n ρ' tt' iter' items'/\∀(j:Nat) (d':D) (out':List D),items'[j]?=some d'->outs'[j]?=some out'->LastS g n elt target' ifs' ρ' d' out')\/(b=false/\out=[]))) :
  ∃ρ' b,ItemS g n A O M P env Z (qs4 (.ListComp elt [⟨target,iter,ifs,0⟩,⟨target',iter',ifs',0⟩] scope cp) iter' Z env) target ifs (ρ.inner scope.names) d out ρ' b:=by
 obtain⟨ρ',b,h1,h2,h3⟩:=h
 refine⟨ρ',b,h1,h2,λhb=>?_,λhb=>?_⟩
 ·rcases h3 with ⟨_,items',outs',rfl,h4,h5,h6⟩ | ⟨h,_⟩
  ·refine ul5 rm pl (hs' env) h5 htt' hn' hst' (λx hx=>?_) h4 h6
   have:x∉xs:=by
    have:=List.all_eq_true.mp hdis x hx
    simpa using this
   rw [(ju5 h1 hn).2 x this]
   exact jt8 (jg1 hst' hx)
  ·rw [hb] at h; cases h
 ·rcases h3 with ⟨h,_⟩ | ⟨_,h⟩
  ·rw [hb] at h; cases h
  ·exact h
section
variable {g:Glob} {n:Nat} {ρ:Rho}
theorem ev_comp1 {ifs:List Expr}{scope:Scope}{cp:Pos}{tt:Bool}{items:List D}{outs:List (List D)}{xs:List Str}
  (hs:∀env x,foldedSetIterable iter env x=pure x) (hkind:scope.kind=.function) (ok:jf1 ρ scope.names=true) (I:IterS g n ρ tt iter items) (htt:Tgt tt target) (hn:jb3 target=some xs) (hst:jd8 scope.names xs=true) (hlen:outs.length=items.length) (hcap:outs.flatten.length<=cap)
  (hit:∀(i:Nat) (d:D) (out:List D),items[i]?=some d->outs[i]?=some out->LastS g n elt target ifs (ρ.inner scope.names) d out) :
  EvS g n ρ (.ListComp elt [⟨target,iter,ifs,0⟩] scope cp) (.list outs.flatten) 0:=by
 intro O M env A s E u rm aO aM eo
 rw [eval_ListComp]
 refine ji5 (use:=none) rm (λit Z env'=>jq7 ..) (hs env) hkind ok (I _ _) htt hn hst hlen (λO' P env' Z pl i d out h1 h2=>(hit i d out h1 h2).item rm pl) hcap u aO aM eo λZ C t' m k hm hC r=>?_
 exact⟨m,hm,λh' hs'=>⟨jl0 k hC hs',r.seqs λb c vs q e=>hs'.extBut b _ (jj0 hm e) e⟩⟩
theorem ev_comp2 {target' iter':Expr}{ifs ifs':List Expr}{scope:Scope}{cp:Pos}{tt tt':Bool}{items:List D}{outs:List (List D)}{xs xs':List Str}
  (hs:∀env x,foldedSetIterable iter env x=pure x) (hs':∀env x,foldedSetIterable iter' env x=pure x) (hkind:scope.kind=.function) (ok:jf1 ρ scope.names=true) (I:IterS g n ρ tt iter items) (htt:Tgt tt target) (htt':Tgt tt' target') (hn:jb3 target=some xs) (hn':jb3 target'=some xs') (hst:jd8 scope.names xs=true) (hst':jd8 scope.names xs'=true) (hdis:xs'.all (λx=>!xs.contains x)=true) (hlen:outs.length=items.length) (hcap:outs.flatten.length<=cap)
  (hit:∀(i:Nat) (d:D) (out:List D),items[i]?=some d->outs[i]?=some out->∃ρ' b,jw0 (ρ.inner scope.names) target d=some ρ'/\IfsS g n ρ' ifs b ∧
   ((b=true/\∃(items':List D) (outs':List (List D)),out=outs'.flatten/\outs'.length=items'.length/\IterS g n ρ' tt' iter' items'/\∀(j:Nat) (d':D) (out':List D),items'[j]?=some d'->outs'[j]?=some out'->LastS g n elt target' ifs' ρ' d' out')\/(b=false/\out=[]))) :
  EvS g n ρ (.ListComp elt [⟨target,iter,ifs,0⟩,⟨target',iter',ifs',0⟩] scope cp) (.list outs.flatten) 0:=by
 intro O M env A s E u rm aO aM eo
 rw [eval_ListComp]
 refine ji5 (use:=none) rm (λit Z env'=>qr5 ..) (hs env) hkind ok (I _ _) htt hn hst hlen (λO' P env' Z pl i d out h1 h2=>qc9 rm hs' htt' hn hn' hst' hdis pl (hit i d out h1 h2)) hcap u aO aM eo λZ C t' m k hm hC r=>?_
 exact⟨m,hm,λh' hs'=>⟨jl0 k hC hs',r.seqs λb c vs q e=>hs'.extBut b _ (jj0 hm e) e⟩⟩
end
end
set_option backward.match.sparseCases false
noncomputable def repL (xs:List D) (n:Nat):List D:=(List.replicate n xs).flatten
theorem qk6 {α:Type}:∀(l:List (Array α)) (z:Array α),(l.foldl (λx1 x2=>x1++x2) z).toList=z.toList++(l.map (·.toList)).flatten
 | [],z=>by simp
 | a::l,z=>by rw [List.foldl_cons,qk6 l]; simp
theorem Rds.rep {O M:Avoid}{h:Heap}{k:Nat}{vs:List Value}{ds:List D}(r:Rds O M h k vs ds):∀n,Rds O M h k (List.replicate n vs).flatten (List.replicate n ds).flatten
 | 0=>.nil
 | n+1=>by rw [List.replicate_succ,List.replicate_succ,List.flatten_cons,List.flatten_cons]; exact r.append (r.rep n)
theorem qw5 {α:Type}(xs:List α)(n:Nat):((List.replicate n xs).flatten).length=xs.length*n:=by
 rw [List.length_flatten,List.map_replicate,List.sum_replicate_nat,Nat.mul_comm]
theorem ul7 {ka kb:Nat}{xs:List D}{i:Int}(h0:0<=i)(h:xs.length*i.toNat<=cap)(h2:i<=cap)(ha:ka<=1):BinS g n .Mult (.list xs) ka (.int i) kb (.list (repL xs i.toNat)) 0:=λO M A s E va vb r aO aM ra rb=>by
 obtain⟨l,items,m,rfl,h1,hl,h3,_,_⟩:=jc5 ra
 obtain⟨u,rfl⟩:=ja4 rb
 have l1:=h3.length
 rw [Array.length_toList] at l1
 have hc:cap=100000:=rfl
 have hsz:items.size*i.toNat<=2 ^ 24:=by rw [l1]; (exact Nat.le_trans (by assumption) (by decide))
 refine wpAny_binaryOp_repeat_ref (T:="list") (U:="int") (by decide) ⟨_,hl,rfl⟩ (λs'=>typeIs_int s' i u) noFill_list_mul F.fills_int_mul F.slot_int_rmul repeat_list F.slot_int_index.lookup
  (call_meets F.slot_int_rmul (typeIs_int s i u) F.entry_int_rmul (F.args_int_rmul_2 _ _) (int___rmul___int_list i u l items m)
   ⟨hl,rfl,⟨_,hl,rfl⟩,call_meets F.slot_list_mul ⟨_,hl,rfl⟩ F.entry_list_mul (F.args_list_mul_2 _ _)
    (AutoListH.list___mul___list_int_3 l items m i u (by simp [Builtin.List.listFitsIndex]; grind) (by grind) (by simp [Builtin.List.listTooLong,sizeLine]; assumption))
    ⟨hl,ja6 s _ _,?_⟩⟩)
 have e:(List.foldl (λx1 x2=>x1++x2) #[] (List.replicate (if items.isEmpty=true then 0 else i.toNat) items)).toList=(List.replicate i.toNat items.toList).flatten:=by
  rw [qk6]
  simp only [List.nil_append]
  split
  ·rename_i he
   have:items=#[]:=by simpa using he
   subst this
   simp
  ·rw [List.map_replicate]
 refine jl6 aO aM ?_ ?_
 ·rw [<- Array.length_toList,e,qw5,Array.length_toList,l1]; exact h
 ·rw [e]
  exact(h3.le (by omega)).rep _
noncomputable abbrev DK:=D×Nat
noncomputable def qi2 (x:Int):Bool:=decide (x.natAbs<=1000000000)
theorem qd5 {x:Int}(h:qi2 x=true):Builtin.Int.intBits x<=64:=by
 have h:x.natAbs<=1000000000:=of_decide_eq_true h
 unfold Builtin.Int.intBits
 split
 ·decide
 ·rename_i h0
  have h0:x≠0:=by simpa using h0
  have:x.natAbs.log2 < 31:=(Nat.log2_lt (by omega)).mpr (by omega)
  (exact Nat.le_trans (by assumption) (by decide))
theorem gd {α:Type}{c:Prop}[Decidable c] {t:Option α}{r:α}(h:(if c then t else none)=some r):c/\t=some r :=
 if hc:c then ⟨hc,(if_pos hc).symm.trans h⟩ else no ((if_neg hc).symm.trans h)
theorem bd {α β:Type}{x:Option α}{f:α->Option β}{r:β}{P:Prop}(h:x.bind f=some r)(k:∀a,x=some a->f a=some r->P):P :=
 (Option.bind_eq_some_iff.mp h).elim λa z=>k a z.1 z.2
theorem sm {α:Type}{a b:α}{P:α->Prop}(h:some a=some b)(p:P a):P b:=Option.some.inj h ▸ p
noncomputable def onI {α:Type} (f:Int->Option α):D->Option α
 | .int x=>f x
 | _=>none
noncomputable def onS {α:Type} (f:Str->Option α):D->Option α
 | .str x=>f x
 | _=>none
noncomputable def onL {α:Type} (f:List D->Option α):D->Option α
 | .list x=>f x
 | _=>none
theorem ji9 {α:Type}{f:Int->Option α}{r:α}{P:D->Prop}(h:onI f d=some r)(k:∀x,f x=some r->P (.int x)):P d:=by
 cases d <;> first | exact k _ h | exact no h
theorem jr7 {α:Type}{f:Str->Option α}{r:α}{P:D->Prop}(h:onS f d=some r)(k:∀x,f x=some r->P (.str x)):P d:=by
 cases d <;> first | exact k _ h | exact no h
theorem qs2 {α:Type}{f:List D->Option α}{r:α}{P:D->Prop}(h:onL f d=some r)(k:∀x,f x=some r->P (.list x)):P d:=by
 cases d <;> first | exact k _ h | exact no h
noncomputable def onD {α:Type} (i:Int->Option α) (s:Str->Option α) (l:List D->Option α):D->Option α
 | .int x=>i x
 | .str x=>s x
 | .list x=>l x
 | _=>none
theorem qc1 {α:Type}{i:Int->Option α}{s:Str->Option α}{l:List D->Option α}{r:α}{P:D->Prop}(h:onD i s l d=some r)(ki:∀x,i x=some r->P (.int x))(ks:∀x,s x=some r->P (.str x))(kl:∀x,l x=some r->P (.list x)):P d:=by
 cases d <;> first | exact ki _ h | exact ks _ h | exact kl _ h | exact no h
noncomputable def nI (f:Int->Int->Option D) (a b:D):Option DK:=onI (λx=>onI (λy=>(f x y).bind λd=>some (d,0)) b) a
noncomputable def binD:Operator->D->Nat->D->Nat->Option DK
 | .Add=>λa ka b kb=>onD (λx=>onI (λy=>some (.int (x+y),0)) b)
  (λx=>onS (λy=>if x.length+y.length<=cap then some (.str (x++y),0) else none) b)
  (λx=>onL (λy=>if x.length+y.length<=cap/\ka<=1/\kb<=1 then some (.list (x++y),0) else none) b) a
 | .Sub=>λa zw b zw=>nI (λx y=>some (.int (x - y))) a b
 | .Mult=>λa ka b zw=>onI (λy=>onD (λx=>if qi2 x then some (.int (x*y),0) else none) (λzw=>none) (λx=>if 0<=y/\x.length*y.toNat<=cap/\y<=cap/\ka<=1 then some (.list (repL x y.toNat),0) else none) a) b
 | .Mod=>λa zw b zw=>nI (λx y=>if y≠0 then some (.int (x.fmod y)) else none) a b
 | .FloorDiv=>λa zw b zw=>nI (λx y=>if y≠0/\y.natAbs < 1073741824 then some (.int (x.fdiv y)) else none) a b
 | .Pow=>λa zw b zw=>nI (λx y=>if 0<=y/\y<=100/\qi2 x=true then some (.int (x ^ y.toNat)) else none) a b
 | _=>λzw zw zw zw=>none
theorem nI_el {f:Int->Int->Option D}{a b:D}{r:DK}{P:D->D->DK->Prop}(h:nI f a b=some r)(k:∀x y d,f x y=some d->P (.int x) (.int y) (d,0)):P a b r :=
 ji9 (P:=λa=>P a b r) h λx h=>ji9 (P:=λb=>P (.int x) b r) h λy h=>bd h λd e h=>sm h (k x y d e)
theorem ua9 {op:Operator}{a b:D}{ka kb:Nat}{r:DK}(h:binD op a ka b kb=some r):BinS g n op a ka b kb r.1 r.2:=by
 cases op with
 | Add =>
  exact qc1 (P:=λa=>BinS g n .Add a ka b kb r.1 r.2) h
   (λx h=>ji9 (P:=λb=>BinS g n .Add _ ka b kb r.1 r.2) h λy h=>sm (P:=λr=>BinS g n .Add _ ka _ kb r.1 r.2) h bin_add)
   (λx h=>jr7 (P:=λb=>BinS g n .Add _ ka b kb r.1 r.2) h λy h=>sm (P:=λr=>BinS g n .Add _ ka _ kb r.1 r.2) (gd h).2 (bin_cat (gd h).1))
   (λx h=>qs2 (P:=λb=>BinS g n .Add _ ka b kb r.1 r.2) h λy h=>sm (P:=λr=>BinS g n .Add _ ka _ kb r.1 r.2) (gd h).2 (ua8 (gd h).1.1 (gd h).1.2.1 (gd h).1.2.2))
 | Sub=>exact nI_el (P:=λa b r=>BinS g n .Sub a ka b kb r.1 r.2) h λx y d h=>sm (P:=λd=>BinS g n .Sub _ ka _ kb d 0) h bin_sub
 | Mult =>
  exact ji9 (P:=λb=>BinS g n .Mult a ka b kb r.1 r.2) h λy h=>qc1 (P:=λa=>BinS g n .Mult a ka _ kb r.1 r.2) h
   (λx h=>sm (P:=λr=>BinS g n .Mult _ ka _ kb r.1 r.2) (gd h).2 (bin_mul (IntMulOk.of_left (qd5 (gd h).1)))) (λzw h=>no h)
   (λx h=>sm (P:=λr=>BinS g n .Mult _ ka _ kb r.1 r.2) (gd h).2 (ul7 (gd h).1.1 (gd h).1.2.1 (gd h).1.2.2.1 (gd h).1.2.2.2))
 | Mod=>exact nI_el (P:=λa b r=>BinS g n .Mod a ka b kb r.1 r.2) h λx y d h=>sm (P:=λd=>BinS g n .Mod _ ka _ kb d 0) (gd h).2 (bin_mod (gd h).1)
 | FloorDiv=>exact nI_el (P:=λa b r=>BinS g n .FloorDiv a ka b kb r.1 r.2) h λx y d h=>sm (P:=λd=>BinS g n .FloorDiv _ ka _ kb d 0) (gd h).2 (bin_fdiv (gd h).1.1 (gd h).1.2)
 | Pow=>exact nI_el (P:=λa b r=>BinS g n .Pow a ka b kb r.1 r.2) h λx y d h=>sm (P:=λd=>BinS g n .Pow _ ka _ kb d 0) (gd h).2 (bin_pow (gd h).1.1 (Int.le_trans (Int.mul_le_mul (Int.ofNat_le.mpr (qd5 (gd h).1.2.2)) (gd h).1.2.1 (gd h).1.1 (by decide)) (by decide)))
 | _=>exact no h
noncomputable def qn8:D->Option Unit
 | .none=>some ()
 | _=>none
theorem qf3 {r:Unit}{P:D->Prop}(h:qn8 d=some r)(p:P .none):P d:=by
 cases d <;> first | exact p | exact no h
noncomputable def cI (f:Int->Int->Bool) (a b:D):Option Bool:=onI (λx=>onI (λy=>some (f x y)) b) a
theorem cI_el {f:Int->Int->Bool}{a b:D}{r:Bool}{P:D->D->Bool->Prop}(h:cI f a b=some r)(k:∀x y,P (.int x) (.int y) (f x y)):P a b r :=
 ji9 (P:=λa=>P a b r) h λx h=>ji9 (P:=λb=>P (.int x) b r) h λy h=>sm h (k x y)
noncomputable def ul4 (a b:D):Option (Int×Int):=onI (λx=>onI (λy=>some (x,y)) b) a
noncomputable def bothS (a b:D):Option (Str×Str):=onS (λx=>onS (λy=>some (x,y)) b) a
theorem jw7 {a b:D}{r:Int×Int}{P:D->D->Prop}(h:ul4 a b=some r)(k:P (.int r.1) (.int r.2)):P a b :=
 ji9 (P:=λa=>P a b) h λx h=>ji9 (P:=λb=>P (.int x) b) h λy h=>by cases h; exact k
theorem qu4 {a b:D}{r:Str×Str}{P:D->D->Prop}(h:bothS a b=some r)(k:P (.str r.1) (.str r.2)):P a b :=
 jr7 (P:=λa=>P a b) h λx h=>jr7 (P:=λb=>P (.str x) b) h λy h=>by cases h; exact k
noncomputable def orE {α β:Type} (x:Option α) (f:α->β) (y:Option β):Option β:=match x with
 | some a=>some (f a)
 | none=>y
theorem jm9 {α β:Type}{x:Option α}{f:α->β}{y:Option β}{r:β}{P:Prop}(h:orE x f y=some r)(k:∀a,x=some a->f a=r->P)(l:y=some r->P):P:=by
 cases x with
 | none=>exact l h
 | some a=>exact k a rfl (Option.some.inj h)
noncomputable def seqB (a b:D) (r:Bool):Option Bool:=if SeqAt.shaped a=true/\SeqAt.shaped b=true then some r else none
noncomputable def cmpD (op:CmpOp) (a b:D):Option Bool :=
 match op with
 | .Eq=>orE (ul4 a b) (λp=>p.1==p.2) (orE (bothS a b) (λp=>p.1.cps.toList==p.2.cps.toList) (seqB a b (PyData.eqv a b)))
 | .NotEq=>orE (ul4 a b) (λp=>p.1 != p.2) (orE (bothS a b) (λp=>p.1.cps.toList != p.2.cps.toList) (seqB a b (!PyData.eqv a b)))
 | .Lt=>cI (λx y=>decide (x < y)) a b
 | .LtE=>cI (λx y=>decide (x<=y)) a b
 | .Gt=>cI (λx y=>decide (x > y)) a b
 | .GtE=>cI (λx y=>decide (x>=y)) a b
 | .In=>onD (λzw=>none) (λx=>onS (λy=>some (!(Builtin.Str.occurrences x y 0 x.length 1).isEmpty)) a) (λxs=>seqB a (.list xs) (xs.any λy=>PyData.eqv y a)) b
 | .NotIn=>onL (λxs=>seqB a (.list xs) (!xs.any λy=>PyData.eqv y a)) b
 | .Is=>(qn8 b).bind λzw=>some (isN a)
 | .IsNot=>(qn8 b).bind λzw=>some (!isN a)
theorem qd3 (hn:1<=n){op:CmpOp}{a b:D}{ka kb:Nat}{r:Bool}(h:cmpD op a b=some r):CmpS g n op a ka b kb r:=by
 cases op with
 | Eq=>exact jm9 h (λp e z=>z ▸ jw7 (P:=λa b=>CmpS g n .Eq a ka b kb (p.1==p.2)) e ju2) λh=>jm9 h (λp e z=>z ▸ qu4 (P:=λa b=>CmpS g n .Eq a ka b kb (p.1.cps.toList==p.2.cps.toList)) e qz9) λh=>sm (gd h).2 (cmp_eq (gd h).1.1 (gd h).1.2 hn)
 | NotEq=>exact jm9 h (λp e z=>z ▸ jw7 (P:=λa b=>CmpS g n .NotEq a ka b kb (p.1 != p.2)) e qd1) λh=>jm9 h (λp e z=>z ▸ qu4 (P:=λa b=>CmpS g n .NotEq a ka b kb (p.1.cps.toList != p.2.cps.toList)) e qz4) λh=>sm (gd h).2 (cmp_ne (gd h).1.1 (gd h).1.2 hn)
 | Lt=>exact cI_el (P:=λa b r=>CmpS g n .Lt a ka b kb r) h λzw zw=>qd2
 | LtE=>exact cI_el (P:=λa b r=>CmpS g n .LtE a ka b kb r) h λzw zw=>qz5
 | Gt=>exact cI_el (P:=λa b r=>CmpS g n .Gt a ka b kb r) h λzw zw=>qz7
 | GtE=>exact cI_el (P:=λa b r=>CmpS g n .GtE a ka b kb r) h λzw zw=>qz8
 | In =>
  exact qc1 (P:=λb=>CmpS g n .In a ka b kb r) h (λzw h=>no h)
   (λx h=>jr7 (P:=λa=>CmpS g n .In a ka _ kb r) h λy h=>sm h qz6)
   (λxs h=>sm (gd h).2 (qq2 (gd h).1.1 (gd h).1.2 hn))
 | NotIn=>exact qs2 (P:=λb=>CmpS g n .NotIn a ka b kb r) h λxs h=>sm (gd h).2 (qa9 (gd h).1.1 (gd h).1.2 hn)
 | Is=>exact bd h λzw e h=>qf3 (P:=λb=>CmpS g n .Is a ka b kb r) e (sm h jf0)
 | IsNot=>exact bd h λzw e h=>qf3 (P:=λb=>CmpS g n .IsNot a ka b kb r) e (sm h jh1)
noncomputable def jq9:List D->Option (List Int)
 | []=>some []
 | d::r=>onI (λi=>(jq9 r).bind λis=>some (i::is)) d
theorem jh2:∀{ds:List D} {is:List Int},jq9 ds=some is->ds=is.map .int
 | [],_,h=>sm (P:=λis=>[]=is.map PyData.int) h rfl
 | d::r,is,h=>ji9 (P:=λd=>d::r=is.map .int) h λi h=>bd h λjs e h=>sm (P:=λis=>.int i::r=is.map PyData.int) h (congrArg (PyData.int i::·) (jh2 e))
@[simp] theorem toInts_map:∀(is:List Int),jq9 (is.map .int)=some is
 | []=>rfl
 | i::r=>by rw [List.map_cons]; unfold jq9; rw [toInts_map r]; rfl
noncomputable def one1 (f:D->Option D):List D->Option D
 | [d]=>f d
 | _=>none
theorem qn6 {f:D->Option D}{r:D}{P:List D->Prop}(h:one1 f ds=some r)(k:∀d,f d=some r->P [d]):P ds:=match ds,h with
 | [d],h=>k d h
noncomputable def one2 (f:D->Option D) (g:D->D->Option D):List D->Option D
 | [d]=>f d
 | [d,e]=>g d e
 | _=>none
theorem qn5 {f:D->Option D}{g:D->D->Option D}{r:D}{P:List D->Prop}(h:one2 f g ds=some r)(k:∀d,f d=some r->P [d])(l:∀d e,g d e=some r->P [d,e]):P ds:=match ds,h with
 | [d],h=>k d h
 | [d,e],h=>l d e h
noncomputable def lsI (f:List Int->Option D):D->Option D:=onL λxs=>(jq9 xs).bind f
theorem ug2 {f:List Int->Option D}{r:D}{P:D->Prop}(h:lsI f d=some r)(k:∀is,f is=some r->P (.list (is.map .int))):P d :=
 qs2 h λxs h=>bd h λis e h=>jh2 e ▸ k is h
noncomputable def btD (f:Str) (ds:List D):Option D :=
 if f==("int":Str) then one1 (onI λi=>some (.int i)) ds
 else if f==("len":Str) then one1 (onD (λzw=>none) (λx=>if x.length<=cap then some (.int x.length) else none) λxs=>some (.int xs.length)) ds
 else if f==("min":Str) then one2 (lsI λis=>if is≠[] then some (.int (minI is)) else none) (λa b=>(ul4 a b).bind λp=>some (.int (min p.1 p.2))) ds
 else if f==("max":Str) then one2 (lsI λis=>if is≠[] then some (.int (maxI is)) else none) (λa b=>(ul4 a b).bind λp=>some (.int (max p.1 p.2))) ds
 else if f==("sum":Str) then one1 (lsI λis=>some (.int is.sum)) ds
 else none
structure Names (g:Glob):Prop where
 int:Callee g "int" (.type "int")
 len:Callee g "len" (.builtin "len")
 min:Callee g "min" (.builtin "min")
 max:Callee g "max" (.builtin "max")
 sum:Callee g "sum" (.builtin "sum")
 range:Callee g "range" (.type "range")
 enum:Callee g "enumerate" (.type "enumerate")
 zip:Callee g "zip" (.type "zip")
theorem jh9 {α:Type}{f:Str}{c:Str}{x y:Option α}{r:α}{P:Str->Prop}(h:(if (f==c)=true then x else y)=some r)(k:x=some r->P c)(l:y=some r->P f):P f :=
 if e:(f==c)=true then (beq_iff_eq.mp e) ▸ k ((if_pos e).symm.trans h) else l ((if_neg e).symm.trans h)
theorem ul3 (N:Names g){f:Str}{ks:Nat}(h:btD f ds=some d):∃v,Callee g f v/\(f==("__debug__":Str))=false/\jc1 g n v ds ks d 0:=by
 refine jh9 (P:=λf=>∃v,Callee g f v/\(f==("__debug__":Str))=false/\jc1 g n v ds ks d 0) h (λh=>⟨_,N.int,by decide,?_⟩) λh =>
  jh9 (P:=λf=>∃v,Callee g f v/\(f==("__debug__":Str))=false/\jc1 g n v ds ks d 0) h (λh=>⟨_,N.len,by decide,?_⟩) λh =>
  jh9 (P:=λf=>∃v,Callee g f v/\(f==("__debug__":Str))=false/\jc1 g n v ds ks d 0) h (λh=>⟨_,N.min,by decide,?_⟩) λh =>
  jh9 (P:=λf=>∃v,Callee g f v/\(f==("__debug__":Str))=false/\jc1 g n v ds ks d 0) h (λh=>⟨_,N.max,by decide,?_⟩) λh =>
  jh9 (P:=λf=>∃v,Callee g f v/\(f==("__debug__":Str))=false/\jc1 g n v ds ks d 0) h (λh=>⟨_,N.sum,by decide,?_⟩) λh=>no h
 ·exact qn6 (P:=λds=>jc1 g n _ ds ks d 0) h λa h=>ji9 (P:=λa=>jc1 g n _ [a] ks d 0) h λi h=>sm (P:=λd=>jc1 g n _ _ ks d 0) h call_int
 ·exact qn6 (P:=λds=>jc1 g n _ ds ks d 0) h λa h=>qc1 (P:=λa=>jc1 g n _ [a] ks d 0) h (λzw h=>no h) (λx h=>sm (P:=λd=>jc1 g n _ _ ks d 0) (gd h).2 (ua5 (gd h).1)) λx h=>sm (P:=λd=>jc1 g n _ _ ks d 0) h ua6
 ·exact qn5 (P:=λds=>jc1 g n _ ds ks d 0) h (λa h=>ug2 (P:=λa=>jc1 g n _ [a] ks d 0) h λis h=>sm (P:=λd=>jc1 g n _ _ ks d 0) (gd h).2 (ua3 (gd h).1)) λa b h=>bd h λp e h=>jw7 (P:=λa b=>jc1 g n _ [a,b] ks d 0) e (sm (P:=λd=>jc1 g n _ _ ks d 0) h ul1)
 ·exact qn5 (P:=λds=>jc1 g n _ ds ks d 0) h (λa h=>ug2 (P:=λa=>jc1 g n _ [a] ks d 0) h λis h=>sm (P:=λd=>jc1 g n _ _ ks d 0) (gd h).2 (ua4 (gd h).1)) λa b h=>bd h λp e h=>jw7 (P:=λa b=>jc1 g n _ [a,b] ks d 0) e (sm (P:=λd=>jc1 g n _ _ ks d 0) h ul2)
 ·exact qn6 (P:=λds=>jc1 g n _ ds ks d 0) h λa h=>ug2 (P:=λa=>jc1 g n _ [a] ks d 0) h λis h=>sm (P:=λd=>jc1 g n _ _ ks d 0) h ua2
set_option backward.match.sparseCases true
section
theorem qg2 {vs:List Value}{is:List Int}(r:Rds O M h k vs (is.map .int)):IntsAre vs is:=by
 induction is generalizing vs with
 | nil=>rw [r.nil_inv]; exact .nil
 | cons i is ih =>
  obtain⟨v,ws,rfl,a,b⟩:=r.cons_inv
  obtain⟨t,rfl⟩:=ja4 a
  exact .cons _ _ (ih b)
theorem qu7 {vs:List Value}{is:List Int}(r:IntsAre vs is):Rds O M h k vs (is.map .int):=by
 induction r with
 | nil=>exact .nil
 | cons _ _ _ ih=>exact .cons .int ih
section
variable {prog:Program} {w:World} {A:Around} {E:Value->Shared->Prop} {s:Shared}
theorem jt2 {sl:Addr}{u:Tok}{Q:Int×Int×Nat->Shared->Prop}(hs:s.heap.IsSliceOf sl .none .none (.int (-1) u))(h:Q (1,-1,2) s) :
  wpAny (model prog w) A (Builtin.Slice.sliceApplied (.ref sl) (pure (2:Int))) Q E s:=by
 obtain⟨os,hos,hcs,hds⟩:=id hs
 unfold Builtin.Slice.sliceApplied Builtin.Slice.sliceFields
 refine wpAny_bind (wpAny_bind (wpAny_field hos hds (x:=.none) rfl (wpAny_bind (wpAny_field hos hds (x:=.none) rfl (wpAny_bind (wpAny_field hos hds (x:=.int (-1) u) rfl (wpAny_pure ?_)))))))
 refine wpAny_bind (slicePart_int ?_)
 show wpAny _ _ (if ((-1:Int)==0)=true then _ else _) _ _ s
 rw [if_neg (by decide)]
 refine wpAny_bind (slicePart_none (wpAny_bind (slicePart_none (wpAny_bind (wpAny_pure ?_)))))
 exact wpAny_pure h
theorem qk4 {t sl:Addr}{x y:Value}{u:Tok}(ht:IsT s.heap t #[x,y] n)(hs:s.heap.IsSliceOf sl .none .none (.int (-1) u))
  (h:Q (.ref s.heap.objs.size) { s with heap:=s.heap.push { cls:=.type "tuple",data:=.seq #[y,x] } }):wpAny (model prog w) A (getItem (.ref t) (.ref sl)) Q E s:=by
 obtain⟨os,hos,hcs,hds⟩:=id hs
 have hT:s.TypeIs (.ref t) "tuple":=⟨_,ht,rfl⟩
 have hTs:s.TypeIs (.ref sl) "slice":=⟨os,hos,hcs⟩
 unfold getItem
 try with_reducible refine wpAny_holding ?_
 first | refine wpAny_bind (wpAny_pure ?_) | skip
 refine wpAny_bind (wpAny_sequenceKey hT (by decide) ?_)
 refine wpAny_bind (wpAny_callSpecial?_slot (name:=Str.ofString "__getitem__") hT slot_tuple_getitem
  (wpAny_call_entry slot_tuple_getitem hT entry_tuple_getitem ?_ (args_tuple_getitem _ _)))
 show wpAny _ _ (Builtin.Tuple.tupleItemsOf (.ref t) >>= _) _ _ s
 refine wpAny_bind (tupleItemsOf_ ⟨_,ht,rfl,_,rfl⟩ ?_)
 refine wpAny_bind (wpAny_typeOf hTs ?_)
 rw [if_pos (by decide)]
 refine wpAny_bind (jt2 hs ?_)
 show wpAny _ _ (if ((1:Int)==0 && (-1:Int)==1 && (2:Nat)==2)=true then _ else _) _ _ s
 rw [if_neg (by decide)]
 have e:(((List.range 2).filterMap λ(k:Nat)=>(#[x,y]:Array Value)[((1:Int)+(k:Int)*(-1)).toNat]?).toArray)=#[y,x]:=rfl
 rw [e]
 have hz:sizeOk (.seq #[y,x]):=by show 2<=sizeLine; decide
 first
  | exact wpAny_bind (m:=Builtin.Tuple.tupleExact _) (wpAny_newObj_type (wpAny_pure ⟨_,rfl,wpAny_pure h⟩) hz)
  | exact wpAny_bind (m:=Builtin.Tuple.tupleExact _) (wpAny_newObj_type (wpAny_bind (wpAny_pure (wpAny_pure ⟨_,rfl,wpAny_pure h⟩))) hz)
  | exact wpAny_bind (wpAny_bind (m:=Builtin.Tuple.tupleExact _) (wpAny_newObj_type (wpAny_pure (wpAny_pure ⟨_,rfl,wpAny_pure h⟩)) hz))
  | exact wpAny_bind (wpAny_bind (m:=Builtin.Tuple.tupleExact _) (wpAny_newObj_type (wpAny_pure ⟨_,rfl,wpAny_pure h⟩) hz))
end
section
variable {g:Glob} {n:Nat} {ρ:Rho}
theorem two_tup {x y:D}(r:Rd O M h k v (.tuple [x,y])):∃t a b m,v=.ref t/\IsT h t #[a,b] m/\Rd O M h (k - 1) a x/\Rd O M h (k - 1) b y:=by
 obtain⟨t,vs,m,rfl,h1,h2,h3,_⟩:=qb9 r
 obtain⟨a,b,e,ra,rb⟩:=h3.two_inv
 have:vs=#[a,b]:=by rw [<- Array.toArray_toList (xs:=vs),e]
 subst this
 exact⟨t,a,b,m,rfl,h2,ra,rb⟩
theorem qr8 {O M:Avoid}{h:Heap}{k:Nat}:∀{ys:List Str} {vs:List Value},Rds O M h k vs (ys.map .str)->∃zs,vs=strValues zs/\zs.map (·.1)=ys
 | [],vs,r=>⟨[],r.nil_inv,rfl⟩
 | y::ys,vs,r=>by
  obtain⟨v,ws,rfl,a,b⟩:=r.cons_inv
  obtain⟨t,rfl⟩:=jh3 a
  obtain⟨zs,rfl,rfl⟩:=qr8 b
  exact⟨(y,t)::zs,rfl,rfl⟩
theorem ev_flip {st:Option Expr}{p:Pos}{x y:D}{ka:Nat}(hx:EvS g n ρ e (.tuple [x,y]) ka)(ht:jw2 g n ρ st (some (-1)))(hk:ka - 1<=k - 1) :
  EvS g n ρ (.Subscript e (.Slice none none st p) pos) (.tuple [y,x]) k:=by
 intro O M env A s E u rm aO aM eo
 refine Subscript_ (hx.use u rm aO aM eo λva s_1 k_1 r_1 u_1 o_1 m_1 e_1=>wpAny_Slice (wpAny_pure (a:=Value.none) (wpAny_pure (a:=Value.none) (jo4 ht u_1 rm o_1 m_1 e_1 λvt s_4 k_4 p_4 u_4 o_4 m4 e_4=>?_))))
 ((show let Q0:=_; wpAny _ _ _ Q0 _ _); intro Q0)
 have k5:Keeps s_1 { s_4 with heap:=s_4.heap.push { cls:=.type "slice",data:=.fields #[.none,.none,vt] } }:=ja1 k_4 (ja6 s_4 _ _)
 obtain⟨t,a,b,m,rfl,h2,ra,rb⟩:=two_tup (r_1.keeps (ja0 k5))
 obtain⟨ops,hops⟩:=jg0 (lo:=none) (hi:=none) (st:=st) (p:=p) (.ref t) (.ref s_4.heap.objs.size)
 cases p_4
 refine tail_any (T:="tuple") ⟨_,h2,rfl⟩ F.slot_tuple_getitem.lookup (qk4 h2 (Heap.IsSliceOf.new ..) ⟨ja1 k_1 (ja1 k5 (ja6 _ _ _)),?_⟩) hops
 exact .tup (o_1.keeps k5).new (λzw=>(m_1.keeps k5).new) (by show 2<=cap; decide) (Heap.get?_push_size _ rfl) (.cons ((rb.le hk).keeps (ja0 (ja6 _ _ _))) (.cons ((ra.le hk).keeps (ja0 (ja6 _ _ _))) .nil))
theorem ev_count {a:Expr}{apos:Pos}{xs:List Int}{x:Int}{ka kb:Nat}(hx:EvS g n ρ e (qj9 xs) ka)(hy:EvS g n ρ a (.int x) kb)(hb:je2 e=true)(hs:jb1 a=true)(hl:(apos.endLine==pos.line)=true) :
  EvS g n ρ (.Call (.Attribute e "count" apos) [a] [] pos) (.int (xs.count x:Nat)) k:=by
 intro O M env A s E u rm aO aM eo
 have hst:starEach [a] env=[(false,eval a env)]:=ji8 hs
 refine Call_method1 (ji7 hb) hst hl (hx.use u rm aO aM eo λv s_1 k_1 r_1 u_1 o_1 m_1 e_1=>?_)
 obtain⟨l,vs,m,rfl,h1,h2,h3,_⟩:=jc5 r_1
 refine⟨"list","list.count",F.plainAttrs_list,F.slot_list_count,F.type_list_count,⟨_,h2,rfl⟩,λb hb=>⟨_,by cases hb; exact h2,rfl⟩,?_⟩
 refine PySem.P.count_list (hy.use u_1 rm o_1 m_1 e_1 λw s_2 k_2 r_2 u_2 o_2 m_2 e_2=>?_)
 obtain⟨t,rfl⟩:=ja4 r_2
 have hI:=qg2 h3
 refine⟨vs,m,isInt x,ja0 k_2 _ _ h2,λy hy=>eq_isInt x t hI y (by simpa using hy),?_⟩
 rw [countP_isInt x hI]
 exact⟨ja1 k_1 (ja1 k_2 (ja5 _ _)),.int⟩
theorem ev_join {a:Expr}{apos:Pos}{ys:List Str}{ka kb:Nat}(hx:EvS g n ρ e (.str x) ka)(hy:EvS g n ρ a (.list (ys.map .str)) kb)(hj:JoinOk x ys=true)(hb:je2 e=true)(hs:jb1 a=true)(hl:(apos.endLine==pos.line)=true) :
  EvS g n ρ (.Call (.Attribute e "join" apos) [a] [] pos) (.str (Txt.join x ys)) k:=by
 intro O M env A s E u rm aO aM eo
 have hst:starEach [a] env=[(false,eval a env)]:=ji8 hs
 refine Call_method1 (ji7 hb) hst hl (hx.use u rm aO aM eo λv s_1 k_1 r_1 u_1 o_1 m_1 e_1=>?_)
 obtain⟨t,rfl⟩:=jh3 r_1
 refine SB.join (hy.use u_1 rm o_1 m_1 e_1 λw s_2 k_2 r_2 u_2 o_2 m_2 e_2=>?_)
 obtain⟨l,vs,m,rfl,h1,h2,h3,_⟩:=jc5 r_2
 obtain⟨zs,e1,e2⟩:=qr8 h3
 refine⟨l,zs,rfl,?_,ys,e2,hj,λt' k'=>⟨ja1 k_1 (ja1 k_2 (ja5 _ _)),.str⟩⟩
 rw [<- e1]
 exact IsL.isList h2
end
end
set_option backward.match.sparseCases false
section
structure Tab where
 call:Str->List D->Option D
 hook:Rho->Expr->Option DK
noncomputable def mapO {α β:Type} (f:α->Option β):List α->Option (List β)
 | []=>some []
 | a::r=>(f a).bind λb=>(mapO f r).bind λbs=>some (b::bs)
theorem je9 {α β:Type}{f:α->Option β}:∀{l:List α} {bs:List β},mapO f l=some bs->bs.length=l.length/\∀(i:Nat) a b,l[i]?=some a->bs[i]?=some b->f a=some b
 | [],_,h=>sm (P:=λbs=>bs.length=0/\∀(i:Nat) a b,([]:List α)[i]?=some a->bs[i]?=some b->f a=some b) h ⟨rfl,λi a b h=>absurd h nofun⟩
 | a::r,bs,h=>bd h λb hb h=>bd h λcs hc h=>sm (P:=λbs=>bs.length=r.length+1/\∀(i:Nat) a' b,(a::r)[i]?=some a'->bs[i]?=some b->f a'=some b) h
   ⟨congrArg (·+1) (je9 hc).1,λi=>Nat.rec (λa' b' e e'=>Option.some.inj e ▸ Option.some.inj e' ▸ hb) (λi zw a' b' e e'=>(je9 hc).2 i a' b' e e') i⟩
structure Ev where
 e:Rho->Expr->Option DK
 t:Rho->Expr->Option Bool
 i:Rho->Bool->Expr->Option (List D)
noncomputable def dkV {α:Type} (x:Option DK) (f:D->Nat->Option α):Option α:=x.bind λr=>f r.1 r.2
noncomputable def dkI {α:Type} (x:Option DK) (f:Int->Nat->Option α):Option α:=x.bind λr=>onI (λi=>f i r.2) r.1
noncomputable def dkS {α:Type} (x:Option DK) (f:Str->Nat->Option α):Option α:=x.bind λr=>onS (λi=>f i r.2) r.1
noncomputable def dkL {α:Type} (x:Option DK) (f:List D->Nat->Option α):Option α:=x.bind λr=>onL (λi=>f i r.2) r.1
noncomputable def dkA {α:Type} (x:Option DK) (s:Str->Nat->Option α) (l:List D->Nat->Option α):Option α:=x.bind λr=>onD (λzw=>none) (λi=>s i r.2) (λi=>l i r.2) r.1
noncomputable def onB {α:Type} (f:Bool->Option α):D->Option α
 | .bool b=>f b
 | _=>none
theorem onB_el {α:Type}{f:Bool->Option α}{r:α}{P:D->Prop}(h:onB f d=some r)(k:∀x,f x=some r->P (.bool x)):P d:=by
 cases d <;> first | exact k _ h | exact no h
noncomputable def dkB {α:Type} (x:Option DK) (f:Bool->Option α):Option α:=x.bind λr=>onB f r.1
section
variable {α:Type} {x:Option DK} {r:α} {P:Prop}
theorem vE {f:D->Nat->Option α}(h:dkV x f=some r)(k:∀d kk,x=some (d,kk)->f d kk=some r->P):P:=bd h λq e h=>k _ _ e h
theorem iE {f:Int->Nat->Option α}(h:dkI x f=some r)(k:∀d kk,x=some (.int d,kk)->f d kk=some r->P):P :=
 bd h λq e h=>ji9 (P:=λd=>x=some (d,q.2)->P) h (λd h e=>k d _ e h) e
theorem sE {f:Str->Nat->Option α}(h:dkS x f=some r)(k:∀d kk,x=some (.str d,kk)->f d kk=some r->P):P :=
 bd h λq e h=>jr7 (P:=λd=>x=some (d,q.2)->P) h (λd h e=>k d _ e h) e
theorem lE {f:List D->Nat->Option α}(h:dkL x f=some r)(k:∀d kk,x=some (.list d,kk)->f d kk=some r->P):P :=
 bd h λq e h=>qs2 (P:=λd=>x=some (d,q.2)->P) h (λd h e=>k d _ e h) e
theorem aE {f:Str->Nat->Option α}{g:List D->Nat->Option α}(h:dkA x f g=some r)(k:∀d kk,x=some (.str d,kk)->f d kk=some r->P)(l:∀d kk,x=some (.list d,kk)->g d kk=some r->P):P :=
 bd h λq e h=>qc1 (P:=λd=>x=some (d,q.2)->P) h (λzw h=>no h) (λd h e=>k d _ e h) (λd h e=>l d _ e h) e
theorem bE {f:Bool->Option α}(h:dkB x f=some r)(k:∀b kk,x=some (.bool b,kk)->f b=some r->P):P :=
 bd h λq e h=>onB_el (P:=λd=>x=some (d,q.2)->P) h (λd h e=>k d _ e h) e
theorem fi {c:Prop}[Decidable c] {a b:Option α}(h:(if c then a else b)=some r)(t:c->a=some r->P)(f:¬c->b=some r->P):P :=
 if e:c then t e ((if_pos e).symm.trans h) else f e ((if_neg e).symm.trans h)
end
noncomputable def l1 {α β:Type} (f:α->Option β):List α->Option β
 | [a]=>f a
 | _=>none
theorem l1E {α β:Type}{f:α->Option β}{l:List α}{r:β}{P:List α->Prop}(h:l1 f l=some r)(k:∀a,f a=some r->P [a]):P l:=match l,h with
 | [a],h=>k a h
noncomputable def l12 {α β:Type} (f:α->Option β) (g:α->α->Option β):List α->Option β
 | [a]=>f a
 | [a,b]=>g a b
 | _=>none
theorem l12E {α β:Type}{f:α->Option β}{g:α->α->Option β}{l:List α}{r:β}{P:List α->Prop}(h:l12 f g l=some r)(k:∀a,f a=some r->P [a])(k':∀a b,g a b=some r->P [a,b]):P l:=match l,h with
 | [a],h=>k a h
 | [a,b],h=>k' a b h
noncomputable def l0 {α β:Type} (x:Option β):List α->Option β
 | []=>x
 | _=>none
theorem l0E {α β:Type}{x:Option β}{l:List α}{r:β}{P:List α->Prop}(h:l0 x l=some r)(k:x=some r->P []):P l:=match l,h with
 | [],h=>k h
noncomputable def lvl0 (vs:List DK):Bool:=vs.all λp=>p.2==0
noncomputable def lvl9 (vs:List DK):Bool:=vs.all λp=>decide (p.2<=9)
noncomputable def jh4 (e:Expr):Bool:=e.ctorIdx != 7
noncomputable def ttOf (e:Expr):Bool:=e.ctorIdx==25
noncomputable def jo9 (R:Ev) (ρ:Rho):Option Expr->Option (Option Int)
 | none=>some none
 | some e=>dkV (R.e ρ e) λd zw=>orE (onI some d) some ((qn8 d).bind λzw=>some none)
noncomputable def ifsE (R:Ev) (ρ:Rho):List Expr->Option Bool
 | []=>some true
 | c::cs=>l0 (R.t ρ c) cs
noncomputable def jz0 (R:Ev) (elt target:Expr) (ifs:List Expr) (ρ:Rho) (d:D):Option (List D) :=
 (jw0 ρ target d).bind λρ'=>(ifsE R ρ' ifs).bind λb=>if b=true then dkV (R.e ρ' elt) λe k=>if k=0 then some [e] else none else some []
noncomputable def jv2 (R:Ev) (ρ:Rho) (elt target iter:Expr) (ifs:List Expr) (scope:Scope):Option DK :=
 (jb3 target).bind λxs =>
  if jh4 iter=true/\scope.kind=.function/\jf1 ρ scope.names=true/\jd8 scope.names xs=true then
   (R.i ρ (ttOf target) iter).bind λitems=>(mapO (jz0 R elt target ifs (ρ.inner scope.names)) items).bind λouts=>if outs.flatten.length<=cap then some (.list outs.flatten,0) else none
  else none
noncomputable def qt4 (R:Ev) (elt target:Expr) (ifs:List Expr) (target' iter':Expr) (ifs':List Expr) (ρ:Rho) (d:D):Option (List D) :=
 (jw0 ρ target d).bind λρ'=>(ifsE R ρ' ifs).bind λb=>if b=true then (R.i ρ' (ttOf target') iter').bind λitems=>(mapO (jz0 R elt target' ifs' ρ') items).bind λouts=>some outs.flatten else some []
noncomputable def qc8 (R:Ev) (ρ:Rho) (elt target iter:Expr) (ifs:List Expr) (target' iter':Expr) (ifs':List Expr) (scope:Scope):Option DK :=
 (jb3 target).bind λxs=>(jb3 target').bind λxs' =>
  if jh4 iter=true/\jh4 iter'=true/\scope.kind=.function/\jf1 ρ scope.names=true/\jd8 scope.names xs=true/\jd8 scope.names xs'=true/\xs'.all (λx=>!xs.contains x)=true then
   (R.i ρ (ttOf target) iter).bind λitems=>(mapO (qt4 R elt target ifs target' iter' ifs' (ρ.inner scope.names)) items).bind λouts=>if outs.flatten.length<=cap then some (.list outs.flatten,0) else none
  else none
noncomputable def qb3:List D->Option (List Str)
 | []=>some []
 | d::r=>onS (λi=>(qb3 r).bind λis=>some (i::is)) d
theorem ju8:∀{ds:List D} {is:List Str},qb3 ds=some is->ds=is.map .str
 | [],_,h=>sm (P:=λis=>[]=is.map PyData.str) h rfl
 | d::r,is,h=>jr7 (P:=λd=>d::r=is.map .str) h λi h=>bd h λjs e h=>sm (P:=λis=>.str i::r=is.map PyData.str) h (congrArg (PyData.str i::·) (ju8 e))
@[simp] theorem toStrs_map:∀(is:List Str),qb3 (is.map .str)=some is
 | []=>rfl
 | i::r=>by rw [List.map_cons]; unfold qb3; rw [toStrs_map r]; rfl
noncomputable def uf7 (R:Ev) (ρ:Rho) (o:Expr) (m:Str) (args:List Expr):Option DK :=
 if m==("index":Str) then l1 (λx=>dkL (R.e ρ o) λds zw=>if jb1 x=true then (jq9 ds).bind λis=>dkI (R.e ρ x) λz zw=>(idxOf is z).bind λj=>some (.int j,0) else none) args
 else if m==("lower":Str) then l0 (dkS (R.e ρ o) λx zw=>if (Txt.lower x).length<=cap then some (.str (Txt.lower x),0) else none) args
 else if m==("upper":Str) then l0 (dkS (R.e ρ o) λx zw=>if (Txt.upper x).length<=cap then some (.str (Txt.upper x),0) else none) args
 else if m==("count":Str) then l1 (λx=>dkL (R.e ρ o) λds zw=>if jb1 x=true then (jq9 ds).bind λis=>dkI (R.e ρ x) λz zw=>some (.int (is.count z:Nat),0) else none) args
 else if m==("join":Str) then l1 (λa=>dkS (R.e ρ o) λx zw=>if jb1 a=true then dkL (R.e ρ a) λds zw=>(qb3 ds).bind λys=>if JoinOk x ys=true then some (.str (Txt.join x ys),0) else none else none) args
 else none
noncomputable def callE (T:Tab) (R:Ev) (ρ:Rho) (f:Str) (args:List Expr):Option DK :=
 if ρ.sc.lookup f=some .globalImplicit/\args.all jb1=true then
  (mapO (R.e ρ) args).bind λvs=>if lvl9 vs=true then orE (btD f (vs.map (·.1))) (λd=>(d,0)) (if lvl0 vs=true/\(f==("__debug__":Str))=false then (T.call f (vs.map (·.1))).bind λd=>some (d,0) else none) else none
 else none
noncomputable def constE:Const->Option DK
 | .int i=>some (.int i,0)
 | .str x=>some (.str x,0)
 | .none=>some (.none,0)
 | .bool b=>some (.bool b,0)
 | _=>none
noncomputable def negE (R:Ev) (ρ:Rho) (e:Expr):Option DK:=dkI (R.e ρ e) λi zw=>some (.int (-i),0)
noncomputable def notE (R:Ev) (ρ:Rho) (e:Expr):Option DK:=dkV (R.e ρ e) λd zw=>if jv9 d=true then some (.bool (!je6 d),0) else none
noncomputable def binE (R:Ev) (ρ:Rho) (l r:Expr) (op:Operator):Option DK:=dkV (R.e ρ l) λa k=>dkV (R.e ρ r) λb kk=>binD op a k b kk
noncomputable def ifE (R:Ev) (ρ:Rho) (c a b:Expr):Option DK:=(R.t ρ c).bind λt=>if t=true then R.e ρ a else R.e ρ b
noncomputable def nameE (ρ:Rho) (x:Str):Option DK:=if (x==("__debug__":Str))=true then none else ρ.vars.lookup x
noncomputable def unE (R:Ev) (ρ:Rho) (e:Expr):UnaryOp->Option DK
 | .USub=>negE R ρ e
 | .Not=>notE R ρ e
 | _=>none
noncomputable def cmpE1 {α:Type} (R:Ev) (ρ:Rho) (l:Expr) (mk:Bool->α) (op:CmpOp) (r:Expr):Option α:=if behindInMarks op r=false then dkV (R.e ρ l) λa zw=>dkV (R.e ρ r) λb zw=>(cmpD op a b).bind λc=>some (mk c) else none
noncomputable def cmpE {α:Type} (R:Ev) (ρ:Rho) (l:Expr) (mk:Bool->α) (ops:List CmpOp) (rs:List Expr):Option α:=l1 (λop=>l1 (cmpE1 R ρ l mk op) rs) ops
noncomputable def or2E (R:Ev) (ρ:Rho) (x y:Expr):Option DK:=dkV (R.e ρ x) λa k=>if jv9 a=true then (if je6 a=true then some (a,k) else R.e ρ y) else none
noncomputable def and2E (R:Ev) (ρ:Rho) (x y:Expr):Option DK:=dkV (R.e ρ x) λa k=>if jv9 a=true then (if je6 a=true then R.e ρ y else some (a,k)) else none
noncomputable def boolN (R:Ev) (ρ:Rho) (on:Bool) (x y:Expr):Option DK:=dkB (R.e ρ x) λb=>if b=on then dkB (R.e ρ y) λc=>some (.bool c,0) else some (.bool b,0)
noncomputable def boolE (R:Ev) (ρ:Rho) (op:BoolOp) (p:Pos):List Expr->Option DK
 | []=>none
 | x::r=>(match r with
  | []=>none
  | y::es=>(match es with
   | []=>(match op with
    | .Or=>or2E R ρ x y
    | .And=>and2E R ρ x y)
   | z::es=>(match op with
    | .Or=>boolN R ρ false x (.BoolOp .Or (y::z::es) p)
    | .And=>boolN R ρ true x (.BoolOp .And (y::z::es) p))))
noncomputable def seqE (R:Ev) (ρ:Rho) (mk:List D->D) (es:List Expr):Option DK:=if es.all jb1=true then (mapO (R.e ρ) es).bind λvs=>if lvl0 vs=true/\vs.length<=cap then some (mk (vs.map (·.1)),0) else none else none
noncomputable def noO {α β:Type} (x:Option β):Option α->Option β
 | none=>x
 | some _=>none
theorem noOE {α β:Type}{x:Option β}{o:Option α}{r:β}{P:Option α->Prop}(h:noO x o=some r)(k:x=some r->P none):P o:=match o,h with
 | none,h=>k h
noncomputable def cutS (R:Ev) (ρ:Rho) (o:Expr) (lo hi st:Option Expr):Option DK:=(jo9 R ρ lo).bind λl=>(jo9 R ρ hi).bind λh=>dkA (R.e ρ o)
 (λx zw=>noO (if x.length<=cap then some (.str (Txt.slice x l h),0) else none) st) (λxs k=>(jo9 R ρ st).bind λt=>if k<=1/\t≠some 0 then some (.list (jp1 xs l h t),0) else none)
noncomputable def onT {α:Type} (f:List D->Option α):D->Option α
 | .tuple x=>f x
 | _=>none
theorem onT_el {α:Type}{f:List D->Option α}{r:α}{P:D->Prop}(h:onT f d=some r)(k:∀x,f x=some r->P (.tuple x)):P d:=by
 cases d <;> first | exact k _ h | exact no h
noncomputable def flipE (R:Ev) (ρ:Rho) (o:Expr) (lo hi st:Option Expr):Option DK:=noO (noO ((jo9 R ρ st).bind λt=>if t=some (-1) then dkV (R.e ρ o) λd k=>onT (l12 (λzw=>none) λx y=>some (.tuple [y,x],k)) d else none) hi) lo
noncomputable def cutE (R:Ev) (ρ:Rho) (o:Expr) (lo hi st:Option Expr):Option DK:=orE (cutS R ρ o lo hi st) id (flipE R ρ o lo hi st)
noncomputable def idxE (R:Ev) (ρ:Rho) (o i:Expr):Option DK:=if SubS.notSlice i=true then dkV (R.e ρ o) λa k=>dkI (R.e ρ i) λz zw=>(idxD a z).bind λd=>some (d,k - 1) else none
noncomputable def subE (R:Ev) (ρ:Rho) (o i:Expr):Option DK:=if h:i.ctorIdx=26 then Expr.Slice.elim (motive_1:=λzw=>Option DK) i h λlo hi st zw=>cutE R ρ o lo hi st else idxE R ρ o i
noncomputable def callX (T:Tab) (R:Ev) (ρ:Rho) (args:List Expr) (pos:Pos) (e:Expr):Option DK :=
 if h:e.ctorIdx=20 then Expr.Attribute.elim (motive_1:=λzw=>Option DK) e h λo m ap=>if je2 o=true/\(ap.endLine==pos.line)=true then uf7 R ρ o m args else none else onNm (λf zw=>callE T R ρ f args) e
noncomputable def uk1 (R:Ev) (ρ:Rho) (elt:Expr) (scope:Scope):List Comprehension->Option DK:=l12 (λc=>if c.is_async=0 then jv2 R ρ elt c.target c.iter c.ifs scope else none)
 (λc c'=>if c.is_async=0/\c'.is_async=0 then qc8 R ρ elt c.target c.iter c.ifs c'.target c'.iter c'.ifs scope else none)
noncomputable def qv3 (T:Tab) (R:Ev) (ρ:Rho):Expr->Option DK
 | .Constant c _ _=>constE c
 | .Name x _=>nameE ρ x
 | .BinOp l op r _=>binE R ρ l r op
 | .UnaryOp op e _=>unE R ρ e op
 | .Compare l ops rs _=>cmpE R ρ l (λb=>(.bool b,0)) ops rs
 | .BoolOp op es p=>boolE R ρ op p es
 | .IfExp c a b _=>ifE R ρ c a b
 | .List es _=>seqE R ρ .list es
 | .Tuple es _ _=>seqE R ρ .tuple es
 | .Subscript o i _=>subE R ρ o i
 | .Call f args kws pos=>l0 (callX T R ρ args pos f) kws
 | .ListComp elt gens scope _=>uk1 R ρ elt scope gens
 | _=>none
noncomputable def stepE (T:Tab) (R:Ev) (ρ:Rho) (e:Expr):Option DK:=orE (T.hook ρ e) id (qv3 T R ρ e)
noncomputable def isNot:UnaryOp->Bool
 | .Not=>true
 | _=>false
noncomputable def isAnd:BoolOp->Bool
 | .And=>true
 | .Or=>false
noncomputable def testV (R:Ev) (ρ:Rho) (e:Expr):Option Bool:=if jr6 e=true then dkV (R.e ρ e) λd zw=>if jv9 d=true then some (je6 d) else none else none
noncomputable def boolT (R:Ev) (ρ:Rho) (op:BoolOp) (p:Pos):List Expr->Option Bool
 | []=>some (isAnd op)
 | x::es=>(R.t ρ x).bind λb=>if b=isAnd op then R.t ρ (.BoolOp op es p) else some b
noncomputable def stepT (R:Ev) (ρ:Rho) (e:Expr):Option Bool :=
 if h:e.ctorIdx=0 then Expr.BoolOp.elim (motive_1:=λzw=>Option Bool) e h λop es p=>boolT R ρ op p es
 else if h:e.ctorIdx=3 then Expr.UnaryOp.elim (motive_1:=λzw=>Option Bool) e h λop x zw=>if isNot op=true then (R.t ρ x).bind λb=>some (!b) else testV R ρ e
 else if h:e.ctorIdx=15 then Expr.Compare.elim (motive_1:=λzw=>Option Bool) e h λl ops rs zw=>cmpE R ρ l id ops rs
 else testV R ρ e
noncomputable def qs3 {β:Type} (f:Expr->List Expr->List Keyword->Pos->Option β) (e:Expr):Option β:=if h:e.ctorIdx=16 then Expr.Call.elim (motive_1:=λzw=>Option β) e h f else none
theorem qj4 {β:Type}{f:Expr->List Expr->List Keyword->Pos->Option β}{r:β}{P:Expr->Prop}(h:qs3 f e=some r)(k:∀a b c d,f a b c d=some r->P (.Call a b c d)):P e :=
 if hh:e.ctorIdx=16 then Expr.Call.elim (motive_1:=λe=>qs3 f e=some r->P e) e hh k h else no ((dif_neg hh).symm.trans h)
noncomputable def ue6 {β:Type} (f:Expr->Str->Pos->Option β) (e:Expr):Option β:=if h:e.ctorIdx=20 then Expr.Attribute.elim (motive_1:=λzw=>Option β) e h f else none
theorem ue5 {β:Type}{f:Expr->Str->Pos->Option β}{r:β}{P:Expr->Prop}(h:ue6 f e=some r)(k:∀a b c,f a b c=some r->P (.Attribute a b c)):P e :=
 if hh:e.ctorIdx=20 then Expr.Attribute.elim (motive_1:=λe=>ue6 f e=some r->P e) e hh k h else no ((dif_neg hh).symm.trans h)
noncomputable def ue4 {β:Type} (f:Expr->List Comprehension->Scope->Pos->Option β) (e:Expr):Option β:=if h:e.ctorIdx=8 then Expr.ListComp.elim (motive_1:=λzw=>Option β) e h f else none
theorem ue3 {β:Type}{f:Expr->List Comprehension->Scope->Pos->Option β}{r:β}{P:Expr->Prop}(h:ue4 f e=some r)(k:∀a b c d,f a b c d=some r->P (.ListComp a b c d)):P e :=
 if hh:e.ctorIdx=8 then Expr.ListComp.elim (motive_1:=λe=>ue4 f e=some r->P e) e hh k h else no ((dif_neg hh).symm.trans h)
noncomputable def onBin {β:Type} (f:Expr->Operator->Expr->Pos->Option β) (e:Expr):Option β:=if h:e.ctorIdx=2 then Expr.BinOp.elim (motive_1:=λzw=>Option β) e h f else none
theorem onBin_el {β:Type}{f:Expr->Operator->Expr->Pos->Option β}{r:β}{P:Expr->Prop}(h:onBin f e=some r)(k:∀a b c d,f a b c d=some r->P (.BinOp a b c d)):P e :=
 if hh:e.ctorIdx=2 then Expr.BinOp.elim (motive_1:=λe=>onBin f e=some r->P e) e hh k h else no ((dif_neg hh).symm.trans h)
noncomputable def onAsg {β:Type} (f:List Expr->Expr->Pos->Option β) (e:Stmt):Option β:=if h:e.ctorIdx=5 then Stmt.Assign.elim (motive_2:=λzw=>Option β) e h f else none
theorem onAsg_el {β:Type}{f:List Expr->Expr->Pos->Option β}{e:Stmt}{r:β}{P:Stmt->Prop}(h:onAsg f e=some r)(k:∀a b c,f a b c=some r->P (.Assign a b c)):P e :=
 if hh:e.ctorIdx=5 then Stmt.Assign.elim (motive_2:=λe=>onAsg f e=some r->P e) e hh k h else no ((dif_neg hh).symm.trans h)
noncomputable def ua7 (e:Expr):Option (Str×List Expr):=qs3 (λf args kws zw=>onNm (λf zw=>l0 (some (f,args)) kws) f) e
theorem qh0 {r:Str×List Expr}{P:Expr->Prop}(h:ua7 e=some r)(k:∀p pos,P (.Call (.Name r.1 p) r.2 [] pos)):P e :=
 qj4 h λf args kws pos h=>qn7 (P:=λf=>P (.Call f args kws pos)) h λf p h=>l0E (P:=λkws=>P (.Call (.Name f p) args kws pos)) h λh=>sm (P:=λr:Str×List Expr=>(∀p pos,P (.Call (.Name r.1 p) r.2 [] pos))->P (.Call (.Name f p) args [] pos)) h (λk=>k p pos) k
noncomputable def itE (R:Ev) (ρ:Rho) (tt:Bool) (f:Str) (args:List Expr):Option (List D) :=
 if ρ.sc.lookup f=some .globalImplicit/\args.all jb1=true then
  if f==("range":Str) then
   if tt=false then l12 (λa=>dkI (R.e ρ a) λb zw=>if jo8 0 b 1=true then some ((jd9 0 b 1).map .int) else none) (λa b=>dkI (R.e ρ a) λx zw=>dkI (R.e ρ b) λy zw=>if jo8 x y 1=true then some ((jd9 x y 1).map .int) else none) args else none
  else if f==("enumerate":Str) then
   if tt=true then l1 (λa=>dkL (R.e ρ a) λds k=>if k=0 then some (ql1 ds) else none) args else none
  else none
 else none
noncomputable def ud9 (R:Ev) (ρ:Rho) (tt:Bool) (e:Expr):Option (List D):=dkA (R.e ρ e) (λx zw=>if tt=false then some (x.cps.toList.map λc=>.str ⟨#[c]⟩) else none) (λds k=>if k=0/\(!tt || ds.all isTup)=true then some ds else none)
noncomputable def stepI (R:Ev) (ρ:Rho) (tt:Bool) (e:Expr):Option (List D):=orE ((ua7 e).bind λq=>itE R ρ tt q.1 q.2) id (ud9 R ρ tt e)
noncomputable def Ev.at (T:Tab):Nat->Ev
 | 0=>⟨λzw zw=>none,λzw zw=>none,λzw zw zw=>none⟩
 | n+1=>⟨stepE T (Ev.at T n),stepT (Ev.at T n),stepI (Ev.at T n)⟩
end
set_option backward.match.sparseCases true
section
structure Ev.Ok (g:Glob) (n:Nat) (R:Ev):Prop where
 e:∀ρ e d k,R.e ρ e=some (d,k)->EvS g n ρ e d k
 t:∀ρ e b,R.t ρ e=some b->TestS g n ρ e b
 i:∀ρ tt e ds,R.i ρ tt e=some ds->IterS g n ρ tt e ds
structure TabOk (T:Tab) (g:Glob) (n:Nat):Prop where
 call:∀f ds d,T.call f ds=some d->∃v,Callee g f v/\jc1 g n v ds 0 d 0
 hook:∀ρ e d k,T.hook ρ e=some (d,k)->EvS g n ρ e d k
section
variable {g:Glob} {n:Nat} {R:Ev} {ρ:Rho}
theorem EvS.up {k':Nat}(x:EvS g n ρ e d k)(h:k<=k'):EvS g n ρ e d k':=λO M env A s E u rm aO aM eo =>
 wpAny_mono (x O M env A s E u rm aO aM eo) (λv s' ⟨a,b⟩=>⟨a,b.le h⟩) λzw zw z=>z
theorem jw4 {K:Nat}(ok:R.Ok g n):∀{es:List Expr} {vs:List DK},mapO (R.e ρ) es=some vs->es.all jb1=true->(vs.all λp=>decide (p.2<=K))=true->EvsS g n ρ es (vs.map (·.1)) K
 | [],_,h,_,_=>sm (P:=λvs:List DK=>EvsS g n ρ [] (vs.map (·.1)) K) h jj2
 | e::es,vs,h,hs,hl=>bd h λb hb h=>bd h λcs hc h=>sm (P:=λvs:List DK=>(vs.all λp=>decide (p.2<=K))=true->EvsS g n ρ (e::es) (vs.map (·.1)) K) h (λhl =>
   jh0 ((ok.e _ _ b.1 b.2 hb).up (of_decide_eq_true (Bool.and_eq_true_iff.mp hl).1)) (jw4 ok hc (Bool.and_eq_true_iff.mp hs).2 (Bool.and_eq_true_iff.mp hl).2) (Bool.and_eq_true_iff.mp hs).1) hl
theorem ug1 {vs:List DK}(h:lvl0 vs=true):(vs.all λp=>decide (p.2<=0))=true:=by
 unfold lvl0 at h
 rw [List.all_eq_true] at h ⊢
 intro p hp
 have:=h p hp
 simpa using this
theorem jo5 (ok:R.Ok g n){e:Option Expr}{p:Option Int}(h:jo9 R ρ e=some p):jw2 g n ρ e p:=by
 cases e with
 | none=>exact sm h rfl
 | some e =>
  have h:dkV (R.e ρ e) (λd zw=>orE (onI some d) some ((qn8 d).bind λzw=>some none))=some p:=h
  exact vE h λd k x h=>jm9 h (λi hi z=>z ▸ ji9 (P:=λd=>R.e ρ e=some (d,k)->jw2 g n ρ (some e) (some i)) hi (λq h y=>sm (P:=λi=>jw2 g n ρ (some e) (some i)) h ⟨_,ok.e _ _ _ _ y⟩) x)
   λh=>bd h λzw z h=>qf3 (P:=λd=>R.e ρ e=some (d,k)->jw2 g n ρ (some e) p) z (λy=>sm (P:=λp=>jw2 g n ρ (some e) p) h ⟨_,ok.e _ _ _ _ y⟩) x
theorem qg3 (ok:R.Ok g n){ifs:List Expr}{b:Bool}(h:ifsE R ρ ifs=some b):IfsS g n ρ ifs b:=by
 cases ifs with
 | nil=>exact sm h ifs_nil
 | cons c cs=>exact l0E (P:=λcs=>IfsS g n ρ (c::cs) b) h λh=>uh3 (ok.t _ _ _ h)
theorem js0 (ok:R.Ok g n){ifs:List Expr}{out:List D}(h:jz0 R elt target ifs ρ d=some out):LastS g n elt target ifs ρ d out :=
 bd h λρ' hb h=>bd h λb hi h=>fi h (λe h=>vE h λx k hx h=>sm (gd h).2 ⟨ρ',true,hb,qg3 ok (e ▸ hi),.inl ⟨rfl,x,rfl,ok.e _ _ _ _ ((gd h).1 ▸ hx)⟩⟩)
  λe h=>sm h ⟨ρ',false,hb,qg3 ok (Bool.eq_false_iff.mpr e ▸ hi),.inr ⟨rfl,rfl⟩⟩
theorem jd3 (h:jh4 iter=true):∀env x,foldedSetIterable iter env x=pure x:=by
 intro env x
 cases iter <;> first | rfl | exact nb h | cases h
theorem jm4 {xs:List Str}(h:jb3 target=some xs):Tgt (ttOf target) target:=by
 cases target <;> first | exact⟨_,_,rfl⟩ | exact⟨_,_,_,rfl⟩ | exact no h
theorem uk4 (ok:R.Ok g n){ifs:List Expr}{scope:Scope}{cp:Pos}{r:DK}(h:jv2 R ρ elt target iter ifs scope=some r):EvS g n ρ (.ListComp elt [⟨target,iter,ifs,0⟩] scope cp) r.1 r.2 :=
 bd h λxs hx h=>bd (gd h).2 λitems hi h'=>bd h' λouts ho h'=>sm (P:=λr:DK=>EvS g n ρ (.ListComp elt [⟨target,iter,ifs,0⟩] scope cp) r.1 r.2) (gd h').2
  (ev_comp1 (jd3 (gd h).1.1) (gd h).1.2.1 (gd h).1.2.2.1 (ok.i _ _ _ _ hi) (jm4 hx) hx (gd h).1.2.2.2 (je9 ho).1 (gd h').1 λi d out a b=>js0 ok ((je9 ho).2 i d out a b))
theorem qk9 (ok:R.Ok g n){target' iter':Expr}{ifs ifs':List Expr}{out:List D}(h:qt4 R elt target ifs target' iter' ifs' ρ d=some out) :
  ∃ρ' b,jw0 ρ target d=some ρ'/\IfsS g n ρ' ifs b ∧
   ((b=true/\∃(items':List D) (outs':List (List D)),out=outs'.flatten/\outs'.length=items'.length/\IterS g n ρ' (ttOf target') iter' items'/\∀(j:Nat) (d':D) (out':List D),items'[j]?=some d'->outs'[j]?=some out'->LastS g n elt target' ifs' ρ' d' out')\/(b=false/\out=[])) :=
 bd h λρ' hb h=>bd h λb hf h=>fi h (λe h=>bd h λitems' hi h=>bd h λouts' ho h =>
   ⟨ρ',true,hb,qg3 ok (e ▸ hf),.inl ⟨rfl,items',outs',(Option.some.inj h).symm,(je9 ho).1,ok.i _ _ _ _ hi,λj d' out' a b=>js0 ok ((je9 ho).2 j d' out' a b)⟩⟩)
  λe h=>⟨ρ',false,hb,qg3 ok (Bool.eq_false_iff.mpr e ▸ hf),.inr ⟨rfl,(Option.some.inj h).symm⟩⟩
theorem uk2 (ok:R.Ok g n){target' iter':Expr}{ifs ifs':List Expr}{scope:Scope}{cp:Pos}{r:DK}(h:qc8 R ρ elt target iter ifs target' iter' ifs' scope=some r) :
  EvS g n ρ (.ListComp elt [⟨target,iter,ifs,0⟩,⟨target',iter',ifs',0⟩] scope cp) r.1 r.2 :=
 bd h λxs hx h=>bd h λxs' hx' h=>bd (gd h).2 λitems hi h'=>bd h' λouts ho h'=>sm (P:=λr:DK=>EvS g n ρ (.ListComp elt [⟨target,iter,ifs,0⟩,⟨target',iter',ifs',0⟩] scope cp) r.1 r.2) (gd h').2
  (ev_comp2 (jd3 (gd h).1.1) (jd3 (gd h).1.2.1) (gd h).1.2.2.1 (gd h).1.2.2.2.1 (ok.i _ _ _ _ hi) (jm4 hx) (jm4 hx') hx hx' (gd h).1.2.2.2.2.1 (gd h).1.2.2.2.2.2.1 (gd h).1.2.2.2.2.2.2 (je9 ho).1 (gd h').1 λi d out a b=>qk9 ok ((je9 ho).2 i d out a b))
theorem compG_ok (ok:R.Ok g n){gens:List Comprehension}{scope:Scope}{cp:Pos}{r:DK}(h:uk1 R ρ elt scope gens=some r):EvS g n ρ (.ListComp elt gens scope cp) r.1 r.2 :=
 l12E (P:=λgens=>EvS g n ρ (.ListComp elt gens scope cp) r.1 r.2) h (λc h=>by
  obtain⟨t,i,f,a⟩:=c
  obtain rfl:a=0:=(gd h).1
  exact uk4 ok (gd h).2) λc c' h=>by
  obtain⟨t,i,f,a⟩:=c
  obtain⟨t',i',f',a'⟩:=c'
  obtain rfl:a=0:=(gd h).1.1
  obtain rfl:a'=0:=(gd h).1.2
  exact uk2 ok (gd h).2
theorem methE_ok (ok:R.Ok g n){o:Expr}{m:Str}{args:List Expr}{ap:Pos}{r:DK}(h:uf7 R ρ o m args=some r)(hb:je2 o=true)(hl:(ap.endLine==pos.line)=true):EvS g n ρ (.Call (.Attribute o m ap) args [] pos) r.1 r.2 :=
 jh9 (P:=λm=>EvS g n ρ (.Call (.Attribute o m ap) args [] pos) r.1 r.2) h
  (λh=>l1E (P:=λargs=>EvS g n ρ (.Call (.Attribute o "index" ap) args [] pos) r.1 r.2) h λx h=>lE h λds k e h=>bd (gd h).2 λis hi h'=>iE h' λz k hz h'=>bd h' λj hj h' =>
   sm (P:=λr:DK=>EvS g n ρ (.Call (.Attribute o "index" ap) [x] [] pos) r.1 r.2) h' (ev_index (ok.e _ _ _ _ (jh2 hi ▸ e)) (ok.e _ _ _ _ hz) hj hb (gd h).1 hl)) λh =>
 jh9 (P:=λm=>EvS g n ρ (.Call (.Attribute o m ap) args [] pos) r.1 r.2) h
  (λh=>l0E (P:=λargs=>EvS g n ρ (.Call (.Attribute o "lower" ap) args [] pos) r.1 r.2) h λh=>sE h λx k e h=>sm (P:=λr:DK=>EvS g n ρ (.Call (.Attribute o "lower" ap) [] [] pos) r.1 r.2) (gd h).2 (ev_lower (ok.e _ _ _ _ e) (gd h).1 hb hl)) λh =>
 jh9 (P:=λm=>EvS g n ρ (.Call (.Attribute o m ap) args [] pos) r.1 r.2) h
  (λh=>l0E (P:=λargs=>EvS g n ρ (.Call (.Attribute o "upper" ap) args [] pos) r.1 r.2) h λh=>sE h λx k e h=>sm (P:=λr:DK=>EvS g n ρ (.Call (.Attribute o "upper" ap) [] [] pos) r.1 r.2) (gd h).2 (ev_upper (ok.e _ _ _ _ e) (gd h).1 hb hl)) λh =>
 jh9 (P:=λm=>EvS g n ρ (.Call (.Attribute o m ap) args [] pos) r.1 r.2) h
  (λh=>l1E (P:=λargs=>EvS g n ρ (.Call (.Attribute o "count" ap) args [] pos) r.1 r.2) h λx h=>lE h λds k e h=>bd (gd h).2 λis hi h'=>iE h' λz k hz h' =>
   sm (P:=λr:DK=>EvS g n ρ (.Call (.Attribute o "count" ap) [x] [] pos) r.1 r.2) h' (ev_count (ok.e _ _ _ _ (jh2 hi ▸ e)) (ok.e _ _ _ _ hz) hb (gd h).1 hl)) λh =>
 jh9 (P:=λm=>EvS g n ρ (.Call (.Attribute o m ap) args [] pos) r.1 r.2) h
  (λh=>l1E (P:=λargs=>EvS g n ρ (.Call (.Attribute o "join" ap) args [] pos) r.1 r.2) h λa h=>sE h λx k e h=>lE (gd h).2 λds k' e' h'=>bd h' λys hy h' =>
   sm (P:=λr:DK=>EvS g n ρ (.Call (.Attribute o "join" ap) [a] [] pos) r.1 r.2) (gd h').2 (ev_join (ok.e _ _ _ _ e) (ok.e _ _ _ _ (ju8 hy ▸ e')) (gd h').1 hb (gd h).1 hl)) λh=>no h
theorem callE_ok {T:Tab}(N:Names g)(tok:TabOk T g n)(ok:R.Ok g n){f:Str}{args:List Expr}{p:Pos}{r:DK}(h:callE T R ρ f args=some r):EvS g n ρ (.Call (.Name f p) args [] pos) r.1 r.2 :=
 bd (gd h).2 λvs hv h'=>jm9 (gd h').2 (λd hd z=>z ▸ (ul3 (n:=n) (ks:=9) N hd).elim λv c=>ju1 c.1 (gd h).1.1 c.2.1 (gd h).1.2 (jw4 ok hv (gd h).1.2 (gd h').1) c.2.2)
  λh''=>bd (gd h'').2 λd hd z=>sm (P:=λr:DK=>EvS g n ρ (.Call (.Name f p) args [] pos) r.1 r.2) z ((tok.call _ _ _ hd).elim λv c=>ju1 c.1 (gd h).1.1 (gd h'').1.2 (gd h).1.2 (jw4 ok hv (gd h).1.2 (ug1 (gd h'').1.1)) c.2)
end
end
section
section
variable {g:Glob} {n:Nat} {R:Ev} {ρ:Rho}
theorem EvS.up' {i:Int}{k':Nat}(x:EvS g n ρ e (.int i) k):EvS g n ρ e (.int i) k':=λO M env A s E u rm aO aM eo =>
 wpAny_mono (x O M env A s E u rm aO aM eo) (λv s' ⟨a,b⟩=>⟨a,by obtain⟨t,rfl⟩:=ja4 b; exact .int⟩) λzw zw z=>z
theorem qa6 {op:BoolOp}{es:List Expr}{p:Pos}{b:Bool}(y:TestS g n ρ (.BoolOp op es p) b):AllS g n ρ op es b:=λO M env A s E u rm aO aM eo=>by
 have:=y O M env A s E u rm aO aM eo
 rw [arm_isTrue_BoolOp] at this
 exact this
theorem qr6 (ok:R.Ok g n){b:Bool}(h:testV R ρ e=some b):TestS g n ρ e b :=
 vE (gd h).2 λd k hr h'=>sm (gd h').2 (jt0 (ok.e _ _ _ _ hr) (gd h').1 (gd h).1)
theorem boolT_ok (ok:R.Ok g n){op:BoolOp}{es:List Expr}{p:Pos}{b:Bool}(h:boolT R ρ op p es=some b):TestS g n ρ (.BoolOp op es p) b:=by
 cases es with
 | nil =>
  cases op with
  | And=>exact sm h (jk3 qq9)
  | Or=>exact sm h (jk3 ub2)
 | cons x es =>
  refine bd h λc hc h=>fi h (λe h=>?_) λe h=>sm h ?_
  ·cases op with
   | And=>exact jk3 (by simpa [e,isAnd] using jv4 (ok.t _ _ _ hc) (λzw=>qa6 (ok.t _ _ _ h)))
   | Or=>exact jk3 (by simpa [e,isAnd] using qa5 (ok.t _ _ _ hc) (λzw=>qa6 (ok.t _ _ _ h)))
  ·cases op with
   | And =>
    obtain rfl:c=false:=Bool.eq_false_iff.mpr e
    exact jk3 (jv4 (c:=true) (ok.t _ _ _ hc) nofun)
   | Or =>
    obtain rfl:c=true:=Bool.ne_false_iff.mp e
    exact jk3 (qa5 (c:=true) (ok.t _ _ _ hc) nofun)
theorem stepT_ok (hn:1<=n)(ok:R.Ok g n){b:Bool}(h:stepT R ρ e=some b):TestS g n ρ e b:=by
 cases e with
 | UnaryOp op x p =>
  refine fi h (λe h=>?_) λzw h=>qr6 ok h
  cases op with
  | Not=>exact bd h λc hc h=>sm h (test_not (ok.t _ _ _ hc))
  | _=>exact absurd e nofun
 | BoolOp op es p=>exact boolT_ok ok h
 | Compare l ops rs p =>
  exact l1E (P:=λops=>TestS g n ρ (.Compare l ops rs p) b) h λop h=>l1E (P:=λrs=>TestS g n ρ (.Compare l [op] rs p) b) h λr h=>vE (gd h).2 λa ka ha h'=>vE h' λc kc hc h'=>bd h' λq hq h' =>
   sm (P:=λb=>TestS g n ρ (.Compare l [op] [r] p) b) h' (jl2 (ok.e _ _ _ _ ha) (ok.e _ _ _ _ hc) (qd3 hn hq) (gd h).1)
 | _=>exact qr6 ok h
theorem plain_ok (ok:R.Ok g n){tt:Bool}(h:ud9 R ρ tt e=some ds):IterS g n ρ tt e ds :=
 aE h (λx k hr h=>(gd h).1 ▸ sm (gd h).2 (iter_str (ok.e _ _ _ _ hr))) λxs k hr h=>sm (gd h).2 (uh0 (ok.e _ _ _ _ ((gd h).1.1 ▸ hr)) λz=>by have:=(gd h).1.2; rw [z] at this; exact this)
theorem star1 {a:Expr}(h:[a].all jb1=true):jb1 a=true:=(Bool.and_eq_true_iff.mp h).1
theorem star2 {a b:Expr}(h:[a,b].all jb1=true):jb1 a=true/\jb1 b=true:=⟨(Bool.and_eq_true_iff.mp h).1,star1 (Bool.and_eq_true_iff.mp h).2⟩
theorem itE_ok (N:Names g)(ok:R.Ok g n){f:Str}{args:List Expr}{p:Pos}{tt:Bool}(h:itE R ρ tt f args=some ds):IterS g n ρ tt (.Call (.Name f p) args [] pos) ds:=by
 obtain⟨⟨hsc,hs⟩,h⟩:=gd h
 revert hsc
 refine jh9 (P:=λf=>ρ.sc.lookup f=some .globalImplicit->IterS g n ρ tt (.Call (.Name f p) args [] pos) ds) h (λh hsc=>?_) λh=>jh9 (P:=λf=>ρ.sc.lookup f=some .globalImplicit->IterS g n ρ tt (.Call (.Name f p) args [] pos) ds) h (λh hsc=>?_) λh=>no h
 ·obtain⟨rfl,h⟩:=gd h
  exact l12E (P:=λargs=>args.all jb1=true->IterS g n ρ false (.Call (.Name "range" p) args [] pos) ds) h (λa h hs=>iE h λz k hz h=>sm (gd h).2 (jp8 N.range hsc (ok.e _ _ _ _ hz) (star1 hs) (gd h).1))
   (λa b h hs=>iE h λx k hx h=>iE h λy k' hy h=>sm (gd h).2 (qo4 (k:=9) N.range hsc (ok.e _ _ _ _ hx).up' (ok.e _ _ _ _ hy).up' (star2 hs).1 (star2 hs).2 (gd h).1)) hs
 ·obtain⟨rfl,h⟩:=gd h
  exact l1E (P:=λargs=>args.all jb1=true->IterS g n ρ true (.Call (.Name "enumerate" p) args [] pos) ds) h (λa h hs=>lE h λxs k hx h=>sm (gd h).2 (uh1 N.enum hsc (ok.e _ _ _ _ ((gd h).1 ▸ hx)) (star1 hs))) hs
theorem stepI_ok (N:Names g)(ok:R.Ok g n){tt:Bool}(h:stepI R ρ tt e=some ds):IterS g n ρ tt e ds :=
 jm9 h (λa ha z=>bd ha λq hq ha=>qh0 (P:=λe=>IterS g n ρ tt e ds) hq λp pos=>itE_ok N ok (ha.trans (congrArg some z))) (plain_ok ok)
end
end
section
section
variable {g:Glob} {n:Nat} {R:Ev} {ρ:Rho}
theorem uk0 {c:Const}{r:DK}{kk:Nat}{p:Pos}(h:constE c=some r):EvS g n ρ (.Constant c kk p) r.1 r.2:=by
 cases c <;> cases h
 ·exact jh8
 ·exact uj4
 ·exact jn6
 ·exact ev_str
theorem unE_ok (ok:R.Ok g n){op:UnaryOp}{p:Pos}{r:DK}(h:unE R ρ e op=some r):EvS g n ρ (.UnaryOp op e p) r.1 r.2:=by
 cases op <;> try exact no h
 ·have h:notE R ρ e=some r:=h
  exact vE h λd k hr h=>sm (P:=λr:DK=>EvS g n ρ (.UnaryOp .Not e p) r.1 r.2) (gd h).2 (ev_not (ok.e _ _ _ _ hr) (gd h).1)
 ·have h:negE R ρ e=some r:=h
  exact iE h λd k hr h=>sm (P:=λr:DK=>EvS g n ρ (.UnaryOp .USub e p) r.1 r.2) h (ev_neg (ok.e _ _ _ _ hr))
theorem cmpE_ok (hn:1<=n)(ok:R.Ok g n){l:Expr}{ops:List CmpOp}{rs:List Expr}{p:Pos}{r:DK}(h:cmpE R ρ l (λb=>(PyData.bool b,0)) ops rs=some r):EvS g n ρ (.Compare l ops rs p) r.1 r.2 :=
 l1E (P:=λops=>EvS g n ρ (.Compare l ops rs p) r.1 r.2) h λop h=>l1E (P:=λrs=>EvS g n ρ (.Compare l [op] rs p) r.1 r.2) h λx h=>vE (gd h).2 λa ka ha h'=>vE h' λc kc hc h'=>bd h' λq hq h' =>
  sm (P:=λr:DK=>EvS g n ρ (.Compare l [op] [x] p) r.1 r.2) h' (ev_cmp (ok.e _ _ _ _ ha) (ok.e _ _ _ _ hc) (qd3 hn hq) (gd h).1)
theorem boolE_ok (ok:R.Ok g n){op:BoolOp}{es:List Expr}{p:Pos}{r:DK}(h:boolE R ρ op p es=some r):EvS g n ρ (.BoolOp op es p) r.1 r.2:=by
 cases es with
 | nil=>exact no h
 | cons x es =>
  cases es with
  | nil=>exact no h
  | cons y es =>
   cases es with
   | nil =>
    cases op with
    | And =>
     have h:and2E R ρ x y=some r:=h
     exact vE h λa k ha h=>fi (gd h).2 (λt h'=>uj5 (ok.e _ _ _ _ ha) (gd h).1 (λz=>absurd (z.symm.trans t) nofun) λz=>ok.e _ _ _ _ h')
      λt h'=>sm (P:=λr:DK=>EvS g n ρ (.BoolOp .And [x,y] p) r.1 r.2) h' (uj5 (ok.e _ _ _ _ ha) (gd h).1 (λzw=>⟨rfl,Nat.le_refl _⟩) λz=>absurd z t)
    | Or =>
     have h:or2E R ρ x y=some r:=h
     exact vE h λa k ha h=>fi (gd h).2 (λt h'=>sm (P:=λr:DK=>EvS g n ρ (.BoolOp .Or [x,y] p) r.1 r.2) h' (uj3 (ok.e _ _ _ _ ha) (gd h).1 (λzw=>⟨rfl,Nat.le_refl _⟩) λz=>absurd (z.symm.trans t) nofun))
      λt h'=>uj3 (ok.e _ _ _ _ ha) (gd h).1 (λz=>absurd z t) λz=>ok.e _ _ _ _ h'
   | cons z es =>
    cases op with
    | And =>
     have h:boolN R ρ true x (.BoolOp .And (y::z::es) p)=some r:=h
     refine bE h λb k ha h=>?_
     cases b with
     | true=>exact bE (show dkB (R.e ρ (.BoolOp .And (y::z::es) p)) (λc=>some (.bool c,0))=some r from h) λc k' hc h=>sm (P:=λr:DK=>EvS g n ρ (.BoolOp .And (x::y::z::es) p) r.1 r.2) h (jz8 (k:=0) (b:=true) (ok.e _ _ _ _ ha) (λzw=>ok.e _ _ _ _ hc))
     | false=>exact sm (P:=λr:DK=>EvS g n ρ (.BoolOp .And (x::y::z::es) p) r.1 r.2) h (jz8 (c:=true) (kb:=0) (ok.e _ _ _ _ ha) nofun)
    | Or =>
     have h:boolN R ρ false x (.BoolOp .Or (y::z::es) p)=some r:=h
     refine bE h λb k ha h=>?_
     cases b with
     | false=>exact bE (show dkB (R.e ρ (.BoolOp .Or (y::z::es) p)) (λc=>some (.bool c,0))=some r from h) λc k' hc h=>sm (P:=λr:DK=>EvS g n ρ (.BoolOp .Or (x::y::z::es) p) r.1 r.2) h (qc6 (k:=0) (b:=false) (ok.e _ _ _ _ ha) (λzw=>ok.e _ _ _ _ hc))
     | true=>exact sm (P:=λr:DK=>EvS g n ρ (.BoolOp .Or (x::y::z::es) p) r.1 r.2) h (qc6 (c:=true) (kb:=0) (ok.e _ _ _ _ ha) nofun)
theorem idxE_ok (ok:R.Ok g n){o i:Expr}{p:Pos}{r:DK}(h:idxE R ρ o i=some r):EvS g n ρ (.Subscript o i p) r.1 r.2 :=
 vE (gd h).2 λa k ha h'=>iE h' λz kz hz h'=>bd h' λd hd h'=>sm (P:=λr:DK=>EvS g n ρ (.Subscript o i p) r.1 r.2) h' (ev_item (ok.e _ _ _ _ ha) (ok.e _ _ _ _ hz) hd (Nat.le_add_of_sub_le (Nat.le_refl _)) (gd h).1)
theorem cutS_ok (ok:R.Ok g n){o:Expr}{lo hi st:Option Expr}{q p:Pos}{r:DK}(h:cutS R ρ o lo hi st=some r):EvS g n ρ (.Subscript o (.Slice lo hi st q) p) r.1 r.2 :=
 bd h λl hl h=>bd h λu hh h=>aE h (λx k ho h=>noOE (P:=λst=>EvS g n ρ (.Subscript o (.Slice lo hi st q) p) r.1 r.2) h λh=>sm (P:=λr:DK=>EvS g n ρ (.Subscript o (.Slice lo hi none q) p) r.1 r.2) (gd h).2 (qz0 (ok.e _ _ _ _ ho) (jo5 ok hl) (jo5 ok hh) (gd h).1))
  λxs k ho h=>bd h λt ht h=>sm (P:=λr:DK=>EvS g n ρ (.Subscript o (.Slice lo hi st q) p) r.1 r.2) (gd h).2 (qp9 (ok.e _ _ _ _ ho) (jo5 ok hl) (jo5 ok hh) (jo5 ok ht) (gd h).1.2 (by rw [Nat.sub_eq_zero_of_le (gd h).1.1]; exact Nat.zero_le _))
theorem flipE_ok (ok:R.Ok g n){o:Expr}{lo hi st:Option Expr}{q p:Pos}{r:DK}(h:flipE R ρ o lo hi st=some r):EvS g n ρ (.Subscript o (.Slice lo hi st q) p) r.1 r.2 :=
 noOE (P:=λlo=>EvS g n ρ (.Subscript o (.Slice lo hi st q) p) r.1 r.2) h λh=>noOE (P:=λhi=>EvS g n ρ (.Subscript o (.Slice none hi st q) p) r.1 r.2) h λh=>bd h λt ht h=>vE (gd h).2 λd k hd h' =>
  onT_el (P:=λd=>R.e ρ o=some (d,k)->EvS g n ρ (.Subscript o (.Slice none none st q) p) r.1 r.2) h' (λxs h'=>l12E (P:=λxs=>R.e ρ o=some (.tuple xs,k)->EvS g n ρ (.Subscript o (.Slice none none st q) p) r.1 r.2) h' (λa h=>no h)
   λx y h' hd=>sm (P:=λr:DK=>EvS g n ρ (.Subscript o (.Slice none none st q) p) r.1 r.2) h' (ev_flip (ok.e _ _ _ _ hd) (jo5 ok ((gd h).1 ▸ ht)) (Nat.le_refl _))) hd
theorem subE_ok (ok:R.Ok g n){o i:Expr}{p:Pos}{r:DK}(h:subE R ρ o i=some r):EvS g n ρ (.Subscript o i p) r.1 r.2:=by
 cases i with
 | Slice lo hi st q =>
  have h:cutE R ρ o lo hi st=some r:=h
  exact jm9 h (λa ha z=>(show a=r from z) ▸ cutS_ok ok ha) λh=>flipE_ok ok h
 | _=>exact idxE_ok ok h
theorem ud0 (ok:R.Ok g n){mk:List D->D}{es:List Expr}{r:DK}(x:∀{ds},EvsS g n ρ es ds 0->ds.length<=cap->EvS g n ρ e (mk ds) 0)(h:seqE R ρ mk es=some r):EvS g n ρ e r.1 r.2 :=
 bd (gd h).2 λvs hv h'=>sm (P:=λr:DK=>EvS g n ρ e r.1 r.2) (gd h').2 (x (jw4 ok hv (gd h).1 (ug1 (gd h').1.1)) (by rw [List.length_map]; exact(gd h').1.2))
theorem stepV_ok (hn:1<=n){T:Tab}(N:Names g)(tok:TabOk T g n)(ok:R.Ok g n){r:DK}(h:qv3 T R ρ e=some r):EvS g n ρ e r.1 r.2:=by
 cases e with
 | Constant=>exact uk0 h
 | Name x p=>exact fi (show nameE ρ x=some r from h) (λzw h=>no h) λe h=>jb8 h (Bool.eq_false_iff.mpr e)
 | BinOp l op q=>exact vE (show binE R ρ l q op=some r from h) λa k ha h=>vE h λb kb hb h=>ev_bin (ok.e _ _ _ _ ha) (ok.e _ _ _ _ hb) (ua9 h)
 | UnaryOp=>exact unE_ok ok h
 | Compare=>exact cmpE_ok hn ok h
 | BoolOp=>exact boolE_ok ok h
 | IfExp c a b =>
  refine bd (show ifE R ρ c a b=some r from h) λt ht h=>?_
  cases t with
  | true=>exact qt6 (ok.t _ _ _ ht) (λzw=>ok.e _ _ _ _ h) nofun
  | false=>exact qt6 (ok.t _ _ _ ht) nofun λzw=>ok.e _ _ _ _ h
 | List es p=>exact ud0 ok (λx z=>jz5 (k:=0) x z) h
 | Tuple es q p=>exact ud0 ok (λx z=>ev_tup (k:=0) x z) h
 | Subscript=>exact subE_ok ok h
 | Call f args kws pos =>
  refine l0E (P:=λkws=>EvS g n ρ (.Call f args kws pos) r.1 r.2) (show l0 (callX T R ρ args pos f) kws=some r from h) λh=>?_
  have h:callX T R ρ args pos f=some r:=h
  cases f with
  | Attribute o m ap=>exact methE_ok ok (gd (show(if je2 o=true/\(ap.endLine==pos.line)=true then uf7 R ρ o m args else none)=some r from h)).2 (gd h).1.1 (gd h).1.2
  | Name f q=>exact callE_ok N tok ok h
  | _=>exact no h
 | ListComp=>exact compG_ok ok h
 | _=>exact no h
theorem jq1 {T:Tab}(hn:1<=n)(N:Names g)(tok:TabOk T g n):∀m,(Ev.at T m).Ok g n
 | 0=>⟨λzw zw zw zw h=>no h,λzw zw zw h=>no h,λzw zw zw zw h=>no h⟩
 | m+1=>⟨λρ e d k h=>jm9 h (λa ha z=>tok.hook _ _ _ _ (ha.trans (congrArg some z))) λh=>stepV_ok hn N tok (jq1 hn N tok m) h,
  λρ e b h=>stepT_ok hn (jq1 hn N tok m) h,λρ tt e ds h=>stepI_ok N (jq1 hn N tok m) h⟩
end
end
set_option backward.match.sparseCases false
noncomputable def putL {β:Type} (x:Str) (p:β):List (Str×β)->List (Str×β)
 | []=>[(x,p)]
 | (y,q)::r=>if y==x then (y,p)::r else (y,q)::putL x p r
theorem jg5 {β:Type}(x:Str)(p:β)(y:Str):∀(l:List (Str×β)),(putL x p l).lookup y=if y==x then some p else l.lookup y
 | []=>by
  unfold putL
  rw [List.lookup_cons]
  cases y==x <;> rfl
 | (z,q)::r=>by
  unfold putL
  cases hz:z==x with
  | true =>
   have:=beq_iff_eq.mp hz; subst this
   simp only [if_true,List.lookup_cons]
   cases hy:y==z <;> simp
  | false =>
   simp only [Bool.false_eq_true,if_false,List.lookup_cons]
   rw [jg5 x p y r]
   cases hy:y==z with
   | true =>
    have:=beq_iff_eq.mp hy; subst this
    rw [hz]; rfl
   | false=>rfl
noncomputable def Rho.put (ρ:Rho) (x:Str) (d:D) (k:Nat):Rho:={ ρ with vars:=putL x (d,k) ρ.vars }
structure Same (ρ ρ':Rho):Prop where
 sc:ρ'.sc=ρ.sc
 vars:∀x,ρ'.vars.lookup x=ρ.vars.lookup x
theorem Same.refl:Same ρ ρ:=⟨rfl,λzw=>rfl⟩
theorem Same.put (h:Same ρ ρ')(x:Str)(d:D)(k:Nat):Same (ρ.set x d k) (ρ'.put x d k):=⟨h.sc,λy=>by
 show(putL x (d,k) ρ'.vars).lookup y=((x,(d,k))::ρ.vars).lookup y
 rw [jg5,List.lookup_cons,h.vars]
 cases y==x <;> rfl⟩
theorem EnvOk.same (e:EnvOk O M ρ env h)(s:Same ρ ρ'):EnvOk O M ρ' env h :=
 ⟨e.kind,e.gl,e.bl,e.sc.trans s.sc.symm,e.apart,λx d k hx=>e.vars x d k ((s.vars x).symm.trans hx)⟩
noncomputable def je1 (ρ:Rho):List Str->List D->Option Rho
 | [],[]=>some ρ
 | x::xs,d::ds=>je1 (ρ.put x d 0) xs ds
 | _,_=>none
theorem jr5:∀(xs:List Str) (ds:List D) (ρ0 ρ ρ':Rho),Same ρ0 ρ->je1 ρ xs ds=some ρ'->∃ρ'',jf9 ρ0 xs ds=some ρ''/\Same ρ'' ρ'
 | [],[],ρ0,ρ,ρ',s,h=>by cases h; exact⟨ρ0,rfl,s⟩
 | [],_::_,_,_,_,_,h=>by cases h
 | _::_,[],_,_,_,_,h=>by cases h
 | x::xs,d::ds,ρ0,ρ,ρ',s,h=>jr5 xs ds (ρ0.set x d 0) (ρ.put x d 0) ρ' (s.put x d 0) h
theorem qx6 {P:Expr->Prop}(h:jb6 e=some x)(k:∀p,P (.Name x p)):P e:=qn7 h λy p h=>sm (P:=λx=>(∀p,P (.Name x p))->P (.Name y p)) h (λk=>k p) k
noncomputable def js7 (ρ:Rho):Expr->D->Option Rho
 | .Name x _=>λd=>some (ρ.put x d 0)
 | .Tuple es _ _=>onT λds=>(es.mapM jb6).bind λxs=>je1 ρ xs ds
 | _=>λzw=>none
theorem qd6 {t:Expr}(h:js7 ρ t d=some ρ'):∃ρ'',jw0 ρ t d=some ρ''/\Same ρ'' ρ':=by
 cases t with
 | Name x p=>exact⟨_,rfl,sm h (Same.refl.put _ _ _)⟩
 | Tuple es k p =>
  exact onT_el (P:=λd=>∃ρ'',jw0 ρ (.Tuple es k p) d=some ρ''/\Same ρ'' ρ') h λds h=>bd h λxs hx h=>(jr5 _ _ ρ ρ ρ' Same.refl h).elim λρ'' z=>⟨ρ'',by
   show(List.mapM jb6 es).bind _=_
   rw [hx]; exact z.1,z.2⟩
 | _=>exact no h
inductive Fl where
 | next | brk | cont
 | ret (d:D)
noncomputable def stOk (ρ:Rho) (x:Str):Bool:=ρ.sc.lookup x==some .local || ρ.sc.lookup x==some .cell
noncomputable def jk7 (ρ:Rho) (x:Str):Bool:=ρ.vars.all λp=>p.1==x || p.2.2==0
noncomputable def jf3 (ρ:Rho) (scope:Scope) (x:Str) (npos cp:Pos):Bool:=ρ.sc.lookup x==some .local && npos.line==cp.line && !(scope.names.any λp=>p.1==x && (p.2==.local || p.2==.cell))
noncomputable def augD:Operator->D->D->Option D
 | .Add=>λa b=>onD (λx=>onI (λy=>some (.int (x+y))) b) (λx=>onS (λy=>if x.length+y.length<=cap then some (.str (x++y)) else none) b) (λzw=>none) a
 | .Sub=>λa b=>onI (λx=>onI (λy=>some (.int (x - y))) b) a
 | _=>λzw zw=>none
noncomputable def go (k:Rho->Option (Fl×Rho)) (r:Fl×Rho):Option (Fl×Rho):=match r.1 with
 | .next=>k r.2
 | .brk=>some (.next,r.2)
 | .cont=>k r.2
 | .ret d=>some (.ret d,r.2)
theorem go_el {k:Rho->Option (Fl×Rho)}{r:Fl×Rho}{f:Fl}(h:go k r=some (f,ρ')):((r.1=.next\/r.1=.cont)/\k r.2=some (f,ρ'))\/(r.1=.brk/\f=.next/\ρ'=r.2)\/∃d,r.1=.ret d/\f=.ret d/\ρ'=r.2:=by
 obtain⟨a,ρ2⟩:=r
 cases a with
 | next=>exact .inl ⟨.inl rfl,h⟩
 | cont=>exact .inl ⟨.inr rfl,h⟩
 | brk=>cases h; exact .inr (.inl ⟨rfl,rfl,rfl⟩)
 | ret d=>cases h; exact .inr (.inr ⟨_,rfl,rfl,rfl⟩)
noncomputable def thn (k:Rho->Option (Fl×Rho)) (r:Fl×Rho):Option (Fl×Rho):=match r.1 with
 | .next=>k r.2
 | .brk=>some r
 | .cont=>some r
 | .ret _=>some r
noncomputable def jp3 (X:Rho->List Stmt->Option (Fl×Rho)) (target:Expr) (body:List Stmt):List D->Rho->Option (Fl×Rho)
 | [],ρ=>some (.next,ρ)
 | d::ds,ρ=>(js7 ρ target d).bind λρ1=>(X ρ1 body).bind (go λρ=>jp3 X target body ds ρ)
noncomputable def put0 (ρ:Rho) (x:Str) (r:Option DK):Option Rho:=dkV r λd k=>if k=0 then some (ρ.put x d 0) else none
theorem put0E {r:Option DK}{P:Rho->Prop}(h:put0 ρ x r=some ρ')(k:∀d,r=some (d,0)->P (ρ.put x d 0)):P ρ' :=
 vE h λd kk e h=>sm (gd h).2 (k d ((gd h).1 ▸ e))
noncomputable def jk6 (e:Expr):Bool:=e.ctorIdx != 8 && e.ctorIdx != 9 && e.ctorIdx != 10
noncomputable def asgC (R:Ev) (ρ:Rho) (x:Str) (npos:Pos) (e:Expr):Option Rho:=ue4 (λelt gens scope cp=>put0 ρ x (if jf3 ρ scope x npos cp=true then uk1 R ρ elt scope gens else R.e ρ (.ListComp elt gens scope cp))) e
noncomputable def qh1 (R:Ev) (ρ:Rho) (x:Str) (npos:Pos) (v:Expr):Option Rho :=
 if stOk ρ x=true then if jk6 v=true then put0 ρ x (R.e ρ v) else asgC R ρ x npos v else none
noncomputable def isTuple (e:Expr):Bool:=e.ctorIdx==25
noncomputable def qn9 (ρ:Option Rho):Option (Fl×Rho):=ρ.bind λρ=>some (.next,ρ)
noncomputable def nmP (e:Expr):Option (Str×Pos):=onNm (λx p=>some (x,p)) e
theorem nmP_inv {x:Str×Pos}(h:nmP e=some x):e=.Name x.1 x.2:=qn7 (P:=λe=>e=.Name x.1 x.2) h λy p h=>sm (P:=λx:Str×Pos=>Expr.Name y p=.Name x.1 x.2) h rfl
noncomputable def qh7 (R:Ev) (X:Rho->List Stmt->Option (Fl×Rho)) (ρ:Rho) (t:Expr) (b:List Stmt) (p:Pos):Option (Fl×Rho) :=
 (R.t ρ t).bind λc=>if c=true then (X ρ b).bind (go λρ'=>X ρ' [.While t b [] p]) else some (.next,ρ)
noncomputable def forE (R:Ev) (X:Rho->List Stmt->Option (Fl×Rho)) (ρ:Rho) (target iter:Expr) (body:List Stmt):Option (Fl×Rho) :=
 (jb3 target).bind λxs=>if jh4 iter=true/\xs.all (stOk ρ)=true then (R.i ρ (ttOf target) iter).bind λitems=>jp3 X target body items ρ else none
noncomputable def asg2E (R:Ev) (ρ:Rho) (x y:Str) (v:Expr):Option (Fl×Rho):=if stOk ρ x=true/\stOk ρ y=true/\jk6 v=true/\isTuple v=false then dkV (R.e ρ v) λd k=>if k=0 then some (.next,(ρ.put x d 0).put y d 0) else none else none
noncomputable def tupE (R:Ev) (ρ:Rho) (ts:List Expr) (k:Nat) (p:Pos) (v:Expr):Option (Fl×Rho) :=
 (jb3 (.Tuple ts k p)).bind λxs=>if xs.all (stOk ρ)=true/\jk6 v=true/\isTuple v=false then dkV (R.e ρ v) λd kk=>if kk=0 then qn9 (js7 ρ (.Tuple ts k p) d) else none else none
noncomputable def setE (R:Ev) (ρ:Rho) (x:Str) (i v:Expr):Option (Fl×Rho):=if jk6 v=true/\jh4 i=true/\jk7 ρ x=true/\SubS.notSlice i=true/\(x==("__debug__":Str))=false then
 dkV (R.e ρ v) λd k=>dkL (ρ.vars.lookup x) λxs k'=>dkI (R.e ρ i) λz zw=>if k=0/\k'=1/\0<=z/\z < xs.length then some (.next,ρ.put x (.list (xs.set z.toNat d)) 1) else none else none
noncomputable def asg1 (R:Ev) (ρ:Rho) (v e:Expr):Option (Fl×Rho) :=
 if h:e.ctorIdx=25 then Expr.Tuple.elim (motive_1:=λzw=>Option (Fl×Rho)) e h λts k p=>tupE R ρ ts k p v
 else if h:e.ctorIdx=21 then Expr.Subscript.elim (motive_1:=λzw=>Option (Fl×Rho)) e h λo i zw=>(jb6 o).bind λx=>setE R ρ x i v
 else onNm (λx npos=>qn9 (qh1 R ρ x npos v)) e
noncomputable def asgE (R:Ev) (ρ:Rho) (v:Expr):List Expr->Option (Fl×Rho):=l12 (asg1 R ρ v) λt t'=>(jb6 t).bind λx=>(jb6 t').bind λy=>asg2E R ρ x y v
noncomputable def augE (R:Ev) (ρ:Rho) (x:Str) (op:Operator) (v:Expr):Option (Fl×Rho):=if stOk ρ x=true then dkV (ρ.vars.lookup x) λa k=>dkV (R.e ρ v) λb zw=>if k=0 then (augD op a b).bind λd=>some (.next,ρ.put x d 0) else none else none
noncomputable def appE (R:Ev) (ρ:Rho) (x m:Str) (ap cp:Pos) (a:Expr):Option (Fl×Rho):=if (m==("append":Str))=true/\jb1 a=true/\jk7 ρ x=true/\(x==("__debug__":Str))=false/\(ap.endLine==cp.line)=true then
 dkL (ρ.vars.lookup x) λxs k=>dkV (R.e ρ a) λd k'=>if k=1/\k'=0/\xs.length+1<=cap then some (.next,ρ.put x (.list (xs++[d])) 1) else none else none
noncomputable def appF (R:Ev) (ρ:Rho) (as:List Expr) (ks:List Keyword) (cp:Pos) (e:Expr):Option (Fl×Rho):=ue6 (λo m ap=>(jb6 o).bind λx=>l0 (l1 (appE R ρ x m ap cp) as) ks) e
noncomputable def exprE (R:Ev) (ρ:Rho) (e:Expr):Option (Fl×Rho):=qs3 (λf as ks cp=>appF R ρ as ks cp f) e
noncomputable def retE (R:Ev) (ρ:Rho) (e:Option Expr):Option (Fl×Rho):=e.bind λe=>dkV (R.e ρ e) λd zw=>some (.ret d,ρ)
noncomputable def iffE (R:Ev) (X:Rho->List Stmt->Option (Fl×Rho)) (ρ:Rho) (t:Expr) (b o:List Stmt):Option (Fl×Rho):=(R.t ρ t).bind λc=>if c=true then X ρ b else X ρ o
noncomputable def jc9 (R:Ev) (X:Rho->List Stmt->Option (Fl×Rho)) (ρ:Rho):Stmt->Option (Fl×Rho)
 | .Pass _=>some (.next,ρ)
 | .Break _=>some (.brk,ρ)
 | .Continue _=>some (.cont,ρ)
 | .Return e _=>retE R ρ e
 | .If t b o _=>iffE R X ρ t b o
 | .While t b o p=>l0 (qh7 R X ρ t b p) o
 | .For target iter body o _=>l0 (forE R X ρ target iter body) o
 | .Assign ts v _=>asgE R ρ v ts
 | .AugAssign t op v _=>(jb6 t).bind λx=>augE R ρ x op v
 | .Expr e _=>exprE R ρ e
 | _=>none
noncomputable def run (R:Ev):Nat->Rho->List Stmt->Option (Fl×Rho)
 | 0,_,_=>none
 | n+1,ρ,ss=>match ss with
  | []=>some (.next,ρ)
  | st::rest=>(jc9 R (run R n) ρ st).bind (thn λρ'=>run R n ρ' rest)
section
structure Pl (g:Glob) (O M P:Avoid) (env:Env):Prop where
 store:∀x,jm0 env x->P (jl3 env x)
 po:∀b,P b->O b
 pg:∀b o,g.h.get? b=some o->¬P b/\¬M b
 live:∀(t:Shared),FrameOk env t.heap->∀b,P b->∃o,t.heap.get? b=some o
structure Act (g:Glob) (O M:Avoid) (ρ:Rho) (env:Env) (s:Shared):Prop where
 up:g.Up s
 aO:Alloc O s
 aM:Alloc M s
 eo:EnvOk O M ρ env s.heap
 fo:FrameOk env s.heap
theorem Act.keeps (a:Act g O M ρ env s)(k:Keeps s s'):Act g O M ρ env s':=⟨a.up.keeps k,a.aO.keeps k,a.aM.keeps k,a.eo.keeps (ja0 k),a.fo.keeps (ja0 k)⟩
noncomputable def FlOk (O M:Avoid) (h:Heap):Fl->Flow->Prop
 | .next,f=>f=.next
 | .brk,f=>f=.brk
 | .cont,f=>f=.cont
 | .ret d,f=>∃v k,f=.ret v/\Rd O M h k v d
noncomputable abbrev PM (P M:Avoid):Avoid:=λb=>P b\/M b
noncomputable def StS (g:Glob) (n:Nat) (ρ:Rho) (st:Stmt) (f:Fl) (ρ':Rho):Prop :=
 ∀(O M P:Avoid) (env:Env) (A:Around) (s:Shared) (E:Value->Shared->Prop) (Q:Flow->Shared->Prop),Pl g O M P env->Room n A->Act g O M ρ env s →
  (∀fl s',FlOk O M s'.heap f fl->Chg (PM P M) s s'->Act g O M ρ' env s'->Q fl s')->wpAny g.M A (exec st env) Q E s
noncomputable def RunS (g:Glob) (n:Nat) (ρ:Rho) (ss:List Stmt) (f:Fl) (ρ':Rho):Prop :=
 ∀(O M P:Avoid) (env:Env) (A:Around) (s:Shared) (E:Value->Shared->Prop) (Q:Flow->Shared->Prop),Pl g O M P env->Room n A->Act g O M ρ env s →
  (∀fl s',FlOk O M s'.heap f fl->Chg (PM P M) s s'->Act g O M ρ' env s'->Q fl s')->wpAny g.M A (execs ss env) Q E s
section
variable {g:Glob} {n:Nat} {ρ:Rho}
theorem qe4 (eo:EnvOk O M ρ env h)(hx:stOk ρ x=true):jm0 env x:=by
 unfold stOk at hx
 simp only [Bool.or_eq_true,beq_iff_eq] at hx
 unfold jm0 Env.kindOf
 rw [eo.sc]; exact hx
theorem jj4 {P:Avoid}{Q:Unit->Shared->Prop}(pl:Pl g O M P env)(a:Act g O M ρ env s)(hx:stOk ρ x=true)(r:Rd O M s.heap 0 v d)
  (q:∀s',Chg P s s'->Act g O M (ρ.put x d 0) env s'->(∀b c us n,s.heap.get? b=some { cls:=c,data:=.seq us n }->s'.heap.get? b=some { cls:=c,data:=.seq us n })->Q () s'):wpAny g.M A (storeName env x v) Q E s:=by
 have hs:=qe4 a.eo hx
 refine jq5 a.eo a.fo hs r (λz=>absurd rfl z) λh' tk st eo' fo'=>?_
 have ch:Chg P s { s with heap:=h',toks:=tk }:=⟨⟨h',tk,rfl⟩,λb o hb e=>st.same.extBut b o (λz=>hb (z ▸ pl.store x hs)) e⟩
 have lv:=pl.live { s with heap:=h',toks:=tk } fo'
 exact q _ ch ⟨ch.up a.up λb o e=>(pl.pg b o e).1,ch.alloc a.aO λb zw hb=>lv b hb,ch.alloc a.aM λb zw hb=>lv b hb,eo'.same (Same.refl.put _ _ _),fo'⟩ st.seqs
theorem jo7 {P:Avoid}{Q:Unit->Shared->Prop}{t:Expr}{xs:List Str}(hh:A.handled=none)(pl:Pl g O M P env)(a:Act g O M ρ env s)(hn:jb3 t=some xs)(hx:xs.all (stOk ρ)=true)(r:Rd O M s.heap 0 v d)(hb:js7 ρ t d=some ρ')
  (q:∀s',Chg P s s'->Act g O M ρ' env s'->Q () s'):wpAny g.M A (assign t env v) Q E s:=by
 obtain⟨ρ'',h1,h2⟩:=qd6 hb
 refine qh5 (P:=P) hh h1 hn (λx hx'=>?_) a.eo a.fo r λs' ch sq eo' fo'=>?_
 ·have:=qe4 a.eo (List.all_eq_true.mp hx x hx')
  exact⟨this,pl.store x this⟩
 ·have lv:=pl.live s' fo'
  exact q _ ch ⟨ch.up a.up λb o e=>(pl.pg b o e).1,ch.alloc a.aO λb zw hb=>lv b hb,ch.alloc a.aM λb zw hb=>lv b hb,eo'.same h2,fo'⟩
theorem EvS.act (x:EvS g n ρ e d k)(rm:Room n A)(a:Act g O M ρ env s)
  (q:∀v s',Keeps s s'->Rd O M s'.heap k v d->Act g O M ρ env s'->Q v s'):wpAny g.M A (eval e env) Q E s :=
 wpAny_mono (x O M env A s E a.up rm a.aO a.aM a.eo) (λv s' ⟨k,r⟩=>q v s' k r (a.keeps k)) λzw zw z=>z
theorem TestS.act {b:Bool}(x:TestS g n ρ e b){Q:Bool->Shared->Prop}(rm:Room n A)(a:Act g O M ρ env s)
  (q:∀s',Keeps s s'->Act g O M ρ env s'->Q b s'):wpAny g.M A (isTrue e env (eval e env)) Q E s :=
 wpAny_mono (x O M env A s E a.up rm a.aO a.aM a.eo) (λc s' ⟨k,hb⟩=>by subst hb; exact q s' k (a.keeps k)) λzw zw z=>z
theorem Chg.pm {P:Avoid}(c:Chg P s s'):Chg (PM P M) s s':=c.mono λb h=>.inl h
theorem Chg.ofK {P:Avoid}(c:Keeps s s'):Chg P s s':=Chg.of_keeps c
theorem st_pass {p:Pos}:StS g n ρ (.Pass p) .next ρ:=λO M P env A s E Q pl rm a q=>wpAny_Pass (q _ _ rfl Chg.refl a)
theorem st_break {p:Pos}:StS g n ρ (.Break p) .brk ρ:=λO M P env A s E Q pl rm a q=>by
 show wpAny g.M A (do standAt p; pure .brk) Q E s
 exact wpAny_bind (wpAny_standAt (wpAny_pure (q _ _ rfl Chg.refl a)))
theorem st_cont {p:Pos}:StS g n ρ (.Continue p) .cont ρ:=λO M P env A s E Q pl rm a q=>by
 show wpAny g.M A (do standAt p; pure .cont) Q E s
 exact wpAny_bind (wpAny_standAt (wpAny_pure (q _ _ rfl Chg.refl a)))
theorem st_ret {p:Pos}(x:EvS g n ρ e d k):StS g n ρ (.Return (some e) p) (.ret d) ρ:=λO M P env A s E Q pl rm a q =>
 wpAny_Return_some (x.act rm a λv s' k r a'=>q _ _ ⟨v,_,rfl,r⟩ (Chg.ofK k) a')
theorem st_if {t:Expr}{b o:List Stmt}{p:Pos}{c:Bool}{f:Fl}(x:TestS g n ρ t c)(y:c=true->RunS g n ρ b f ρ')(z:c=false->RunS g n ρ o f ρ'):StS g n ρ (.If t b o p) f ρ':=λO M P env A s E Q pl rm a q=>by
 refine wpAny_If (x.act rm a λs' k a'=>?_)
 cases c with
 | true=>exact y rfl O M P env A s' E Q pl rm a' λfl s'' h1 h2 h3=>q fl s'' h1 ((Chg.ofK k).trans h2) h3
 | false=>exact z rfl O M P env A s' E Q pl rm a' λfl s'' h1 h2 h3=>q fl s'' h1 ((Chg.ofK k).trans h2) h3
theorem run_nil:RunS g n ρ [] .next ρ:=λO M P env A s E Q pl rm a q=>wpAny_execs_nil (q _ _ rfl Chg.refl a)
theorem run_cons {st:Stmt}{ss:List Stmt}{f:Fl}{ρ1 ρ2:Rho}(x:StS g n ρ st .next ρ1)(y:RunS g n ρ1 ss f ρ2):RunS g n ρ (st::ss) f ρ2:=λO M P env A s E Q pl rm a q =>
 wpAny_execs_cons (x O M P env A s E _ pl rm a λfl s' h1 h2 h3=>by
  cases h1
  exact y O M P env A s' E Q pl rm h3 λfl s'' g1 g2 g3=>q fl s'' g1 (h2.trans g2) g3)
theorem run_stop {st:Stmt}{ss:List Stmt}{f:Fl}{ρ1:Rho}(x:StS g n ρ st f ρ1)(hf:f≠.next):RunS g n ρ (st::ss) f ρ1:=λO M P env A s E Q pl rm a q =>
 wpAny_execs_cons (x O M P env A s E _ pl rm a λfl s' h1 h2 h3=>by
  cases f with
  | next=>exact absurd rfl hf
  | brk=>cases h1; exact q _ _ rfl h2 h3
  | cont=>cases h1; exact q _ _ rfl h2 h3
  | ret d=>obtain⟨v,k,rfl,r⟩:=h1; exact q _ _ ⟨v,k,rfl,r⟩ h2 h3)
theorem ja7 {v:Expr}(h:jk6 v=true)(t:Option Expr)(l:Nat)(env:Env):swapsWith v t l env=pure false:=by
 cases v <;> first | rfl | exact nb h | cases h
theorem qi1 {np p:Pos}{v:Expr}(hx:stOk ρ x=true)(hv:∀(O M:Avoid) (env:Env) (h:Heap),EnvOk O M ρ env h->swapsWith v (some (.Name x np)) p.line env=pure false)(e:EvS g n ρ v d 0):StS g n ρ (.Assign [.Name x np] v p) .next (ρ.put x d 0):=λO M P env A s E Q pl rm a q =>
 wpAny_Assign_Name (e.act rm a λw s' k r a'=>jj4 pl a' hx r λs'' c a'' zw=>q _ _ rfl ((Chg.ofK k).trans c.pm) a'') (hv O M env _ a.eo)
theorem qv6 {y:Str}{nx ny p:Pos}{v:Expr}(hx:stOk ρ x=true)(hy:stOk ρ y=true)(hv:isTuple v=false)(e:EvS g n ρ v d 0):StS g n ρ (.Assign [.Name x nx,.Name y ny] v p) .next ((ρ.put x d 0).put y d 0):=λO M P env A s E Q pl rm a q=>by
 refine wpAny_Assign_two (e.act rm a λw s' k r a'=>wpAny_assign_Name (jj4 pl a' hx r λs_1 c_1 a_1 sq=>wpAny_assign_Name (jj4 pl a_1 hy (r.seqs sq) λs_2 c_2 a_2 zw=>q _ _ rfl ((Chg.ofK k).trans (c_1.pm.trans c_2.pm)) a_2))) rfl ?_
 cases v <;> first | rfl | exact nb hv | cases hv
theorem qv1 {ts:List Expr}{kk:Nat}{tp:Pos}{v:Expr}(hv:isTuple v=false):swappedStores [.Tuple ts kk tp] v env=pure none:=by
 cases v <;> first | rfl | cases hv
theorem qv5 {ts:List Expr}{kk:Nat}{tp p:Pos}{v:Expr}{xs:List Str}(hn:jb3 (.Tuple ts kk tp)=some xs)(hx:xs.all (stOk ρ)=true)(hp:jk6 v=true)(hv:isTuple v=false)(e:EvS g n ρ v d 0)(hb:js7 ρ (.Tuple ts kk tp) d=some ρ') :
  StS g n ρ (.Assign [.Tuple ts kk tp] v p) .next ρ':=λO M P env A s E Q pl rm a q=>by
 refine wpAny_Assign_stores (e.act rm a λw s' k r a'=>?_) (show swapsWithSole [Expr.Tuple ts kk tp] v p.line env=pure false from ja7 hp (some (.Tuple ts kk tp)) p.line env) (qv1 hv)
 show wpAny g.M A (assignAll w [assign (.Tuple ts kk tp) env]) _ E s'
 exact jo7 rm.handled pl a' hn hx r hb λs'' c a''=>q _ _ rfl ((Chg.ofK k).trans c.pm) a''
end
end
set_option backward.match.sparseCases true
section
theorem jw8 {M':Model}(hk:env.scope.kind=.function)(hv:VarAt env s.heap x v)(q:Q v s):wpAny M' A (loadName env x) Q E s:=by
 rcases hv with ⟨a,m,b,c⟩ | ⟨a | ⟨a,a'⟩,c,b,e⟩
 ·exact wpAny_loadName_local hk a b c q
 ·exact wpAny_loadName_cell hk a b e q
 ·exact wpAny_loadName_free hk a b e q a'
theorem ql7 {op:Operator}{a b:D}{va vb:Value}{ka kb:Nat}(h:augD op a b=some d)(ra:Rd O M s.heap ka va a)(rb:Rd O M s.heap kb vb b)
  (q:∀v s',Keeps s s'->Rd O M s'.heap 0 v d->Q v s'):wpAny g.M A (inplaceOp op va vb) Q E s:=by
 cases op <;> try exact no h
 ·refine qc1 (P:=λa=>Rd O M s.heap ka va a->wpAny g.M A (inplaceOp .Add va vb) Q E s) h (λx h ra=>?_) (λx h ra=>?_) (λzw h=>no h) ra
  ·refine ji9 (P:=λb=>Rd O M s.heap kb vb b->wpAny g.M A (inplaceOp .Add va vb) Q E s) h (λy h rb=>?_) rb
   obtain⟨t,rfl⟩:=ja4 ra; obtain⟨u,rfl⟩:=ja4 rb
   exact PySem.P.iadd_int (q _ _ (ja5 s _) (sm h .int))
  ·refine jr7 (P:=λb=>Rd O M s.heap kb vb b->wpAny g.M A (inplaceOp .Add va vb) Q E s) h (λy h rb=>?_) rb
   obtain⟨t,rfl⟩:=jh3 ra; obtain⟨u,rfl⟩:=jh3 rb
   exact SB.iadd (λt' k=>q _ _ (ja5 s _) (sm (gd h).2 .str)) (Nat.le_trans (gd h).1 jc3)
 ·refine ji9 (P:=λa=>Rd O M s.heap ka va a->wpAny g.M A (inplaceOp .Sub va vb) Q E s) h (λx h ra=>?_) ra
  refine ji9 (P:=λb=>Rd O M s.heap kb vb b->wpAny g.M A (inplaceOp .Sub va vb) Q E s) h (λy h rb=>?_) rb
  obtain⟨t,rfl⟩:=ja4 ra; obtain⟨u,rfl⟩:=ja4 rb
  exact PySem.P.isub_int (q _ _ (ja5 s _) (sm h .int))
section
variable {g:Glob} {n:Nat} {ρ:Rho}
theorem st_aug {np p:Pos}{op:Operator}{v:Expr}{a b:D}(hx:stOk ρ x=true)(hl:ρ.vars.lookup x=some (a,0))(e:EvS g n ρ v b k)(h:augD op a b=some d):StS g n ρ (.AugAssign (.Name x np) op v p) .next (ρ.put x d 0):=λO M P env A s E Q pl rm ac q=>by
 obtain⟨w,hw,hr,_⟩:=ac.eo.vars x a 0 hl
 refine wpAny_AugAssign_Name (jw8 ac.eo.kind hw (e.act rm ac λu s_1 k_1 r_1 a_1=>ql7 h (hr.keeps (ja0 k_1)) r_1 λz s_2 k_2 r_2=>?_))
 exact jj4 pl (a_1.keeps k_2) hx r_2 λs_3 c_3 a_3 zw=>q _ _ rfl ((Chg.ofK k_1).trans ((Chg.ofK k_2).trans c_3.pm)) a_3
theorem qs0 {xs:List D}(a:Act g O M ρ env s)(hl:ρ.vars.lookup x=some (.list xs,1)) :
  ∃l vs m,VarAt env s.heap x (.ref l)/\(∀b,M b↔b=l)/\IsL s.heap l vs m/\vs.size<=cap/\Rds O M s.heap 0 vs.toList xs/\¬O l:=by
 obtain⟨v,hv,hr,ho⟩:=a.eo.vars x _ 1 hl
 obtain⟨l,rfl,hm⟩:=ho (by decide)
 obtain⟨l',vs,m,e,h1,h2,h3,h4,_⟩:=jc5 hr
 cases e
 exact⟨l,vs,m,hv,hm,h2,h1,h3,h4⟩
theorem um2 {P:Avoid}{ys:List D}{l:Addr}{vs vs':Array Value}{m m':Nat}(pl:Pl g O M P env)(a:Act g O M ρ env s)(h1:jk7 ρ x=true)(hv:VarAt env s.heap x (.ref l))(hm:∀b,M b↔b=l)(hI:IsL s.heap l vs m)(hO:¬O l)
  (hs:Heap.SameBut l s.heap h') (hI':IsL h' l vs' m') (hz:vs'.size<=cap) (r:Rds O M s.heap 0 vs'.toList ys) :
  Chg (PM P M) s { s with heap:=h' }/\Act g O M (ρ.put x (.list ys) 1) env { s with heap:=h' }:=by
 have ch:Chg (λb=>b=l) s { s with heap:=h' }:=⟨⟨h',s.toks,rfl⟩,λb o hb e=>hs.extBut b o hb e⟩
 have kd:∀b,b=l->∃o,s.heap.get? b=some o/\isFS o=true:=λb hb=>by subst hb; exact⟨_,hI,rfl⟩
 have lv:∀b,b=l->∃o,({ s with heap:=h' }:Shared).heap.get? b=some o:=λb hb=>by subst hb; exact⟨_,hI'⟩
 have keep:∀b c us n,¬M b->s.heap.get? b=some { cls:=c,data:=.seq us n }->h'.get? b=some { cls:=c,data:=.seq us n }:=λb c us n hb e=>hs.extBut b _ (λz=>hb ((hm b).mpr z)) e
 have var:∀y v,VarAt env s.heap y v->VarAt env h' y v:=λy v hy=>by
  rcases hy with ⟨a,m,b,c⟩ | ⟨a,c,b,d⟩
  ·exact .inl ⟨a,m,ue8 b ch kd,c⟩
  ·exact .inr ⟨a,c,b,qg9 d ch kd⟩
 refine⟨ch.mono λb hb=>.inr ((hm b).mpr hb),ch.up a.up λb o e z=>(pl.pg b o e).2 ((hm b).mpr z),ch.alloc a.aO λb zw hb=>lv b hb,ch.alloc a.aM λb zw hb=>lv b hb,⟨a.eo.kind,a.eo.gl,a.eo.bl,a.eo.sc,a.eo.apart,λy d k hy=>?_⟩,a.fo.chgW ch kd⟩
 have hy:(putL x (.list ys,1) ρ.vars).lookup y=some (d,k):=hy
 rw [jg5] at hy
 cases hb:y==x with
 | true =>
  have:=beq_iff_eq.mp hb; subst this
  rw [hb] at hy; cases hy
  exact⟨_,var _ _ hv,.list hO (λz=>by cases z) hz hI' (r.but keep rfl),λzw=>⟨l,rfl,hm⟩⟩
 | false =>
  rw [hb] at hy
  obtain⟨v,g1,g2,g3⟩:=a.eo.vars y d k hy
  have hk:k=0:=by
   have:=List.all_eq_true.mp h1 _ (mem_of_lookup hy)
   simp only [hb,Bool.false_or,beq_iff_eq] at this
   exact this
  exact⟨v,var _ _ g1,g2.but keep hk,g3⟩
theorem uc5 {np ap cp p:Pos}{m:Str}{xs:List D}(hm:(m==("append":Str))=true)(hs:jb1 e=true)(h1:jk7 ρ x=true)(hd:(x==("__debug__":Str))=false)(hln:(ap.endLine==cp.line)=true)(hl:ρ.vars.lookup x=some (.list xs,1))(ev:EvS g n ρ e d 0)(hc:xs.length+1<=cap) :
  StS g n ρ (.Expr (.Call (.Attribute (.Name x np) m ap) [e] [] cp) p) .next (ρ.put x (.list (xs++[d])) 1):=λO M P env A s E Q pl rm a q=>by
 have:=beq_iff_eq.mp hm; subst this
 obtain⟨l,vs,q_1,hv,hM,hI,hz,hr,hO⟩:=qs0 a hl
 have hst:starEach [e] env=[(false,eval e env)]:=ji8 hs
 have hi:interactive env=false:=by unfold interactive; rw [a.eo.kind]; rfl
 refine wpAny_Expr_any (prog:=g.prog) (w:=g.w) ?_ hi (ja7 rfl _ _ _)
 refine Call_method1 (ji7 rfl) hst hln (wpAny_Name (jw8 a.eo.kind hv ?_) hd)
 refine⟨"list","list.append",F.plainAttrs_list,F.slot_list_append,F.type_list_append,⟨_,hI,rfl⟩,λb hb=>⟨_,by cases hb; exact hI,rfl⟩,?_⟩
 refine PySem.P.append_list (ev.act rm a λv s_1 k_1 r_1 a_1=>?_)
 have hI1:=ja0 k_1 _ _ hI
 have hr1:=hr.keeps (ja0 k_1)
 have hl':=hr.length
 rw [Array.length_toList] at hl'
 have hv_1:=hv.keeps (ja0 k_1)
 refine⟨vs,q_1,Nat.le_trans hz jc3,hI1,?_⟩
 obtain⟨c,a'⟩:=um2 (ys:=xs++[d]) pl a_1 h1 hv_1 hM hI1 hO (Heap.SameBut.update ..) (IsL.update hI1 (λus=>us.push v)) (by rw [Array.size_push]; grind) (by rw [Array.toList_push]; exact hr1.append (.cons r_1 .nil))
 exact q _ _ rfl ((Chg.ofK k_1).trans c) a'
theorem qw1 {prog:Program}{w:World}{l:Addr}{items:Array Value}{k:Int}{t:Tok}{Q:Unit->Shared->Prop}(hl:IsL s.heap l items n)(h0:0<=k)(hfit:k < 2 ^ 63)(hn:k < items.size)
  (hQ:∀h' n',IsL h' l (items.setIfInBounds k.toNat v) n'->Heap.SameBut l s.heap h'->Q () { s with heap:=h' }):wpAny (model prog w) A (setItem (.ref l) (.int k t) v) Q E s:=by
 have hT:s.TypeIs (.ref l) "list":=⟨_,hl,rfl⟩
 unfold setItem
 try with_reducible refine wpAny_holding ?_
 first | refine wpAny_bind (wpAny_pure ?_) | skip
 refine wpAny_bind (wpAny_sequenceKey hT (by decide) ?_)
 refine wpAny_bind (wpAny_callSpecial?_slot (name:=Str.ofString "__setitem__") hT slot_list_setitem
  (wpAny_call_entry slot_list_setitem hT entry_list_setitem ?_ (args_list_setitem _ _ _)))
 show wpAny _ _ (Builtin.List.listSubscript? (.int k t) >>= _) _ _ s
 refine wpAny_bind (wpAny_listSubscript_int (fitsIndex_of h0 hfit) ?_)
 clear hfit
 obtain⟨j,rfl⟩:=Int.eq_ofNat_of_zero_le h0
 have hj:j < items.size:=by omega
 have hx':items[j]?=some items[j]:=Array.getElem?_eq_getElem hj
 show wpAny _ _ ((seqItemAt l j >>= λr=>pure (r.map (j,·))) >>= _) _ _ s
 refine wpAny_bind (wpAny_bind (wpAny_seqItemAt hl rfl (wpAny_pure ?_)))
 rw [hx']
 show wpAny _ _ (setSeqItemAt l j v >>= _) _ _ s
 have hfin:=IsL.update hl (·.setIfInBounds j v)
 refine wpAny_bind (wpAny_setSeqItemAt hl rfl ?_)
 first
  | exact wpAny_bind (wpAny_pure (wpAny_pure ⟨.none,rfl,wpAny_pure (hQ _ _ hfin (Heap.SameBut.update ..))⟩))
  | exact wpAny_pure ⟨.none,rfl,wpAny_pure (hQ _ _ hfin (Heap.SameBut.update ..))⟩
theorem qv4 {np sp p:Pos}{i v:Expr}{xs:List D}{z:Int}{kz:Nat}(hp:jk6 v=true)(h1:jk7 ρ x=true)(hd:(x==("__debug__":Str))=false)(hl:ρ.vars.lookup x=some (.list xs,1))(ev:EvS g n ρ v d 0)(ei:EvS g n ρ i (.int z) kz)(h0:0<=z)(hz:z < xs.length) :
  StS g n ρ (.Assign [.Subscript (.Name x np) i sp] v p) .next (ρ.put x (.list (xs.set z.toNat d)) 1):=λO M P env A s E Q pl rm a q=>by
 refine wpAny_Assign_Subscript (ev.act rm a λw s_1 k_1 r_1 a_1=>?_) (ja7 hp _ _ _)
 obtain⟨l,vs,q_1,hv,hM,hI,hsz,hr,hO⟩:=qs0 a_1 hl
 refine wpAny_Name (jw8 a_1.eo.kind hv (ei.act rm a_1 λu s_2 k_2 r_2 a_2=>?_)) hd
 obtain⟨t,rfl⟩:=ja4 r_2
 have hlen:=hr.length
 rw [Array.length_toList] at hlen
 obtain⟨j,rfl⟩:=Int.eq_ofNat_of_zero_le h0
 have hc:cap=100000:=rfl
 refine qw1 (prog:=g.prog) (w:=g.w) (ja0 k_2 _ _ hI) h0 (by grind) (by grind) λh' n' hI' hs=>?_
 obtain⟨c,a'⟩:=um2 (ys:=xs.set j d) pl a_2 h1 (hv.keeps (ja0 k_2)) hM (ja0 k_2 _ _ hI) hO hs hI' (by rw [Array.size_setIfInBounds]; exact hsz) (by rw [Array.toList_setIfInBounds]; exact(hr.keeps (ja0 k_2)).set j (r_1.keeps (ja0 k_2)))
 exact q _ _ rfl ((Chg.ofK k_1).trans ((Chg.ofK k_2).trans c)) a'
end
end
section
section
variable {g:Glob} {n:Nat} {ρ:Rho} {R:Ev}
theorem Act.let {s_0:Shared}{C:Addr}{m:Str->Option Value}(a:Act g O M ρ env s)(hC:s.heap.Ns C m)(hs:Heap.SameBut C s.heap h')(hn:env.locals≠C)(h0:∀b,(O b\/M b\/∃o,g.h.get? b=some o)->b≠C):Act g O M ρ env { s with heap:=h' }:=by
 have var:∀y v,VarAt env s.heap y v->VarAt env h' y v:=λy v hy=>by
  rcases hy with ⟨a,m',⟨o,es,ep,ho,r⟩,c⟩ | ⟨a,c,b,d⟩
  ·exact .inl ⟨a,m',⟨o,es,ep,hs.extBut _ _ hn ho,r⟩,c⟩
  ·have:c≠C:=ji4 hC d
   obtain⟨o,ho,hd⟩:=d
   exact .inr ⟨a,c,b,o,hs.extBut _ _ this ho,hd⟩
 refine⟨λb o e=>hs.extBut b o (h0 b (.inr (.inr ⟨o,e⟩))) (a.up b o e),λb hb=>?_,λb hb=>?_,⟨a.eo.kind,a.eo.gl,a.eo.bl,a.eo.sc,a.eo.apart,λy d k hy=>?_⟩,?_,λx hx=>?_⟩
 ·obtain⟨o,e⟩:=a.aO b hb; exact⟨o,hs.extBut b o (h0 b (.inl hb)) e⟩
 ·obtain⟨o,e⟩:=a.aM b hb; exact⟨o,hs.extBut b o (h0 b (.inr (.inl hb))) e⟩
 ·obtain⟨v,g1,g2,g3⟩:=a.eo.vars y d k hy
  exact⟨v,var _ _ g1,g2.seqs λb c vs q e=>hs.extBut b _ (jj0 hC e) e,g3⟩
 ·obtain⟨m',o,es,ep,ho,r⟩:=a.fo.ns
  exact⟨m',o,es,ep,hs.extBut _ _ hn ho,r⟩
 ·obtain⟨c,v,g1,g2⟩:=a.fo.cell x hx
  have:c≠C:=ji4 hC g2
  obtain⟨o,ho,hd⟩:=g2
  exact⟨c,v,g1,o,hs.extBut _ _ this ho,hd⟩
theorem qr4 {P:Avoid}{t':Shared}{Q:Flow->Shared->Prop}{np:Pos}{Z C:Addr}{m:Str->Option Value}(pl:Pl g O M P env)(a:Act g O M ρ env s)(hx:stOk ρ x=true)
  (k:Keeps s t') (hm:t'.heap.Ns C m) (hC:s.heap.get? C=none) (r:Rd O M t'.heap 0 (.ref Z) d)
  (q:∀fl s',FlOk O M s'.heap .next fl->Chg (PM P M) s s'->Act g O M (ρ.put x d 0) env s'->Q fl s') :
  compPost g.M A E (some (assign (.Name x np) env)) (λzw s'=>Q .next s') (.ref Z) C (.ok .next) t':=by
 have nl:∀b o,s.heap.get? b=some o->b≠C:=λb o e z=>by rw [z,hC] at e; cases e
 have hP:¬P C:=λz=>by obtain⟨o,e⟩:=a.aO C (pl.po C z); exact nl C o e rfl
 refine wpAny_assign_Name (jj4 pl (a.keeps k) hx r λs_2 c_2 a_2 sq=>?_)
 have hm_2:s_2.heap.Ns C m:=by
  obtain⟨o,es,ep,ho,rr⟩:=hm
  exact⟨o,es,ep,c_2.2 _ _ hP ho,rr⟩
 refine⟨m,hm_2,λh' hs'=>q _ _ rfl ?_ (Act.let (s_0:=s) a_2 hm_2 hs' ?_ λb hb=>?_)⟩
 ·obtain⟨⟨h_2,tk2,rfl⟩,k_2⟩:=c_2
  obtain⟨h_1,tk1,rfl,k_1⟩:=k
  exact⟨⟨h',tk2,rfl⟩,λb o hb e=>hs'.extBut b o (nl b o e) (k_2 b o (λz=>hb (.inl z)) (k_1 b o e))⟩
 ·obtain⟨m',o,es,ep,ho,_⟩:=a.fo.ns
  exact nl _ o ho
 ·rcases hb with hb | hb | ⟨o,hb⟩
  ·obtain⟨o,e⟩:=a.aO b hb; exact nl b o e
  ·obtain⟨o,e⟩:=a.aM b hb; exact nl b o e
  ·exact nl b o (a.up b o hb)
theorem jx5 (eo:EnvOk O M ρ env h)(elt:Expr)(gens:List Comprehension)(scope:Scope)(cp np:Pos)(x:Str)(l:Nat) :
  swapsWith (.ListComp elt gens scope cp) (some (.Name x np)) l env=pure (jf3 ρ scope x np cp):=by
 unfold swapsWith jf3
 have h1:env.blockKind=.function:=by unfold Env.blockKind; rw [eo.kind]; rfl
 have h2:env.kindOf x=ρ.sc.lookup x:=by unfold Env.kindOf; rw [eo.sc]
 simp only [h1,h2]
 have:(ScopeKind.function==ScopeKind.function)=true:=rfl
 rw [this,Bool.true_and]
 rfl
theorem qa8 {np p:Pos}{gens:List Comprehension}{scope:Scope}{cp:Pos}(ok:R.Ok g n)(hx:stOk ρ x=true)(hsw:jf3 ρ scope x np cp=true)(h:uk1 R ρ elt scope gens=some (d,0)) :
  StS g n ρ (.Assign [.Name x np] (.ListComp elt gens scope cp) p) .next (ρ.put x d 0):=λO M P env A s E Q pl rm a q=>by
 have sw:=jx5 a.eo elt gens scope cp np x p.line
 rw [hsw] at sw
 rw [exec_Assign_Name_used _ _ _ _ sw]
 refine wpAny_bind (wpAny_standAt (wpAny_bind ?_))
 match gens,h with
 | [⟨target,iter,ifs,a0⟩],h =>
  obtain⟨h0,h⟩:=gd h
  obtain rfl:a0=0:=h0
  show wpAny _ A (do let _ <- comprehension (.ListComp elt [⟨target,iter,ifs,0⟩] scope cp) scope env _ (newList []) false (eval iter env) (some (assign (.Name x np) env))) _ _ s
  refine wpAny_bind (wpAny_mono (Q:=λzw s'=>Q .next s') ?_ (λzw s' hq=>wpAny_pure (wpAny_pure hq)) λzw zw e=>e)
  refine bd h λxs hx' h=>bd (gd h).2 λitems hi h'=>bd h' λouts ho h'=>?_
  ((show let Q0:=_; wpAny _ _ _ Q0 _ _); intro Q0)
  have hc:=(gd h).1
  have hcap:=(gd h').1
  cases (gd h').2
  obtain⟨h1,h2⟩:=je9 ho
  exact ji5 rm (λit Z env'=>jq7 ..) (jd3 hc.1 env) hc.2.1 hc.2.2.1 (ok.i _ _ _ _ hi _ _) (jm4 hx') hx' hc.2.2.2 h1 (λO' P env' Z pl i d out a b=>(js0 ok (h2 i d out a b)).item rm pl) hcap a.up a.aO a.aM a.eo
   λZ C t' m k hm hC r=>qr4 pl a hx k hm hC r q
 | [⟨target,iter,ifs,a0⟩,⟨target',iter',ifs',a1⟩],h =>
  obtain⟨h0,h⟩:=gd h
  obtain rfl:a0=0:=h0.1
  obtain rfl:a1=0:=h0.2
  show wpAny _ A (do let _ <- comprehension (.ListComp elt [⟨target,iter,ifs,0⟩,⟨target',iter',ifs',0⟩] scope cp) scope env _ (newList []) false (eval iter env) (some (assign (.Name x np) env))) _ _ s
  refine wpAny_bind (wpAny_mono (Q:=λzw s'=>Q .next s') ?_ (λzw s' hq=>wpAny_pure (wpAny_pure hq)) λzw zw e=>e)
  refine bd h λxs hx' h=>bd h λxs' hx'' h=>bd (gd h).2 λitems hi h'=>bd h' λouts ho h'=>?_
  have hc:=(gd h).1
  have hcap:=(gd h').1
  cases (gd h').2
  obtain⟨h1,h2⟩:=je9 ho
  refine ji5 rm (λit Z env'=>qr5 ..) (jd3 hc.1 env) hc.2.2.1 hc.2.2.2.1 (ok.i _ _ _ _ hi _ _) (jm4 hx') hx' hc.2.2.2.2.1 h1 (λO' P env' Z pl i d out a b=>qc9 rm (jd3 hc.2.1) (jm4 hx'') hx' hx'' hc.2.2.2.2.2.1 hc.2.2.2.2.2.2 pl ?_) hcap a.up a.aO a.aM a.eo
   λZ C t' m k hm hC r=>qr4 ‹Pl g O M _ env› ‹Act g O M ρ env s› hx k hm hC r q
  exact qk9 ok (h2 i d out a b)
end
end
section
noncomputable def XOk (g:Glob) (n:Nat) (X:Rho->List Stmt->Option (Fl×Rho)):Prop:=∀ρ ss f ρ',X ρ ss=some (f,ρ')->RunS g n ρ ss f ρ'
theorem Act.impO {O':Avoid}(a:Act g O M ρ env s)(h:∀b,O' b->O b):Act g O' M ρ env s:=⟨a.up,λb hb=>a.aO b (h b hb),a.aM,a.eo.impO h,a.fo⟩
theorem FlOk.impO {O':Avoid}{f:Fl}{fl:Flow}(x:FlOk O M h f fl)(ho:∀b,O' b->O b):FlOk O' M h f fl:=by
 cases f with
 | next=>exact x
 | brk=>exact x
 | cont=>exact x
 | ret d=>obtain⟨v,k,e,r⟩:=x; exact⟨v,k,e,r.imp (λb zw h z=>h (ho b z)) (λzw zw zw a=>a) (Nat.le_refl _)⟩
theorem Act.chgW {W:Avoid}{t t':Shared}(a:Act g O M ρ env t)(ch:Chg W t t')(hWO:∀b,W b->O b)(kd:∀b,W b->∃o,t.heap.get? b=some o/\isFS o=true)(lv:∀b,W b->∃o,t'.heap.get? b=some o)(hg:∀b o,g.h.get? b=some o->¬W b):Act g O M ρ env t' :=
 ⟨ch.up a.up hg,ch.alloc a.aO λb zw hb=>lv b hb,ch.alloc a.aM λb zw hb=>lv b hb,a.eo.chgW ch hWO kd,a.fo.chgW ch kd⟩
theorem Chg.skip {P W:Avoid}{t t':Shared}(a:Chg P s t)(b:Chg W t t')(h:∀x,W x->s.heap.get? x=none):Chg P s t':=by
 refine⟨?_,λx o hx e=>b.2 x o (λz=>by rw [h x z] at e; cases e) (a.2 x o hx e)⟩
 obtain⟨h,tk,e⟩:=a.1
 obtain⟨h',tk',e'⟩:=b.1
 exact⟨h',tk',by rw [e',e]⟩
section
variable {g:Glob} {n:Nat} {ρ:Rho}
theorem bindP_sc {t:Expr}{xs:List Str}(hn:jb3 t=some xs)(h:js7 ρ t d=some ρ'):ρ'.sc=ρ.sc:=by
 obtain⟨ρ'',h1,h2⟩:=qd6 h
 rw [h2.sc,(ju5 h1 hn).1]
theorem st_for {X:Rho->List Stmt->Option (Fl×Rho)}(ok:XOk g n X){body:List Stmt}{p:Pos}{xs:List Str}{items:List D}{f:Fl}
  (hn:jb3 target=some xs) (hs:jh4 iter=true) (hx:xs.all (stOk ρ)=true) (I:IterS g n ρ (ttOf target) iter items) (hr:jp3 X target body items ρ=some (f,ρ')):StS g n ρ (.For target iter body [] p) f ρ':=λO M P env A s E Q pl rm a q=>by
 refine wpAny_For ?_ (jd3 hs env)
 refine I O M env A s E _ a.up rm a.aO a.aM a.eo λit s_1 W St k_1 it1=>?_
 have hW:∀b,W b->s.heap.get? b=none:=λb hb=>(it1.wnew b hb).1
 have hg:∀b o,g.h.get? b=some o->¬W b:=λb o e z=>by have:=a.up b o e; rw [hW b z] at this; cases this
 let O':Avoid:=λb=>O b\/W b
 have wdO:Wid O W O' s_1:=⟨λb h=>.inl h,λb h=>by rcases h with h | h; exact .inl h; exact .inr (.inl h)⟩
 have pl':Pl g O' M P env:=⟨pl.store,λb h=>.inl (pl.po b h),pl.pg,pl.live⟩
 have stX:∀(ρ1:Rho),ρ1.sc=ρ.sc->xs.all (stOk ρ1)=true:=λρ1 e=>by
  rw [List.all_eq_true] at hx ⊢
  intro x hx'
  have:=hx x hx'
  unfold stOk at this ⊢
  rw [e]; exact this
 have stP:∀{t t':Shared} {q:Nat},Chg (PM P M) t t'->St q t.heap->St q t'.heap:=λc x=>it1.frame _ _ _ x λb o ho hm zw e=>c.2 b o (λz=>by
  rcases z with z | z
  ·exact ho (pl.po b z)
  ·exact hm z) e
 have a_1:Act g O' M ρ env s_1:=by
  have a':=a.keeps k_1
  refine⟨a'.up,λb h=>?_,a'.aM,?_,a'.fo⟩
  ·rcases h with h | h
   ·exact a'.aO b h
   ·exact(it1.wnew b h).2
  ·exact(a.eo.wid (O':=O') λb h=>by
    rcases h with h | h
    ·exact .inl h
    ·exact .inr (hW b h)).keeps (ja0 k_1)
 refine codeAny_forLoop_any (prog:=g.prog) (w:=g.w) (λk t=>∃i ρi,k=items.length+1 - i/\i<=items.length/\ρi.sc=ρ.sc/\St i t.heap/\Act g O' M ρi env t/\Chg (PM P M) s t/\jp3 X target body (items.drop i) ρi=some (f,ρ')) ?_ (items.length+1)
  ⟨0,ρ,rfl,Nat.zero_le _,rfl,it1.start,a_1,Chg.ofK k_1,hr⟩
 intro k t hinv
 ((show let Q0:=_; let E0:=_; wpAny _ _ _ Q0 E0 _); intro Q0 E0)
 refine wp_q λQ_0 hQ0=>?_
 obtain⟨i,ρi,rfl,hi,hsc,st,at',ch,hrun⟩:=hinv
 have kd:=it1.kinds i _ st
 by_cases hlt:i < items.length
 ·have hd:items[i]?=some items[i]:=List.getElem?_eq_getElem hlt
  rw [List.drop_eq_getElem_cons hlt] at hrun
  refine bd hrun λρ1 hb hrun=>?_
  ((show let Q0:=_; wpAny _ _ _ Q0 _ _); intro Q0)
  refine' wpAny_mono (it1.item O' M i _ t target _ _ wdO Wid.refl (jm4 hn) hd st at'.aO at'.aM _) (λr t_1 h=>hQ0 _ _ (Exists.elim h λv h=>h.1 ▸ h.2)) λzw zw z=>z
  intro v t_2 chW rv st2
  have kd2:=it1.kinds _ _ st2
  have a_2:Act g O' M ρi env t_2:=at'.chgW chW (λb h=>.inr h) kd (λb h=>(kd2 b h).elim λo zq=>zq.elim λe zw=>⟨o,e⟩) hg
  refine jo7 rm.handled pl' a_2 hn (stX ρi hsc) rv hb λt_3 c_3 a_3=>?_
  ((show let Q0:=_; wpAny _ _ _ Q0 _ _); intro Q0)
  refine wp_q λQs hQs=>?_
  have ch3:Chg (PM P M) s t_3:=(ch.skip chW hW).trans c_3.pm
  have st3:St (i+1) t_3.heap:=stP c_3.pm st2
  have sc3:ρ1.sc=ρ.sc:=(bindP_sc hn hb).trans hsc
  refine bd hrun λr hX hgo=>?_
  refine ok _ _ r.1 r.2 hX O' M P env A t_3 _ _ pl' rm a_3 λfl t_4 h_1 c_4 a_4=>?_
  refine hQs _ _ ?_
  rcases go_el hgo with ⟨hf,hrun⟩ | ⟨hf,rfl,rfl⟩ | ⟨d,hf,rfl,rfl⟩
  ·rcases hf with hf | hf
   all_goals
    rw [hf] at h_1
    cases h_1
    exact⟨_,by grind,i+1,r.2,rfl,by assumption,a_4.eo.sc.symm.trans (a_3.eo.sc.trans sc3),stP c_4 st3,a_4,ch3.trans c_4,hrun⟩
  ·rw [hf] at h_1
   cases h_1
   exact q _ _ rfl (ch3.trans c_4) (a_4.impO λb h=>.inl h)
  ·rw [hf] at h_1
   obtain⟨v',k',rfl,r'⟩:=h_1
   exact q _ _ (FlOk.impO (f:=.ret d) ⟨v',k',rfl,r'⟩ λb h=>.inl h) (ch3.trans c_4) (a_4.impO λb h=>.inl h)
 ·have hie:i=items.length:=by grind
  subst hie
  rw [List.drop_length] at hrun
  cases hrun
  refine it1.done t _ _ st λt_1 chW=>hQ0 _ _ (wpAny_execs_nil (q _ _ rfl (ch.skip chW hW) ?_))
  have a1':=at'.impO (O':=O) λb h=>.inl h
  refine⟨chW.up a1'.up hg,?_,?_,?_,?_⟩
  ·intro b hb
   obtain⟨o,e⟩:=a1'.aO b hb
   exact⟨o,chW.2 b o (λz=>by obtain⟨o',e'⟩:=a.aO b hb; rw [hW b z] at e'; cases e') e⟩
  ·intro b hb
   obtain⟨o,e⟩:=a1'.aM b hb
   exact⟨o,chW.2 b o (λz=>by obtain⟨o',e'⟩:=a.aM b hb; rw [hW b z] at e'; cases e') e⟩
  ·exact(at'.eo.chgW chW (λb h=>.inr h) kd).impO λb h=>.inl h
  ·exact a1'.fo.chgW chW kd
end
end
section
section
variable {g:Glob} {n:Nat} {R:Ev}
theorem again {ρ2:Rho}{st:Stmt}{f:Fl}(h:run R k ρ2 [st]=some (f,ρ')):∃j,j < k/\jc9 R (run R j) ρ2 st=some (f,ρ'):=by
 cases k with
 | zero=>exact no h
 | succ j =>
  refine⟨j,Nat.lt_succ_self _,?_⟩
  refine bd (show(jc9 R (run R j) ρ2 st).bind (thn λρ'=>run R j ρ' [])=some (f,ρ') from h) λr hs h=>hs.trans ?_
  obtain⟨fl,ρ3⟩:=r
  cases fl with
  | next =>
   cases j with
   | zero=>exact no h
   | succ i=>exact h
  | _=>exact h
theorem st_while (okR:R.Ok g n)(m:Nat)(hm:∀j,j<=m->XOk g n (run R j)){t:Expr}{b:List Stmt}{p:Pos}{f:Fl}(h:jc9 R (run R m) ρ (.While t b [] p)=some (f,ρ')):StS g n ρ (.While t b [] p) f ρ':=by
 intro O M P env A s E Q pl rm a q
 refine wpAny_While ?_
 refine codeAny_whileLoop (prog:=g.prog) (w:=g.w) (λk t'=>∃ρk,k<=m/\Act g O M ρk env t'/\Chg (PM P M) s t'/\jc9 R (run R k) ρk (.While t b [] p)=some (f,ρ')) ?_ m ⟨ρ,Nat.le_refl _,a,Chg.refl,h⟩
 intro k t' hJ
 ((show let Q0:=_; let E0:=_; wpAny _ _ _ Q0 E0 _); intro Q0 E0)
 obtain⟨ρk,hk,ak,ch,hs⟩:=hJ
 refine bd (show qh7 R (run R k) ρk t b p=some (f,ρ') from hs) λc ht hs=>?_
 ((show let Q0:=_; wpAny _ _ _ Q0 _ _); intro Q0)
 refine(okR.t _ _ _ ht).act rm ak λs_1 k_1 a_1=>?_
 have ch1:=ch.trans (Chg.ofK k_1)
 cases c with
 | false=>cases hs; exact wpAny_execs_nil (q _ _ rfl ch1 a_1)
 | true =>
  refine bd (show(run R k ρk b).bind (go λρ'=>run R k ρ' [.While t b [] p])=some (f,ρ') from hs) λr hX hgo=>?_
  ((show let Q0:=_; wpAny _ _ _ Q0 _ _); intro Q0)
  refine hm k hk _ _ r.1 r.2 hX O M P env A s_1 _ _ pl rm a_1 λfl s_2 h_1 c_2 a_2=>?_
  rcases go_el hgo with ⟨hf,hrun⟩ | ⟨hf,rfl,rfl⟩ | ⟨d,hf,rfl,rfl⟩
  ·obtain⟨j,hj,e⟩:=again hrun
   rcases hf with hf | hf
   all_goals
    rw [hf] at h_1
    cases h_1
    exact⟨j,hj,r.2,Nat.le_trans (Nat.le_of_lt hj) hk,a_2,ch1.trans c_2,e⟩
  ·rw [hf] at h_1
   cases h_1
   exact q _ _ rfl (ch1.trans c_2) a_2
  ·rw [hf] at h_1
   obtain⟨v',k',rfl,r'⟩:=h_1
   exact q _ _ ⟨v',k',rfl,r'⟩ (ch1.trans c_2) a_2
theorem asgC_ok (okR:R.Ok g n){np p:Pos}{v:Expr}(hx:stOk ρ x=true)(h:asgC R ρ x np v=some ρ'):StS g n ρ (.Assign [.Name x np] v p) .next ρ':=by
 refine ue3 (P:=λv=>StS g n ρ (.Assign [.Name x np] v p) .next ρ') h λelt gens scope cp h=>?_
 refine put0E (show put0 ρ x (if jf3 ρ scope x np cp=true then uk1 R ρ elt scope gens else R.e ρ (.ListComp elt gens scope cp))=some ρ' from h) λd e=>fi e (λhs e=>qa8 okR hx hs e) λhs e =>
  qi1 hx (λO M env hh eo=>by rw [jx5 eo,Bool.eq_false_iff.mpr hs]) (okR.e _ _ _ _ e)
theorem ub1 (okR:R.Ok g n){np p:Pos}{v:Expr}(h:qh1 R ρ x np v=some ρ'):StS g n ρ (.Assign [.Name x np] v p) .next ρ' :=
 fi (gd h).2 (λhp h'=>put0E h' λd e=>qi1 (gd h).1 (λO M env hh eo=>ja7 hp _ _ _) (okR.e _ _ _ _ e)) λzw h'=>asgC_ok okR (gd h).1 h'
theorem nextPE {o:Option Rho}{r:Fl×Rho}{P:Fl×Rho->Prop}(h:qn9 o=some r)(k:∀ρ',o=some ρ'->P (.next,ρ')):P r:=bd h λρ' e h=>sm h (k ρ' e)
theorem asg1_ok (okR:R.Ok g n){t v:Expr}{p:Pos}{r:Fl×Rho}(h:asg1 R ρ v t=some r):StS g n ρ (.Assign [t] v p) r.1 r.2:=by
 cases t with
 | Name x np=>exact nextPE (P:=λr=>StS g n ρ (.Assign [.Name x np] v p) r.1 r.2) h λρ' e=>ub1 okR e
 | Tuple ts k q =>
  refine bd (show tupE R ρ ts k q v=some r from h) λxs hx h=>vE (gd h).2 λd kk he h'=>nextPE (P:=λr=>StS g n ρ (.Assign [.Tuple ts k q] v p) r.1 r.2) (gd h').2 λρ' hb=>?_
  have he:=okR.e _ _ _ _ ((gd h').1 ▸ he)
  exact qv5 hx (gd h).1.1 (gd h).1.2.1 (gd h).1.2.2 he hb
 | Subscript o i q =>
  refine bd (show((jb6 o).bind λx=>setE R ρ x i v)=some r from h) λx ho h=>qx6 (P:=λo=>StS g n ρ (.Assign [.Subscript o i q] v p) r.1 r.2) ho λnp=>?_
  refine vE (gd h).2 λd k he h'=>lE h' λxs k' hl h'=>iE h' λz kz hi h'=>sm (P:=λr:Fl×Rho=>StS g n ρ (.Assign [.Subscript (.Name x np) i q] v p) r.1 r.2) (gd h').2 ?_
  exact qv4 (gd h).1.1 (gd h).1.2.2.1 (gd h).1.2.2.2.2 ((gd h').1.2.1 ▸ hl) (okR.e _ _ _ _ ((gd h').1.1 ▸ he)) (okR.e _ _ _ _ hi) (gd h').1.2.2.1 (gd h').1.2.2.2
 | _=>exact no h
theorem asgE_ok (okR:R.Ok g n){ts:List Expr}{v:Expr}{p:Pos}{r:Fl×Rho}(h:asgE R ρ v ts=some r):StS g n ρ (.Assign ts v p) r.1 r.2 :=
 l12E (P:=λts=>StS g n ρ (.Assign ts v p) r.1 r.2) h (λt h=>asg1_ok okR h) λt t' h=>bd h λx hx h=>bd h λy hy h =>
  qx6 (P:=λt=>StS g n ρ (.Assign [t,t'] v p) r.1 r.2) hx λpx=>qx6 (P:=λt'=>StS g n ρ (.Assign [.Name x px,t'] v p) r.1 r.2) hy λpy =>
   vE (gd h).2 λd k he h'=>sm (P:=λr:Fl×Rho=>StS g n ρ (.Assign [.Name x px,.Name y py] v p) r.1 r.2) (gd h').2 (qv6 (gd h).1.1 (gd h).1.2.1 (gd h).1.2.2.2 (okR.e _ _ _ _ ((gd h').1 ▸ he)))
theorem exprE_ok (okR:R.Ok g n){p:Pos}{r:Fl×Rho}(h:exprE R ρ e=some r):StS g n ρ (.Expr e p) r.1 r.2:=by
 refine qj4 (P:=λe=>StS g n ρ (.Expr e p) r.1 r.2) h λf as ks cp h=>ue5 (P:=λf=>StS g n ρ (.Expr (.Call f as ks cp) p) r.1 r.2) h λo m ap h=>?_
 ·refine bd (show((jb6 o).bind λx=>l0 (l1 (appE R ρ x m ap cp) as) ks)=some r from h) λx hx h=>qx6 (P:=λo=>StS g n ρ (.Expr (.Call (.Attribute o m ap) as ks cp) p) r.1 r.2) hx λpx=>?_
  refine l0E (P:=λks=>StS g n ρ (.Expr (.Call (.Attribute (.Name x px) m ap) as ks cp) p) r.1 r.2) h λh=>l1E (P:=λas=>StS g n ρ (.Expr (.Call (.Attribute (.Name x px) m ap) as [] cp) p) r.1 r.2) h λa h=>?_
  exact lE (gd h).2 λxs k hl h'=>vE h' λd k' he h'=>sm (P:=λr:Fl×Rho=>StS g n ρ (.Expr (.Call (.Attribute (.Name x px) m ap) [a] [] cp) p) r.1 r.2) (gd h').2
   (uc5 (gd h).1.1 (gd h).1.2.1 (gd h).1.2.2.1 (gd h).1.2.2.2.1 (gd h).1.2.2.2.2 ((gd h').1.1 ▸ hl) (okR.e _ _ _ _ ((gd h').1.2.1 ▸ he)) (gd h').1.2.2)
theorem uc3 (okR:R.Ok g n)(m:Nat)(hall:∀j,j<=m->XOk g n (run R j)){st:Stmt}{r:Fl×Rho}(hs:jc9 R (run R m) ρ st=some r):StS g n ρ st r.1 r.2:=by
 cases st with
 | Pass p=>exact sm (P:=λr:Fl×Rho=>StS g n ρ (.Pass p) r.1 r.2) hs st_pass
 | Break p=>exact sm (P:=λr:Fl×Rho=>StS g n ρ (.Break p) r.1 r.2) hs st_break
 | Continue p=>exact sm (P:=λr:Fl×Rho=>StS g n ρ (.Continue p) r.1 r.2) hs st_cont
 | Return e p =>
  cases e with
  | none=>exact no hs
  | some e=>exact vE (show dkV (R.e ρ e) (λd zw=>some (Fl.ret d,ρ))=some r from hs) λd k he h=>sm (P:=λr:Fl×Rho=>StS g n ρ (.Return (some e) p) r.1 r.2) h (st_ret (okR.e _ _ _ _ he))
 | If t b o p =>
  refine bd (show iffE R (run R m) ρ t b o=some r from hs) λc ht h=>?_
  cases c with
  | true=>exact st_if (okR.t _ _ _ ht) (λzw=>hall m (Nat.le_refl _) _ _ _ _ h) nofun
  | false=>exact st_if (okR.t _ _ _ ht) nofun λzw=>hall m (Nat.le_refl _) _ _ _ _ h
 | While t b o p=>exact l0E (P:=λo=>StS g n ρ (.While t b o p) r.1 r.2) (show l0 (qh7 R (run R m) ρ t b p) o=some r from hs) λh=>st_while okR m hall h
 | For target iter body o p =>
  exact l0E (P:=λo=>StS g n ρ (.For target iter body o p) r.1 r.2) (show l0 (forE R (run R m) ρ target iter body) o=some r from hs) λh=>bd h λxs hx h=>bd (gd h).2 λitems hi h' =>
   st_for (hall m (Nat.le_refl _)) hx (gd h).1.1 (gd h).1.2 (okR.i _ _ _ _ hi) h'
 | Assign ts v p=>exact asgE_ok okR hs
 | AugAssign t op v p =>
  exact bd (show((jb6 t).bind λx=>augE R ρ x op v)=some r from hs) λx hx h=>qx6 (P:=λt=>StS g n ρ (.AugAssign t op v p) r.1 r.2) hx λpx =>
   vE (gd h).2 λa k hl h'=>vE h' λb kb he h'=>bd (gd h').2 λd hd h''=>sm (P:=λr:Fl×Rho=>StS g n ρ (.AugAssign (.Name x px) op v p) r.1 r.2) h'' (st_aug (gd h).1 ((gd h').1 ▸ hl) (okR.e _ _ _ _ he) hd)
 | Expr e p=>exact exprE_ok okR hs
 | _=>exact no hs
theorem run_ok (okR:R.Ok g n):∀m,XOk g n (run R m):=by
 intro m
 induction m using Nat.strongRecOn with
 | ind m ih =>
  intro ρ ss f ρ' h
  cases m with
  | zero=>exact no h
  | succ m =>
   have okm:=ih m (Nat.lt_succ_self _)
   cases ss with
   | nil=>cases h; exact run_nil
   | cons st rest =>
    refine bd (show(jc9 R (run R m) ρ st).bind (thn λρ'=>run R m ρ' rest)=some (f,ρ') from h) λr hs h=>?_
    have hst:=uc3 okR m (λj hj=>ih j (Nat.lt_succ_of_le hj)) hs
    obtain⟨fl,ρ1⟩:=r
    cases fl with
    | next=>exact run_cons hst (okm _ _ _ _ h)
    | _=>cases h; exact run_stop hst nofun
theorem qe3 (okR:R.Ok g n)(m:Nat){st:Stmt}{f_1:Fl}{ρ1:Rho}(hs:jc9 R (run R m) ρ st=some (f_1,ρ1)):StS g n ρ st f_1 ρ1:=uc3 okR m (λj zw=>run_ok okR j) hs
end
end
section
noncomputable abbrev No:Avoid:=λzw=>False
noncomputable def um7 (g:Glob) (n:Nat) (ρ:Rho) (ss:List Stmt) (d:D):Prop :=
 ∀(O P:Avoid) (env:Env) (A:Around) (s:Shared) (E:Value->Shared->Prop) (Q:Flow->Shared->Prop),Pl g O No P env->Room n A->Act g O No ρ env s →
  (∀v k s',Rd O No s'.heap k v d->Chg P s s'->Q (.ret v) s')->wpAny g.M A (execs ss env) Q E s
noncomputable def Rho.lvl0 (ρ:Rho):Rho:={ ρ with vars:=ρ.vars.map λp=>(p.1,(p.2.1,0)) }
theorem jp7 (x:Str):∀(l:List (Str×(D×Nat))),(l.map λp=>(p.1,(p.2.1,0))).lookup x=(l.lookup x).map λq=>(q.1,0)
 | []=>rfl
 | (y,q)::l=>by
  rw [List.map_cons,List.lookup_cons,List.lookup_cons,jp7 x l]
  cases x==y <;> rfl
theorem Act.lvl0 (a:Act g O M ρ env s):Act g O No ρ.lvl0 env s :=
 ⟨a.up,a.aO,λzw h=>h.elim,⟨a.eo.kind,a.eo.gl,a.eo.bl,a.eo.sc,a.eo.apart,λx d k hx=>by
  have hx:(ρ.vars.map λp=>(p.1,(p.2.1,0))).lookup x=some (d,k):=hx
  rw [jp7] at hx
  cases h:ρ.vars.lookup x with
  | none=>rw [h] at hx; cases hx
  | some q =>
   rw [h] at hx; cases hx
   obtain⟨v,g1,g2,_⟩:=a.eo.vars x q.1 q.2 h
   exact⟨v,g1,g2.free 0,λz=>absurd rfl z⟩⟩,a.fo⟩
noncomputable def BodyO (g:Glob) (n:Nat) (ρ:Rho) (ss:List Stmt) (d:D):Prop :=
 ∀(O M P:Avoid) (env:Env) (A:Around) (s:Shared) (E:Value->Shared->Prop) (Q:Flow->Shared->Prop),Pl g O M P env->Room n A->Act g O M ρ env s →
  (∀v k s',Rd O No s'.heap k v d->Chg (PM P M) s s'->Q (.ret v) s')->wpAny g.M A (execs ss env) Q E s
noncomputable def EvF (g:Glob) (n:Nat) (ρ:Rho) (e:Expr) (ds:List D):Prop :=
 ∀(O:Avoid) (env:Env) (A:Around) (s:Shared) (E:Value->Shared->Prop),g.Up s->Room n A->Alloc O s->EnvOk O No ρ env s.heap →
  wpAny g.M A (eval e env) (λv s'=>Keeps s s'/\∃a,v=.ref a/\s.heap.get? a=none/\Rd O No s'.heap 0 v (.list ds)) E s
section
variable {g:Glob} {n:Nat} {ρ:Rho}
theorem Chg.pno {P:Avoid}(c:Chg (PM P No) s s'):Chg P s s':=c.mono λb h=>h.elim id False.elim
theorem BodyO.r {ss:List Stmt}(x:BodyO g n ρ ss d):um7 g n ρ ss d:=λO P env A s E Q pl rm a q=>x O No P env A s E Q pl rm a λv k s' r c=>q v k s' r c.pno
theorem bo_cons {st:Stmt}{ss:List Stmt}(x:StS g n ρ st .next ρ')(y:BodyO g n ρ' ss d):BodyO g n ρ (st::ss) d:=λO M P env A s E Q pl rm a q =>
 wpAny_execs_cons (x O M P env A s E _ pl rm a λfl s' h c a'=>by
  cases h
  exact y O M P env A s' E Q pl rm a' λv k s'' r c'=>q v k s'' r (c.trans c'))
theorem bo_stop {st:Stmt}{ss:List Stmt}(x:StS g n ρ st (.ret d) ρ'):BodyO g n ρ (st::ss) d:=λO M P env A s E Q pl rm a q =>
 wpAny_execs_cons (x O M P env A s E _ pl rm a λfl s' h c a'=>by
  obtain⟨v,k,rfl,r⟩:=h
  exact q v 0 s' (r.free 0) c)
theorem bo_free {ss:List Stmt}(x:um7 g n ρ.lvl0 ss d):BodyO g n ρ ss d:=λO M P env A s E Q pl rm a q =>
 x O P env A s E Q ⟨pl.store,pl.po,λb o e=>⟨(pl.pg b o e).1,id⟩,pl.live⟩ rm a.lvl0 λv k s' r c=>q v k s' r c.pm
theorem uj2 (x:EvS g n ⟨ρ.sc,[]⟩ e (.list ds) 0):EvF g n ρ e ds:=λO env A s E u rm aO eo=>by
 refine wpAny_mono (x O (λb=>(s.heap.get? b).isSome=true) env A s E u rm aO (λb hb=>Option.isSome_iff_exists.mp hb) ⟨eo.kind,eo.gl,eo.bl,eo.sc,eo.apart,λy d k hy=>by cases hy⟩) (λv s' ⟨k,r⟩=>⟨k,?_⟩) λzw zw z=>z
 obtain⟨a,vs,m,rfl,h1,h2,h3,h4,h5⟩:=jc5 r
 refine⟨a,rfl,?_,r.free 0⟩
 have:=h5 rfl
 cases h:s.heap.get? a with
 | none=>rfl
 | some o=>exact absurd (by rw [h]; rfl) this
theorem evf_rep {l i:Expr}{xs:List Int}{z:Int}{ka kb:Nat}(x:EvS g n ρ l (qj9 xs) ka)(y:EvS g n ρ i (.int z) kb)(h0:0<=z)(h:xs.length*z.toNat<=cap)(h2:z<=cap):EvF g n ρ (.BinOp l .Mult i pos) (repL (xs.map .int) z.toNat):=λO env A s E u rm aO eo=>by
 refine wpAny_BinOp (x.use u rm aO (λzw h=>h.elim) eo λva s_1 k_1 r_1 u_1 o_1 m_1 e_1=>y.use u_1 rm o_1 m_1 e_1 λvb s_2 k_2 r_2 u_2 o_2 m_2 e_2=>?_)
 ((show let Q0:=_; wpAny _ _ _ Q0 _ _); intro Q0)
 obtain⟨a,vs,m,rfl,g1,g2,g3,g4,g5⟩:=jc5 (r_1.keeps (ja0 k_2))
 obtain⟨t,rfl⟩:=ja4 r_2
 obtain⟨ys,e1,e2⟩:=jf5 g3
 have ra:Rd O (λb=>(s_2.heap.get? b).isSome=true) s_2.heap 1 (.ref a) (qj9 xs):=.list g4 (λz=>by cases z) g1 g2 (by rw [e1,<- e2]; exact jd2 ys)
 refine wpAny_mono (ul7 (g:=g) (n:=n) (ka:=1) (kb:=0) h0 (by rw [List.length_map]; exact h) h2 (Nat.le_refl _) O _ A s_2 E _ _ rm o_2 (λb hb=>Option.isSome_iff_exists.mp hb) ra .int) (λv s' ⟨k,r⟩=>⟨ja1 k_1 (ja1 k_2 k),?_⟩) λzw zw z=>z
 obtain⟨a',vs',m',rfl,q1,q2,q3,q4,q5⟩:=jc5 r
 refine⟨a',rfl,?_,r.free 0⟩
 have nz:=q5 rfl
 cases hh:s.heap.get? a' with
 | none=>rfl
 | some o=>exact absurd (by rw [ja0 (ja1 k_1 k_2) _ _ hh]; rfl) nz
theorem Rd.fresh (ha:h.get? a=Option.none)(e:k=0)(x:Rd O No h k v d):Rd O (λb=>b=a) h k v d :=
 x.gen (λzw zw=>True) (λzw=>trivial) (λzw p zw c=>⟨p,λzw z=>(by rw [z,ha] at c; cases c),c⟩) trivial
end
end
section
theorem Rd.list_inv {vs:Array Value}(e:h.get? a=some { cls:=.type "list",data:=.seq vs n })(p:jc6 d=true)(y:Rd O M h k (.ref a) d):∃k' ds,d=.list ds/\Rds O M h k' vs.toList ds:=by
 cases y with
 | obj=>simp [objD,jc6] at p
 | list g1 g2 g3 g4 g5=>rw [e] at g4; injection g4 with g4; injection g4 with _ _ g4 _; injection g4 with g4 _; exact⟨_,_,rfl,g4 ▸ g5⟩
 | tup g1 g2 g3 g4 g5=>rw [e] at g4; injection g4 with g4; injection g4 with g4 _ _ _; injection g4 with g4; exact absurd g4 (by decide)
theorem Rd.tup_inv {vs:Array Value}(e:h.get? a=some { cls:=.type "tuple",data:=.seq vs n })(p:jc6 d=true)(y:Rd O M h k (.ref a) d):∃k' ds,d=.tuple ds/\Rds O M h k' vs.toList ds:=by
 cases y with
 | obj=>simp [objD,jc6] at p
 | tup g1 g2 g3 g4 g5=>rw [e] at g4; injection g4 with g4; injection g4 with _ _ g4 _; injection g4 with g4 _; exact⟨_,_,rfl,g4 ▸ g5⟩
 | list g1 g2 g3 g4 g5=>rw [e] at g4; injection g4 with g4; injection g4 with g4 _ _ _; injection g4 with g4; exact absurd g4 (by decide)
theorem Rd.fun {O' M':Avoid}{k':Nat}{d':D}(p:jc6 d=true)(p':jc6 d'=true)(x:Rd O M h k v d)(y:Rd O' M' h k' v d'):d=d' :=
 Rd.rec (motive_1:=λzw v d zw=>∀k' d',jc6 d=true->jc6 d'=true->Rd O' M' h k' v d'->d=d') (motive_2:=λzw v d zw=>∀k' d',plainDs d=true->plainDs d'=true->Rds O' M' h k' v d'->d=d')
  (λzw zw zw zw y=>by cases y; rfl) (λzw zw zw zw y=>by cases y; rfl) (λzw zw zw zw y=>by cases y; rfl) (λzw zw zw zw y=>by cases y; rfl) (λzw zw p zw zw=>by simp [objD,jc6] at p)
  (λzw zw zw h4 zw i zw zw p p' y=>(y.list_inv h4 p').elim λzw z=>z.elim λzw z=>z.1 ▸ congrArg PyData.list (i _ _ (jl7 p) (jl7 (z.1 ▸ p')) z.2))
  (λzw zw zw h4 zw i zw zw p p' y=>(y.tup_inv h4 p').elim λzw z=>z.elim λzw z=>z.1 ▸ congrArg PyData.tuple (i _ _ (jo3 p) (jo3 (z.1 ▸ p')) z.2))
  (λzw zw zw zw y=>by cases y; rfl) (λzw zw i j zw zw p p' y=>by
   cases y with
   | cons a b=>rw [i _ _ (jd0 p).1 (jd0 p').1 a,j _ _ (jd0 p).2 (jd0 p').2 b]) x _ _ p p' y
theorem Rds.part {M':Avoid}{big:D}{kb:Nat}(hp:jc6 big=true)(hb:Rd O M h kb (.ref a) big){v:List Value}{d:List D}(p:plainDs d=true)(s:sizeOf d < sizeOf big)(x:Rds O M' h k v d):Rds O (λb=>b=a) h 0 v d :=
 Rds.rec (motive_1:=λzw v d zw=>jc6 d=true->sizeOf d < sizeOf big->Rd O (λb=>b=a) h 0 v d) (motive_2:=λzw v d zw=>plainDs d=true->sizeOf d < sizeOf big->Rds O (λb=>b=a) h 0 v d)
  (λzw zw=>.none) (λzw zw=>.bool) (λzw zw=>.int) (λzw zw=>.str) (λzw zw=>.obj)
  (λh1 h2 h3 h4 h5 i p s=>.list h1 (λzw z=>Nat.lt_irrefl _ ((hb.fun hp p (z ▸ Rd.list h1 h2 h3 h4 h5)) ▸ s)) h3 h4 (i (jl7 p) (Nat.lt_trans (by simp) s)))
  (λh1 h2 h3 h4 h5 i p s=>.tup h1 (λzw z=>Nat.lt_irrefl _ ((hb.fun hp p (z ▸ Rd.tup h1 h2 h3 h4 h5)) ▸ s)) h3 h4 (i (jo3 p) (Nat.lt_trans (by simp) s)))
  (λzw zw=>.nil) (λzw zw i j p s=>.cons (i (jd0 p).1 (Nat.lt_of_le_of_lt (by simp; (simp +arith)) s)) (j (jd0 p).2 (Nat.lt_of_le_of_lt (by simp) s))) x p s
section
variable {g:Glob} {n:Nat} {ρ:Rho}
theorem no_own (h:OwnV No v):False:=(h).elim λa zq=>zq.elim λzw e=>(e a).mpr rfl
theorem br_own {np p:Pos}{rest:List Stmt}(hx:stOk ρ x=true)(hv:∀(O M:Avoid) (env:Env) (h:Heap),EnvOk O M ρ env h->swapsWith e (some (.Name x np)) p.line env=pure false)(ev:EvF g n ρ e ds)(hpl:plainDs ds=true)(y:BodyO g n (ρ.put x (.list ds) 1) rest d) :
  um7 g n ρ (.Assign [.Name x np] e p::rest) d:=λO P env A s E Q pl rm a q=>by
 refine wpAny_execs_cons (wpAny_Assign_Name ?_ (hv O No env _ a.eo))
 refine wpAny_mono (ev O env A s E a.up rm a.aO a.eo) (λv s_1 hJ0=>?_) λzw zw z=>z
 obtain⟨k_1,l,hl,hnew,r_1⟩:=hJ0
 subst hl
 have a_1:=a.keeps k_1
 obtain⟨l',vs,m,e',h1,h2,h3,h4,_⟩:=jc5 r_1
 cases e'
 let M:Avoid:=λb=>b=l
 have own:OwnV M (.ref l):=⟨l,rfl,λb=>Iff.rfl⟩
 have items:Rds O M s_1.heap 0 vs.toList ds:=Rds.part (by simpa [jc6] using hpl) r_1 hpl (by first | grind | simp) h3
 have eo:EnvOk O M ρ env s_1.heap:=⟨a.eo.kind,a.eo.gl,a.eo.bl,a.eo.sc,a.eo.apart,λy dd k hy=>by
  obtain⟨w,g1,g2,g3⟩:=a.eo.vars y dd k hy
  have hk:k=0:=by
   cases k with
   | zero=>rfl
   | succ k=>exact(no_own (g3 (by first | grind | simp))).elim
  subst hk
  exact⟨w,g1.keeps (ja0 k_1),(g2.fresh hnew rfl).keeps (ja0 k_1),λz=>absurd rfl z⟩⟩
 have hs:=qe4 a.eo hx
 have plM:Pl g O M P env:=⟨pl.store,pl.po,λb o e=>⟨(pl.pg b o e).1,λz=>by have:=a.up b o e; rw [z,hnew] at this; cases this⟩,pl.live⟩
 refine jq5 eo a_1.fo hs (.list h4 (λz=>by cases z) h1 h2 items:Rd O M s_1.heap 1 (.ref l) (.list ds)) (λzw=>own) λh' tk st eo' fo'=>?_
 have ch:Chg P s_1 { s_1 with heap:=h',toks:=tk }:=⟨⟨h',tk,rfl⟩,λb o hb e=>st.same.extBut b o (λz=>hb (z ▸ pl.store x hs)) e⟩
 have lv:=pl.live { s_1 with heap:=h',toks:=tk } fo'
 have aM:Alloc M { s_1 with heap:=h',toks:=tk }:=λb hb=>by
  have hb:b=l:=hb
  subst hb
  exact⟨_,st.seqs _ _ _ _ h2⟩
 refine y O M P env A _ E Q plM rm ⟨ch.up a_1.up λb o e=>(pl.pg b o e).1,ch.alloc a_1.aO λb zw hb=>lv b hb,aM,eo'.same (Same.refl.put _ _ _),fo'⟩ λv k s' r c=>q v k s' r ?_
 have:Chg (PM P M) s s':=((Chg.ofK k_1).trans ch.pm).trans c
 refine⟨this.1,λb o hb e=>this.2 b o (λz=>?_) e⟩
 rcases z with z | z
 ·exact hb z
 ·have z:b=l:=z
  rw [z,hnew] at e; cases e
end
end
theorem Rd.wide {O':Avoid}(ho:∀b,(h.get? b).isSome=true->¬O b->¬M b->¬O' b)(e:k=0)(x:Rd O M h k v d):Rd O' No h k v d :=
 x.gen (λk k'=>k=0/\k'=0) jq4 (λe a b c=>⟨ho _ (c ▸ rfl) a (b e.1),λzw=>id,c⟩) ⟨e,e⟩
theorem Rds.wide {O':Avoid}(ho:∀b,(h.get? b).isSome=true->¬O b->¬M b->¬O' b){v:List Value}{d:List D}(e:k=0)(x:Rds O M h k v d):Rds O' No h k v d :=
 x.gen (λk k'=>k=0/\k'=0) jq4 (λe a b c=>⟨ho _ (c ▸ rfl) a (b e.1),λzw=>id,c⟩) ⟨e,e⟩
theorem vs0 {Q:List Value->Prop}(k:Q [])(vs:List Value)(h:vs.length=0):Q vs:=List.eq_nil_of_length_eq_zero h ▸ k
theorem vsS {Q:List Value->Prop}(k:∀a vs,vs.length=n->Q (a::vs))(vs:List Value)(h:vs.length=n+1):Q vs:=by
 cases vs with
 | nil=>cases h
 | cons a vs=>exact k a vs (Nat.succ.inj h)
theorem jv1 {Q:List Value->Prop}(h:∀a,Q [a]):∀vs:List Value,vs.length=1->Q vs:=vsS λa=>vs0 (Q:=λt=>Q (a::t)) (h a)
theorem jw9 {Q:List Value->Prop}(h:∀a b,Q [a,b]):∀vs:List Value,vs.length=2->Q vs:=vsS λa=>jv1 (Q:=λt=>Q (a::t)) (h a)
theorem qe0 {Q:List Value->Prop}(h:∀a b c,Q [a,b,c]):∀vs:List Value,vs.length=3->Q vs:=vsS λa=>jw9 (Q:=λt=>Q (a::t)) (h a)
noncomputable def jc7 (clv:List (Str×D)):List (Str×(D×Nat)):=clv.map λp=>(p.1,(p.2,0))
theorem jj3 (x:Str):∀(l:List (Str×D)),(jc7 l).lookup x=(l.lookup x).map λd=>(d,0)
 | []=>rfl
 | (y,d)::l=>by
  unfold jc7
  rw [List.map_cons,List.lookup_cons,List.lookup_cons]
  have:=jj3 x l
  unfold jc7 at this
  rw [this]
  cases x==y <;> rfl
structure Clos (O M:Avoid) (h:Heap) (cl:List (Str×Addr)) (clv:List (Str×D)):Prop where
 at_:∀x d,clv.lookup x=some d->∃c v,cl.lookup x=some c/\h.IsCell c (some v)/\Rd O M h 0 v d
 only:∀x c,cl.lookup x=some c->∃d,clv.lookup x=some d
 apart:∀x y c,cl.lookup x=some c->cl.lookup y=some c->x=y
noncomputable def jh7 (names:List (Str×NameKind)) (clv:List (Str×D)):Bool:=names.all (λp=>names.lookup p.1==some p.2) && clv.all λp=>names.lookup p.1==some .free && p.1 != ("__classdict__":Str)
set_option tactic.hygienic true in
theorem jx6 {g:Glob}{A:Around}{E:Value->Shared->Prop}{O P:Avoid}{env:Env}(pl:Pl g O No P env):∀(xs:List Str) (vs:List Value) (ds:List D) (ρ ρ':Rho) (s:Shared) (Q:PUnit->Shared->Prop),je1 ρ xs ds=some ρ'->xs.all (stOk ρ)=true->Rds O No s.heap 0 vs ds->Act g O No ρ env s →
  (∀s',Chg P s s'->Act g O No ρ' env s'->Q ⟨⟩ s')->wpAny g.M A (forIn (xs.zip vs) PUnit.unit λx r=>do storeName env x.1 x.2; pure (ForInStep.yield ⟨⟩)) Q E s
 | [],vs,ds,ρ,ρ',s,Q,h1,h2,r,a,q=>by
  cases ds with
  | nil=>cases h1; exact wpAny_pure (q s Chg.refl a)
  | cons _ _=>cases h1
 | x::xs,vs,ds,ρ,ρ',s,Q,h1,h2,r,a,q=>by
  cases ds with
  | nil=>cases h1
  | cons d ds =>
   cases r with | cons r rs =>
   rename_i v vs
   simp only [List.all_cons,Bool.and_eq_true] at h2
   rw [List.zip_cons_cons,List.forIn_cons]
   refine wpAny_bind (wpAny_bind (jj4 pl a h2.1 r λs_1 c_1 a_1 sq=>wpAny_pure ?_))
   exact jx6 pl xs vs ds (ρ.put x d 0) ρ' s_1 Q h1 h2.2 (rs.seqs sq) a_1 λs' c a'=>q s' (c_1.trans c) a'
structure FnData (fd:FuncData) (body:List Stmt):Prop where
 body:fd.body=.stmts body
 gl:fd.globals=mainGlobals
 bl:fd.builtins=builtinsNs
 kind:fd.scope.kind=.function
 co:fd.scope.isCoroutine=false
 gen:fd.scope.isGenerator=false
theorem wp_frame {E':Value->Shared->Prop}{R:Env->Shared->Prop}{fd:FuncData}{params:List Str}{vs:List Value}{clv:List (Str×D)}
  (u:g.Up s) (rm:Room (n+1) A) (aO:Alloc O s) (aM:Alloc M s) (hkind:fd.scope.kind=.function) (hgl:fd.globals=mainGlobals) (hbl:fd.builtins=builtinsNs) (hbind:bindArgs fd ⟨vs,[]⟩=pure (params.zip vs))
  (rs:Rds O M s.heap 0 vs ds) (hcl:Clos O M s.heap fd.closure clv) (hnm:jh7 fd.scope.names clv=true) (hps:params.all (stOk ⟨fd.scope.names,jc7 clv⟩)=true) (hρ:je1 ⟨fd.scope.names,jc7 clv⟩ params ds=some ρ)
  (q:∀O' P env s_2,Pl g O' No P env->Room n (A.deeper env)->Act g O' No ρ env s_2->(∀s',Chg P s_2 s'->Keeps s s')->(∀h v k d,Rd O' No h k v d->Rd O M h 0 v d)->R env s_2) :
  wpAny g.M A.in1 (bindArgs fd ⟨vs,[]⟩) (λbinds s_1=>wpAny g.M A.in1 (newFunctionEnv fd.scope fd.globals fd.closure binds (fd.qualname++".<locals>.") (some a) fd.code none fd.builtins) (λenv s_2=>s_2.heap.NoLimit/\R env s_2) E s_1) E' s:=by
 have hrd:=rm.depth
 have hru:=rm.units
 rw [hbind]
 refine wpAny_pure (jq6 λh_1 cs lay=>?_)
 generalize henv:newEnv fd.scope s.heap.objs.size fd.globals cs (fd.qualname++".<locals>.") (some a) fd.code none fd.builtins=env
 revert henv
 revert env
 refine id ?_
 intro env henv
 have n1:env.scope.kind=.function:=by rw [<- henv]; exact hkind
 have n2:env.globals=mainGlobals:=by rw [<- henv]; exact hgl
 have n3:env.builtins=builtinsNs:=by rw [<- henv]; exact hbl
 have n4:env.scope.names=fd.scope.names:=by rw [<- henv]; rfl
 have n5:env.cells=cs:=by rw [<- henv]; rfl
 have n6:env.locals=s.heap.objs.size:=by rw [<- henv]; rfl
 unfold jh7 at hnm
 rw [Bool.and_eq_true] at hnm
 have nm1:∀x k,(x,k)∈fd.scope.names->fd.scope.names.lookup x=some k:=λx k h=>by
  have:=List.all_eq_true.mp hnm.1 _ h
  simpa using this
 have nm2:∀x d,clv.lookup x=some d->fd.scope.names.lookup x=some .free/\(x==("__classdict__":Str))=false:=λx d h=>by
  have:=List.all_eq_true.mp hnm.2 _ (PySem.mem_of_lookup h)
  simpa using this
 let P:Avoid:=λb=>b=s.heap.objs.size\/∃x,(x,NameKind.cell)∈fd.scope.names/\cs.lookup x=some b
 have hPge:∀b,P b->@LE.le Nat _ s.heap.objs.size b:=λb hb=>by
  rcases hb with hb | ⟨x,hx,hc⟩
  ·rw [hb]; exact Nat.le_refl _
  ·rcases lay.look x with ⟨c,h1,h2,_⟩ | ⟨h1,_⟩
   ·rw [hc] at h1; cases h1; exact Nat.le_of_lt h2
   ·exact absurd hx h1
 have hPn:∀b,P b->s.heap.get? b=none:=λb hb=>je5 (ja3 s) (hPge b hb)
 let O':Avoid:=λb=>O b\/M b\/P b
 have live:∀(t:Shared),FrameOk env t.heap->∀b,P b->∃o,t.heap.get? b=some o:=λt fo b hb=>by
  rcases hb with hb | ⟨x,hx,hc⟩
  ·obtain⟨m,o,_,_,e,_⟩:=fo.ns; exact⟨o,by rw [hb,<- n6]; exact e⟩
  ·obtain⟨c,v,e1,o,e2,_⟩:=fo.cell x (by unfold Env.kindOf; rw [n4]; exact nm1 x _ hx)
   rw [n5,hc] at e1; cases e1
   exact⟨o,e2⟩
 have pl:Pl g O' No P env:=by
  refine⟨λx hx=>?_,λb h=>.inr (.inr h),λb o e=>⟨λz=>(by have:=u b o e; rw [hPn b z] at this; cases this),id⟩,live⟩
  rcases hx with hx | hx
  ·left; unfold jl3; rw [hx]; exact n6
  ·right
   have hm:(x,NameKind.cell)∈fd.scope.names:=by unfold Env.kindOf at hx; rw [n4] at hx; exact PySem.mem_of_lookup hx
   refine⟨x,hm,?_⟩
   unfold jl3; rw [hx]
   rcases lay.look x with ⟨c,h1,h2,_⟩ | ⟨h1,_⟩
   ·rw [n5,h1]; rfl
   ·exact absurd hm h1
 have hO':∀b,(s.heap.get? b).isSome=true->¬O b->¬M b->¬O' b:=λb hb ho hm z=>by
  rcases z with z | z | z
  ·exact ho z
  ·exact hm z
  ·rw [hPn b z] at hb; cases hb
 have k_1:Keeps s { s with heap:=h_1 }:=⟨h_1,s.toks,rfl,lay.keep⟩
 have fo1:FrameOk env h_1:=by
  refine⟨⟨_,n6 ▸ lay.ns⟩,λx hx=>?_⟩
  have hm:(x,NameKind.cell)∈fd.scope.names:=by unfold Env.kindOf at hx; rw [n4] at hx; exact PySem.mem_of_lookup hx
  rcases lay.look x with ⟨c,h1,h2,h3,_⟩ | ⟨h1,_⟩
  ·exact⟨c,none,by rw [n5]; exact h1,h3⟩
  ·exact absurd hm h1
 have clt:∀x c,fd.closure.lookup x=some c->@LT.lt Nat _ c s.heap.objs.size:=λx c hx=>by
  obtain⟨dd,hd⟩:=hcl.only x c hx
  obtain⟨c',v,e1,e2,_⟩:=hcl.at_ x dd hd
  rw [hx] at e1; cases e1
  exact e2.lt
 have eo1:EnvOk O' No ⟨fd.scope.names,jc7 clv⟩ env h_1:=by
  refine⟨n1,n2,n3,n4,by rw [n5]; exact lay.apart hcl.apart clt,λx dd k hx=>?_⟩
  have hx:(jc7 clv).lookup x=some (dd,k):=hx
  rw [jj3] at hx
  cases hd:clv.lookup x with
  | none=>rw [hd] at hx; cases hx
  | some d_0 =>
   rw [hd] at hx; cases hx
   obtain⟨c,v,e1,e2,e3⟩:=hcl.at_ x _ hd
   obtain⟨f1,f2⟩:=nm2 x _ hd
   refine⟨v,.inr ⟨.inr ⟨by unfold Env.kindOf; rw [n4]; exact f1,f2⟩,c,?_,e2.keeps lay.keep⟩,(e3.wide hO' rfl).keeps lay.keep,λz=>absurd rfl z⟩
   rw [n5]
   rcases lay.look x with ⟨c',h1,h2,h3,h4⟩ | ⟨h1,h2⟩
   ·rw [nm1 x _ h4] at f1; cases f1
   ·rw [h2]; exact e1
 have a_1:Act g O' No ⟨fd.scope.names,jc7 clv⟩ env { s with heap:=h_1 }:=by
  refine⟨u.keeps k_1,λb hb=>?_,λzw h=>h.elim,eo1,fo1⟩
  rcases hb with hb | hb | hb
  ·exact aO.keeps k_1 b hb
  ·exact aM.keeps k_1 b hb
  ·exact live { s with heap:=h_1 } fo1 b hb
 refine jx6 pl params vs ds _ ρ { s with heap:=h_1 } _ hρ hps ((rs.wide hO' rfl).keeps lay.keep) a_1 λs_2 c_2 a_2=>⟨g.lim.keeps a_2.up,?_⟩
 refine q O' P env s_2 pl ⟨rm.handled,by show A.depth+1+2*n+2 < recursionLimit; grind,by show A.units+3+30*n+60 < cLine; grind⟩ a_2 (λs' c=>?_) λh v k d r=>(r.free 0).imp (λb zw h z=>h (.inl z)) (λb zw h zw z=>h (.inr (.inl z))) (Nat.le_refl _)
 have ch:Chg P s s':=(Chg.ofK k_1).trans (c_2.trans c)
 obtain⟨⟨h,tk,e⟩,kp⟩:=ch
 refine⟨h,tk,e,λb o eb=>?_⟩
 have:=kp b o (λz=>by rw [hPn b z] at eb; cases eb) eb
 rw [e] at this; exact this
theorem qb1 {o:Obj}{fd:FuncData}{body:List Stmt}{params:List Str}{vs:List Value}{clv:List (Str×D)}
  (u:g.Up s) (rm:Room (n+1) A) (aO:Alloc O s) (aM:Alloc M s) (ho:s.heap.get? a=some o) (hdata:o.data=.func fd) (F:FnData fd body) (hcd:s.heap.CodeRec fd.code fd.qualname) (hbind:bindArgs fd ⟨vs,[]⟩=pure (params.zip vs))
  (rs:Rds O M s.heap 0 vs ds) (hcl:Clos O M s.heap fd.closure clv) (hnm:jh7 fd.scope.names clv=true) (hps:params.all (stOk ⟨fd.scope.names,jc7 clv⟩)=true) (hρ:je1 ⟨fd.scope.names,jc7 clv⟩ params ds=some ρ) (hbody:um7 g n ρ body d)
  (q:∀v s',Keeps s s'->Rd O M s'.heap 0 v d->Q v s'):wpAny g.M A (call (.ref a) vs) Q E s :=
 wpAny_call (codeAny_call_function (prog:=g.prog) (w:=g.w) (by have:=rm.depth; grind) ho hdata F.co F.gen F.body hcd (wp_frame u rm aO aM F.kind F.gl F.bl hbind rs hcl hnm hps hρ λO' P env s_2 pl rm' a_2 kp rd=>codeAny_func (hbody O' P env (A.deeper env) s_2 _ _ pl rm' a_2 λv k s' r c=>q v s' (kp s' c) (rd _ _ _ _ r))))
theorem qu2 {c:Value}{dd:Option Addr}{fd:FuncData}{sl:Array (Option Value)}{body:List Stmt}{params:List Str}
  (hK:g.K.lookup a=some ⟨c,dd,.func fd,sl⟩) (F:FnData fd body) (hclo:fd.closure=[]) (hcd:g.h.CodeRec fd.code fd.qualname) (hbind:∀vs:List Value,vs.length=params.length->bindArgs fd ⟨vs,[]⟩=pure (params.zip vs))
  (hlen:params.length=ds.length) (hnm:jh7 fd.scope.names []=true) (hps:params.all (stOk ⟨fd.scope.names,[]⟩)=true) (hρ:je1 ⟨fd.scope.names,[]⟩ params ds=some ρ) (hbody:um7 g n ρ body d):jc1 g (n+1) (.ref a) ds 0 d 0 :=
 λO M A s E vs u rm aO aM rs=>qb1 (clv:=[]) u rm aO aM (u _ _ (g.X _ _ hK)) rfl F (hcd.keeps u) (hbind vs (by rw [rs.length,hlen])) rs (by rw [hclo]; exact⟨λx d h=>(by cases h),λx c h=>(by cases h),λx y c h=>(by cases h)⟩) hnm hps hρ hbody λv s' k r=>⟨k,r⟩
set_option backward.match.sparseCases false
section
theorem ud7 {vs:List Value}{e f:D}(r:Rds O M h k vs [d,e,f]):∃v w x,vs=[v,w,x]/\Rd O M h k v d/\Rd O M h k w e/\Rd O M h k x f:=by
 exact r.three_inv
theorem qe8 {vs:List Value}(r:Rds O M h k vs [d]):∃v,vs=[v]/\Rd O M h k v d:=by
 exact r.one_inv
theorem Rds.of {O M:Avoid}{h:Heap}{k:Nat}:∀{vs:List Value} {ds:List D},vs.length=ds.length->(∀(j:Nat) v d,vs[j]?=some v->ds[j]?=some d->Rd O M h k v d)->Rds O M h k vs ds
 | [],[],_,_=>.nil
 | [],_::_,h,_=>by cases h
 | _::_,[],h,_=>by cases h
 | v::vs,d::ds,h,r=>.cons (r 0 v d rfl rfl) (Rds.of (by simpa using h) λj v d h1 h2=>r (j+1) v d (by simpa using h1) (by simpa using h2))
section
variable {g:Glob} {n:Nat} {ρ:Rho}
theorem uj1 {p1 p2 pos':Pos}{e_1 e_2 e_3:Expr}{a b c:Int}(N:Names g)(hcl:Callee g "list" (.type "list"))(hsc:ρ.sc.lookup ("range":Str)=some .globalImplicit)(hsl:ρ.sc.lookup ("list":Str)=some .globalImplicit)(x:EvS g n ρ e_1 (.int a) k)(y:EvS g n ρ e_2 (.int b) k)(z:EvS g n ρ e_3 (.int c) k)
  (hs:[e_1,e_2,e_3].all jb1=true) (h:jo8 a b c=true) (hz:(jd9 a b c).length<=cap) :
  EvF g n ρ (.Call (.Name "list" p2) [.Call (.Name "range" p1) [e_1,e_2,e_3] [] pos] [] pos') ((jd9 a b c).map .int):=λO env A s E u rm aO eo=>by
 have hs':=hs
 simp only [List.all_cons,List.all_nil,Bool.and_true,Bool.and_eq_true] at hs'
 have aN:Alloc No s:=λzw h=>h.elim
 cases hcl with
 | ty l1 l2 l3 =>
 cases N.range with
 | ty h1 h2 h3 =>
  refine Call_ (jb7 u eo hsl l1 l2 l3 (by decide) (PySem.callWith_type (ja9 rfl) (ja8 rfl ?_)))
  refine wpAny_items_cons ?_ rfl
  refine Call_ (jb7 u eo hsc h1 h2 h3 (by decide) (PySem.callWith_type (ja9 hs) (ja8 hs (wpAny_mono ((jh0 x (jh0 y (jh0 z jj2 hs'.2.2) hs'.2.1) hs'.1) O No env A s E pos u rm aO aN eo) (λvs sa hJ0=>?_) λzw zw z=>z))))
  obtain⟨k_1,r_1⟩:=hJ0
  obtain⟨v_1,v_2,v_3,rfl,ra,rb,rc⟩:=ud7 r_1
  obtain⟨t_1,rfl⟩:=ja4 ra
  obtain⟨t_2,rfl⟩:=ja4 rb
  obtain⟨t_3,rfl⟩:=ja4 rc
  obtain⟨z1,z2,z3⟩:=jr4 h
  have hcz:0 < c/\c<=1000:=by
   unfold jo8 at h
   simp only [Bool.and_eq_true,decide_eq_true_eq] at h
   exact⟨h.1.2,h.2⟩
  refine call_range_3 (by grind) ?_ (Or.inl (PyProof.noPylong_small (by grind)))
  refine wpAny_items_nil ?_
  have hn:Builtin.Range.rangeSize a b c=((Builtin.Range.rangeSize a b c).toNat:Int):=(Int.toNat_of_nonneg z1).symm
  refine call_list_range (n:=(Builtin.Range.rangeSize a b c).toNat) rm.handled (Heap.get?_push_size _ rfl) z3 hn (by grind) λh' tk acc' c' hk hS hI=>?_
  have k_2:Keeps sa { sa with heap:=h',toks:=tk }:=⟨h',tk,rfl,λb o e=>hk b o (Heap.get?_push_of_some _ e)⟩
  have kk:=ja1 k_1 k_2
  have hlen:(jd9 a b c).length=(Builtin.Range.rangeSize a b c).toNat:=by simp [jd9]
  refine⟨kk,_,rfl,je5 k_1 (by rw [Heap.size_push]; exact Nat.le_succ _),?_⟩
  obtain⟨i1,i2⟩:=hI
  refine .list (λz=>?_) (λzw=>id) (by rw [i1,<- hlen]; exact hz) hS (Rds.of (by rw [Array.length_toList,i1,List.length_map,hlen]) λj v d h1 h2=>?_)
  ·obtain⟨o,e⟩:=aO.keeps k_1 _ z
   have:@LT.lt Nat _ _ _:=Heap.lt_size e
   rw [Heap.size_push] at this
   omega
  ·rw [Array.getElem?_toList] at h1
   obtain⟨t,rfl⟩:=i2 j v h1
   unfold jd9 at h2
   simp only [List.map_map,List.getElem?_map,Option.map_eq_some_iff] at h2
   obtain⟨q,hq,rfl⟩:=h2
   obtain⟨hl,rfl⟩:=List.getElem?_eq_some_iff.mp hq
   simp only [List.getElem_range,Function.comp]
   exact .int
end
noncomputable def repE (R:Ev) (ρ:Rho) (l i:Expr):Operator->Option (List D)
 | .Mult=>dkL (R.e ρ l) λds zw=>dkI (R.e ρ i) λz zw=>(jq9 ds).bind λis=>if 0<=z/\is.length*z.toNat<=cap/\z<=cap then some (repL (is.map .int) z.toNat) else none
 | _=>none
noncomputable def binF (R:Ev) (ρ:Rho) (e:Expr):Option (List D):=onBin (λl op i zw=>repE R ρ l i op) e
noncomputable def rng3 (R:Ev) (ρ:Rho) (f f':Str):List Expr->Option (List D)
 | []=>none
 | a::r=>l12 (λzw=>none) (λb c=>if (f==("list":Str))=true/\(f'==("range":Str))=true/\ρ.sc.lookup f=some .globalImplicit/\ρ.sc.lookup f'=some .globalImplicit/\[a,b,c].all jb1=true then
  dkI (R.e ρ a) λx zw=>dkI (R.e ρ b) λy zw=>dkI (R.e ρ c) λz zw=>if jo8 x y z=true/\(jd9 x y z).length<=cap then some ((jd9 x y z).map .int) else none else none) r
noncomputable def rngF (R:Ev) (ρ:Rho) (e:Expr):Option (List D):=(ua7 e).bind λq=>l1 (λc=>(ua7 c).bind λq'=>rng3 R ρ q.1 q'.1 q'.2) q.2
noncomputable def qt2 (R:Ev) (ρ:Rho) (e:Expr):Option (List D) :=
 orE (binF R ρ e) id (orE (rngF R ρ e) id (dkL (R.e ⟨ρ.sc,[]⟩ e) λds k=>if k=0 then some ds else none))
section
variable {g:Glob} {n:Nat} {R:Ev} {ρ:Rho}
theorem binF_ok (ok:R.Ok g n)(h:binF R ρ e=some ds):EvF g n ρ e ds:=by
 refine onBin_el (P:=λe=>EvF g n ρ e ds) h λl op i p h=>?_
 cases op <;> try exact no h
 refine lE (show dkL (R.e ρ l) (λds zw=>dkI (R.e ρ i) λz zw=>(jq9 ds).bind λis=>if 0<=z/\is.length*z.toNat<=cap/\z<=cap then some (repL (is.map .int) z.toNat) else none)=some ds from h) λxs k hl h=>iE h λz kz hz h=>bd h λis hi h=>sm (gd h).2 ?_
 exact evf_rep (ok.e _ _ _ _ (jh2 hi ▸ hl)) (ok.e _ _ _ _ hz) (gd h).1.1 (gd h).1.2.1 (gd h).1.2.2
theorem rng3_ok (N:Names g)(hcl:Callee g "list" (.type "list"))(ok:R.Ok g n){f f':Str}{as:List Expr}{p p' pos':Pos}(h:rng3 R ρ f f' as=some ds):EvF g n ρ (.Call (.Name f p) [.Call (.Name f' p') as [] pos] [] pos') ds:=by
 cases as with
 | nil=>exact no h
 | cons a r =>
  refine l12E (P:=λr=>EvF g n ρ (.Call (.Name f p) [.Call (.Name f' p') (a::r) [] pos] [] pos') ds) h (λzw h=>no h) λb c h=>?_
  obtain⟨⟨e1,e2,hsc,hsc',hs⟩,h2⟩:=gd h
  obtain rfl:=beq_iff_eq.mp e1
  obtain rfl:=beq_iff_eq.mp e2
  exact iE h2 λx zw hx h=>iE h λy zw hy h=>iE h λz zw hz h=>sm (gd h).2 (uj1 (k:=9) N hcl hsc' hsc (ok.e _ _ _ _ hx).up' (ok.e _ _ _ _ hy).up' (ok.e _ _ _ _ hz).up' hs (gd h).1.1 (gd h).1.2)
theorem ui3 (N:Names g)(hcl:Callee g "list" (.type "list"))(ok:R.Ok g n)(h:qt2 R ρ e=some ds):EvF g n ρ e ds :=
 jm9 h (λa ha z=>binF_ok ok (ha.trans (congrArg some z))) λh=>jm9 h
  (λa ha z=>bd ha λq hq ha=>qh0 (P:=λe=>EvF g n ρ e ds) hq λp pos=>l1E (P:=λas=>EvF g n ρ (.Call (.Name q.1 p) as [] pos) ds) ha λc ha=>bd ha λq' hq' ha =>
   qh0 (P:=λc=>EvF g n ρ (.Call (.Name q.1 p) [c] [] pos) ds) hq' λp' pos'=>rng3_ok N hcl ok (ha.trans (congrArg some z)))
  λh=>lE h λxs k hr h=>sm (gd h).2 (uj2 (ok.e _ _ _ _ ((gd h).1 ▸ hr)))
end
noncomputable def uf0 (ρ:Rho) (x:Str) (np:Pos):Expr->Bool
 | .ListComp _ _ scope cp=>!jf3 ρ scope x np cp
 | e=>jk6 e
noncomputable def fin (B:Rho->Option D) (r:Fl×Rho):Option D:=match r.1 with
 | .next=>B r.2
 | .brk=>none
 | .cont=>none
 | .ret d=>some d
noncomputable def qc0 (R:Ev) (X:Rho->List Stmt->Option (Fl×Rho)) (B:Rho->List Stmt->Option D) (ρ:Rho) (st:Stmt) (rest:List Stmt):Option D:=(jc9 R X ρ st).bind (fin λρ'=>B ρ' rest)
noncomputable def nameA (st:Stmt):Option (Str×Pos×Expr×Pos):=onAsg (λts e p=>l1 (λt=>(nmP t).bind λx=>some (x.1,x.2,e,p)) ts) st
theorem uf2 {st:Stmt}{q:Str×Pos×Expr×Pos}(h:nameA st=some q):st=.Assign [.Name q.1 q.2.1] q.2.2.1 q.2.2.2:=by
 refine onAsg_el (P:=λst=>st=.Assign [.Name q.1 q.2.1] q.2.2.1 q.2.2.2) h λts e p h=>l1E (P:=λts=>Stmt.Assign ts e p=_) h λt h=>bd h λx hx h=>?_
 cases h
 rw [nmP_inv hx]
noncomputable def ownB (R:Ev) (B:Rho->List Stmt->Option D) (ρ:Rho) (x:Str) (np:Pos) (e:Expr) (rest:List Stmt):Option D :=
 if stOk ρ x=true/\uf0 ρ x np e=true then (qt2 R ρ.lvl0 e).bind λds=>if plainDs ds=true then B (ρ.lvl0.put x (.list ds) 1) rest else none else none
noncomputable def qg1 (owns:List Str) (st:Stmt):Option (Str×Pos×Expr×Pos):=(nameA st).bind λq=>if owns.contains q.1=true then some q else none
noncomputable def bodyStep (R:Ev) (owns:List Str) (X:Rho->List Stmt->Option (Fl×Rho)) (B:Rho->List Stmt->Option D) (ρ:Rho):List Stmt->Option D
 | []=>none
 | st::rest=>(match qg1 owns st with
  | some q=>ownB R B ρ q.1 q.2.1 q.2.2.1 rest
  | none=>qc0 R X B ρ st rest)
noncomputable def jf8 (R:Ev) (owns:List Str):Nat->Rho->List Stmt->Option D
 | 0,_,_=>none
 | n+1,ρ,ss=>bodyStep R owns (run R n) (jf8 R owns n) ρ ss
theorem notT {b:Bool}(h:(!b)=true):b=false:=by cases b <;> first | rfl | exact nb h | cases h
theorem ue9 {np p:Pos}(h:uf0 ρ x np e=true){hh:Heap}(eo:EnvOk O M ρ.lvl0 env hh):swapsWith e (some (.Name x np)) p.line env=pure false:=by
 cases e with
 | ListComp elt gens scope cp =>
  rw [jx5 eo]
  show(pure (jf3 ρ scope x np cp):Sem Bool)=pure false
  rw [notT (show(!jf3 ρ scope x np cp)=true from h)]
 | SetComp=>cases h
 | DictComp=>cases h
 | _=>exact ja7 rfl _ _ _
theorem js6 {g:Glob}{n:Nat}{R:Ev}{owns:List Str}(N:Names g)(hcl:Callee g "list" (.type "list"))(ok:R.Ok g n):∀(m:Nat) {ρ:Rho} {ss:List Stmt} {d:D},jf8 R owns m ρ ss=some d->BodyO g n ρ ss d
 | 0,ρ,ss,d,h=>no h
 | m+1,ρ,[],d,h=>no h
 | m+1,ρ,st::rest,d,h=>by
  have h:(match qg1 owns st with | some q=>ownB R (jf8 R owns m) ρ q.1 q.2.1 q.2.2.1 rest | none=>qc0 R (run R m) (jf8 R owns m) ρ st rest)=some d:=h
  cases ho:qg1 owns st with
  | none =>
   rw [ho] at h
   refine bd (show(jc9 R (run R m) ρ st).bind (fin λρ'=>jf8 R owns m ρ' rest)=some d from h) λr hs h=>?_
   obtain⟨fl,ρ'⟩:=r
   cases fl with
   | next=>exact bo_cons (qe3 ok m hs) (js6 N hcl ok m h)
   | ret d'=>cases h; exact bo_stop (qe3 ok m hs)
   | _=>exact no h
  | some q =>
   rw [ho] at h
   have hq:nameA st=some q:=bd ho λq' e z=>(gd z).2 ▸ e
   rw [uf2 hq]
   refine bd (gd h).2 λds hf h'=>?_
   exact bo_free (br_own (gd h).1.1 (λO M env hh eo=>ue9 (gd h).1.2 eo) (ui3 N hcl ok hf) (gd h').1 (js6 N hcl ok m (gd h').2))
end
set_option backward.match.sparseCases true
section
open PySem.Builtin PySem.Builtin.ObjectAttr PySem.Builtin.Getset_descriptor
section
variable {prog:Program} {w:World} {A:Around} {E:Value->Shared->Prop} {s:Shared} {K:Frag} {x C p dx:Addr} {ox ox' od od':Obj} {name:Str} {v:Value} {i:Nat} {Q:Unit->Shared->Prop}
theorem qv9 {odo:Option Obj}(X:K.In s.heap)(I:InstAt s.heap x ox C odo)(hp:slotIn K p C=some i)(hi:i < 1000)
  (e:{ ox with slots:=(ox.slots++Array.replicate (i+1 - ox.slots.size) none).setIfInBounds i (some v) }=ox') (hf:ox'.isFreed=false)
  (h:∀h',Heap.SameBut x s.heap h'->h'.get? x=some ox'->R (.ok (.ret .none)) { s with heap:=h' }) :
  codeAny (model prog w) A (.call (.builtin "member_descriptor.__set__") ⟨[.ref p,.ref x,v],[]⟩) R s:=by
 obtain⟨n,tn,owner,behind,tb,d,sl,cd,ho,hc,hm,hb,rfl⟩:=slot_of X hp
 have hx:=I.at_
 have U2:(s.heap.update x λo=>{ o with slots:=(o.slots++Array.replicate (cd.slotNames.length - 1 - behind.toNat+1 - o.slots.size) none).setIfInBounds (cd.slotNames.length - 1 - behind.toNat) (some v) }).get? x=some ox':=by
  have:=Heap.get?_update_self (λo:Obj=>{ o with slots:=(o.slots++Array.replicate (cd.slotNames.length - 1 - behind.toNat+1 - o.slots.size) none).setIfInBounds (cd.slotNames.length - 1 - behind.toNat) (some v) }) hx (by rw [e]; exact hf)
  rw [this,e]
 obtain⟨hh,g,dr,t,os⟩:=s
 have L0:=I.type (M:=model prog w)
 have L1:=looks_mroIn (M:=model prog w) X hm
 have L2:Looks (model prog w) hh (Slots.slotNamesOf (.ref C)) cd.slotNames:=(looks_clsIn X hc).andThen .now
 dsimp only at ho hx L0 L1
 have f0:=looks_field (M:=model prog w) ho 0 (v:=.str n tn) rfl
 have f1:=looks_field (M:=model prog w) ho 1 (v:=owner) rfl
 have f3:=looks_field (M:=model prog w) ho 3 (v:=.builtin "proto.slot#set") rfl
 have f4:=looks_field (M:=model prog w) ho 4 (v:=.int behind tb) rfl
 refine codeAny_call_builtin KF.slot_mset.plain KF.entry_mset (KF.slot_mset.check _ _ _ _ _ _ _ _ ⟨_,ho,rfl⟩ (KF.args_mset _ _ _) ?_)
 unfold Builtin.«member_descriptor.__set__» descrSet descrStoreThrough descrCheckInstance descrNameAndClass isInstance
 have f5:Looks (model prog w) hh (descrItself (.ref p)) [.ref p]:=((Looks.ld (part:=none) ho).andThen .now).andThen (Looks.of_pure (by kernel_rfl))
 repeat lk
 refine⟨Code.quiet_builtin _ (by decide +kernel),codeAny_builtin KF.entry_slotset ?_⟩
 unfold Builtin.«proto.slot#set» Slots.target
 repeat lk
 rw [if_neg hb]
 refine wpAny_pure (wpAny_bind ?_)
 unfold setSlotAt
 dsimp only
 rw [if_neg (by rw [sizeLine_eq]; grind)]
 exact wpAny_updatePart hx (wpAny_pure (h _ (Heap.SameBut.update ..) U2))
theorem jo1 {odo:Option Obj}(X:K.In s.heap)(I:InstAt s.heap x ox C odo)(hs:findIn K (.ref C) "__setattr__"=some (some (.builtin "object.__setattr__")))(hp:plainOver K C=true)(ht:takerIn K C name=some (some (.ref p)))(hT:typeIn K (.ref p)=some (.type "member_descriptor"))(hi:slotIn K p C=some i)(hz:i < 1000)
  (e:{ ox with slots:=(ox.slots++Array.replicate (i+1 - ox.slots.size) none).setIfInBounds i (some v) }=ox') (hf:ox'.isFreed=false)
  (h:∀h',Heap.SameBut x s.heap h'->h'.get? x=some ox'->Q () { s with heap:=h',toks:=s.toks+1 }):wpAny (model prog w) A (setAttr (.ref x) name v) Q E s :=
 set_plain X I hs (osa_descr (s:={ s with toks:=s.toks+1 }) KF.slot_mset X I hp ht hT (qv9 (s:={ s with toks:=s.toks+1 }) X I hi hz e hf λh' h1 h2=>h h' h1 h2))
set_option tactic.hygienic true in
theorem qx3 {tk:Tok}{es:List DictEntry}(X:K.In s.heap)(I:InstAt s.heap x ox C (some od))(hd:ox.dict=some dx)(hp:plainOver K C=true)(ht:takerIn K C name=some none)(hh:(clsIn K C).any (·.hasDict)=true)
  (hl:(lookIn name od).isSome=true) (e:Obj.putName name (PyData.keyHash w.params name) (.str name s.toks) v od=od') (e':od'.data=.dict es.toArray n) (hz:es.length<=1000)
  (h:∀h',Heap.SameBut dx s.heap h'->h'.get? dx=some od'->R (.ok (.ret .none)) { s with heap:=h',toks:=s.toks+1 }) :
  codeAny (model prog w) A (.call (.builtin "object.__setattr__") ⟨[.ref x,.str name tk,v],[]⟩) R s:=by
 refine osa_open X I hp ht λb=>?_
 ((show let Q0:=_; wpAny _ _ _ Q0 _ _); intro Q0)
 obtain⟨cd,hc,hd'⟩:=any_some hh
 obtain⟨hx,hcl,hn,D⟩:=I
 obtain⟨oc,odi,oda,osl⟩:=ox
 dsimp only at hcl hd D
 subst hcl hd
 dsimp only at D
 have D':(s.heap.update dx (Obj.putName name (PyData.keyHash w.params name) (.str name s.toks) v)).get? dx=some od':=by
  have:=Heap.get?_update_self (Obj.putName name (PyData.keyHash w.params name) (.str name s.toks) v) D (by rw [e]; obtain⟨_,_,dd,_⟩:=od'; cases e'; rfl)
  rw [this,e]
 refine wpAny_bind (wpAny_pure (wpAny_bind (wpAny_bind (wpAny_loadPart hx (wpAny_bind ((looks_clsIn X hc).here ?_))))))
 rw [hd']
 refine wpAny_pure (a:=some dx) (wpAny_bind (wpAny_pure (wpAny_bind ?_)))
 unfold nsSet
 refine wpAny_bind (wpAny_bind (wpAny_askSetting (wpAny_pure (wpAny_bind (wpAny_mkText (wpAny_bind (wpAny_loadPart D ?_)))))))
 unfold lookIn at hl
 split at hl
 ·rename_i es0 n_0 q
  rw [q]
  dsimp only
  have c:(!es0.any (·.key.isStr name) && es0.any (·.refKey))=false:=by
   rw [<- Array.any_toList,<- Array.any_toList]
   split at hl
   ·rename_i en he
    rw [List.any_eq_true.mpr ⟨en,List.mem_of_find?_eq_some he,List.find?_some he⟩]; rfl
   ·split at hl
    ·cases hl
    ·rename_i z; rw [Bool.not_eq_true] at z; rw [z,Bool.and_false]
  rw [aRefKeyMayBeTheName_at,c]
  refine wpAny_updatePart D ?_
  refine wpAny_bind (wpAny_lookBehind D' (by rw [e']; exact pastItsLine_dict (by rw [List.size_toArray,sizeLine_eq]; (exact Nat.le_trans (by assumption) (by decide)))) ?_)
  exact wpAny_pure (h _ (Heap.SameBut.update ..) D')
 ·cases hl
theorem jg3 {es es':List DictEntry}{n':Nat}(X:K.In s.heap)(I:InstAt s.heap x ox C (some (dictOf es n)))(hd:ox.dict=some dx)
  (hs:findIn K (.ref C) "__setattr__"=some (some (.builtin "object.__setattr__"))) (hp:plainOver K C=true) (ht:takerIn K C name=some none) (hh:hasDictIn K C=true) (hl:(getL name es).isSome=true)
  (e:(PySem.W.putL name (PyData.keyHash w.params name) (.str name (s.toks+1)) v es,putN name es n)=(es',n')) (hz:es'.length<=1000)
  (h:∀h',Heap.SameBut dx s.heap h'->h'.get? dx=some (dictOf es' n')->Q () { s with heap:=h',toks:=s.toks+2 }) :
  wpAny (model prog w) A (setAttr (.ref x) name v) Q E s:=by
 obtain⟨e1,e2⟩:=Prod.mk.inj e
 exact set_plain X I hs (qx3 (s:={ s with toks:=s.toks+1 }) X I hd hp ht hh hl (by rw [putName_dict,e1,e2]) rfl hz λh' h1 h2=>h h' h1 h2)
end
end
section
open PySem.Builtin PySem.Builtin.ObjectAttr PySem.Builtin.Getset_descriptor
section
variable {prog:Program} {w:World} {A:Around} {E:Value->Shared->Prop} {s:Shared} {K:Frag} {x C p dx:Addr} {ox od:Obj} {name:Str} {v:Value} {i:Nat}
theorem js3 {expr:Bool}{attr:Option Value}{es:List DictEntry}(X:K.In s.heap)(I:InstAt s.heap x ox C (some (dictOf es n)))(hg:plainGet K C name=true)(hh:hasDictIn K C=true)
  (ha:findIn K (.ref C) name=some attr) (hn:noGet K attr=true) (hl:getL name es=some (some v)) (hv:handedIn v=true) (h:Q v { s with toks:=s.toks+1 }):wpAny (model prog w) A (getAttr (.ref x) name expr) Q E s :=
 get_value X I (plainGet_of hg).1 (findObj_own hh ha hn hl) hv h
theorem jt9 {expr:Bool}(X:K.In s.heap)(I:InstAt s.heap x ox C (some od))(hg:plainGet K C name=true)(hc:isClsIn K C=true)
  (ha:findIn K (.ref C) name=some (some (.ref p))) (hn:specialIn K (.ref p) "__get__"=some (some (.builtin "member_descriptor.__get__"))) (ht:takesIn K (.ref p)=some true) (hp:slotIn K p C=some i)
  (hv:(ox.slots[i]?).join=some v) (hh:handedIn v=true) (h:Q v { s with toks:=s.toks+1 }):wpAny (model prog w) A (getAttr (.ref x) name expr) Q E s :=
 get_bind X I (plainGet_of hg).1 (findObj_data hc ha hn ht) (plainGet_of hg).2 (wpAny_call (slot_get (s:={ s with toks:=s.toks+1 }) X I hp hv (handed_on hh h)))
theorem uf6 {pl:Sem Bool}{Q:Value×List Value->Shared->Prop}{f:Addr}{es:List DictEntry}(X:K.In s.heap)(I:InstAt s.heap x ox C (some (dictOf es n)))(hg:plainGet K C name=true)
  (hf:findIn K (.ref C) name=some (some (.ref f))) (ht:isFn K (.ref f)=true) (hl:getL name es=some none) (h:Q (.ref f,[.ref x]) s):wpAny (model prog w) A (getMethod (.ref x) name pl) Q E s :=
 method_fn X I (plainGet_of hg).1 (plainGet_of hg).2 hf (beq_iff_eq.mp ht) (by show(lookIn name (dictOf es n)).map _=_; rw [lookIn_dict,hl]; rfl) h
theorem ug0 {rest:List Value}{fI:Addr}(X:K.In s.heap)(hm:makesIn K C=true)(hi:findIn K (.ref C) "__init__"=some (some (.ref fI)))(hf:typeIn K (.ref fI)=some (.type "function"))
  (h:codeAny (model prog w) (A.under (.builtin "type.__call__" ⟨.ref C::rest,[]⟩)) (.call (.ref fI) ⟨.ref (s.heap.objs.size+1)::rest,[]⟩) (InitBack (s.heap.objs.size+1) R) { s with heap:=(s.heap.push emptyDict).push (instObj C s.heap.objs.size) }) :
  codeAny (model prog w) A (.call (.ref C) ⟨rest,[]⟩) R s:=by
 obtain⟨hh,g,d,t,os⟩:=s
 exact make_core (makes_of X hm) (looks_findIn X hi) (λself=>bind_fn X self hf) (.inl rfl) h
end
end
section
noncomputable def Cx (W F:Avoid) (s s':Shared):Prop :=
 (∃h' tk,s'={ s with heap:=h',toks:=tk })/\∀b o,¬W b->s.heap.get? b=some o->(∃sl,s'.heap.get? b=some { o with slots:=sl })/\(¬F b->s'.heap.get? b=some o)
section
variable {W W' F F':Avoid} {s s' s'':Shared}
theorem Cx.of_keeps (k:Keeps s s'):Cx W F s s':=by
 obtain⟨h,t,rfl,k⟩:=k
 exact⟨⟨h,t,rfl⟩,λb o zw e=>⟨⟨o.slots,k b o e⟩,λzw=>k b o e⟩⟩
theorem Cx.refl:Cx W F s s:=.of_keeps (ja3 s)
theorem Cx.of_chg (k:Chg W s s'):Cx W F s s':=⟨k.1,λb o hb e=>⟨⟨o.slots,k.2 b o hb e⟩,λzw=>k.2 b o hb e⟩⟩
theorem Cx.step {W0 F0:Avoid}{s_0:Shared}(x:Cx W0 F0 s_0 s)(y:Cx W F s s')(hW:∀b,W b->W0 b\/s_0.heap.get? b=none)(hF:∀b,F b->F0 b\/s_0.heap.get? b=none):Cx W0 F0 s_0 s':=by
 refine⟨?_,λb o hb e=>?_⟩
 ·obtain⟨h,t,rfl⟩:=x.1
  obtain⟨h',t',e⟩:=y.1
  exact⟨h',t',e⟩
 ·have nW:¬W b:=λz=>by
   rcases hW b z with z | z
   ·exact hb z
   ·rw [z] at e; cases e
  obtain⟨⟨sl,e1⟩,k1⟩:=x.2 b o hb e
  obtain⟨⟨sl',e2⟩,_⟩:=y.2 b _ nW e1
  refine⟨⟨sl',e2⟩,λhf=>(y.2 b o nW (k1 hf)).2 λz=>?_⟩
  rcases hF b z with z | z
  ·exact hf z
  ·rw [z] at e; cases e
theorem Cx.mono (x:Cx W F s s')(hW:∀b,W b->W' b)(hF:∀b,F b->F' b):Cx W' F' s s' :=
 ⟨x.1,λb o hb e=>⟨(x.2 b o (λz=>hb (hW b z)) e).1,λhf=>(x.2 b o (λz=>hb (hW b z)) e).2 λz=>hf (hF b z)⟩⟩
theorem Cx.less (x:Cx W' F' s s')(hW:∀b,W' b->W b\/s.heap.get? b=none)(hF:∀b,F' b->F b\/s.heap.get? b=none):Cx W F s s':=(Cx.refl (s:=s)).step x hW hF
theorem Cx.ns {m:Str->Option Value}(x:Cx W F s s')(h:¬W a)(n:s.heap.Ns a m):s'.heap.Ns a m:=by
 obtain⟨o,es,ep,e,hd,r⟩:=n
 obtain⟨⟨sl,e1⟩,_⟩:=x.2 a o h e
 exact⟨_,es,ep,e1,hd,r⟩
theorem Cx.cell {v:Option Value}(x:Cx W F s s')(h:¬W a)(n:s.heap.IsCell a v):s'.heap.IsCell a v:=by
 obtain⟨o,e,hd⟩:=n
 obtain⟨⟨sl,e1⟩,_⟩:=x.2 a o h e
 exact⟨_,e1,hd⟩
theorem Cx.off (x:Cx W F s s')(hW:∀b,W b->O b)(hF:∀b,F b->O b):∀b o,¬O b->s.heap.get? b=some o->s'.heap.get? b=some o :=
 λb o hb e=>(x.2 b o (λz=>hb (hW b z)) e).2 λz=>hb (hF b z)
theorem Cx.up (x:Cx W F s s')(u:g.Up s)(h:∀b o,g.h.get? b=some o->¬W b/\¬F b):g.Up s':=λb o e=>(x.2 b o (h b o e).1 (u b o e)).2 (h b o e).2
noncomputable def um5 (env:Env) (b:Addr):Prop:=b≠env.locals/\∀x c,env.cells.lookup x=some c->b≠c
theorem Cx.envOk (x:Cx W F s s')(e:EnvOk O M ρ env s.heap)(hW:∀b,W b->O b/\um5 env b)(hF:∀b,F b->O b):EnvOk O M ρ env s'.heap:=by
 refine⟨e.kind,e.gl,e.bl,e.sc,e.apart,λy d k hy=>?_⟩
 obtain⟨v,h1,h2,h3⟩:=e.vars y d k hy
 refine⟨v,?_,h2.off (x.off (λb hb=>(hW b hb).1) hF),h3⟩
 rcases h1 with ⟨a,m,b,c⟩ | ⟨a,c,b,d⟩
 ·exact .inl ⟨a,m,x.ns (λz=>(hW _ z).2.1 rfl) b,c⟩
 ·exact .inr ⟨a,c,b,x.cell (λz=>(hW _ z).2.2 _ _ b rfl) d⟩
theorem Cx.frameOk (x:Cx W F s s')(e:FrameOk env s.heap)(hW:∀b,W b->um5 env b):FrameOk env s'.heap:=by
 obtain⟨⟨m,h1⟩,h2⟩:=e
 refine⟨⟨m,x.ns (λz=>(hW _ z).1 rfl) h1⟩,λy hy=>?_⟩
 obtain⟨c,v,h3,h4⟩:=h2 y hy
 exact⟨c,v,h3,x.cell (λz=>(hW _ z).2 _ _ h3 rfl) h4⟩
end
structure Frm (g:Glob) (A:Around) (F:Avoid) (h:Heap):Prop where
 fs:∃fs,A.frames=some fs/\∀env∈fs,env.scope.kind≠.module/\∃L o,env.frame=some L/\F L/\h.get? L=some o/\∀vs,o.data≠.fields vs
 gl:∀b o,g.h.get? b=some o->¬F b
theorem Frm.cx {W F':Avoid}(f:Frm g A F s.heap)(x:Cx W F' s s')(h:∀b,W b->¬F b):Frm g A F s'.heap:=by
 obtain⟨⟨fs,h1,h2⟩,h3⟩:=f
 refine⟨⟨fs,h1,λenv he=>?_⟩,h3⟩
 obtain⟨k,L,o,e1,e2,e3,e4⟩:=h2 env he
 obtain⟨⟨sl,e5⟩,_⟩:=x.2 L o (λz=>h L z e2) e3
 exact⟨k,L,_,e1,e2,e5,e4⟩
noncomputable def Glob.now (g:Glob) (s:Shared) (u:g.Up s):Glob:={ g with h:=s.heap,X:=g.X.keeps u,g:=g.g.keeps u,b:=g.b.keeps u,lim:=g.lim.keeps u }
theorem Glob.now_up (u:g.Up s):(g.now s u).Up s:=λzw zw e=>e
structure Fx where
 g:Glob
 n:Nat
 A:Around
 env:Env
 P:Avoid
 O:Avoid
 M:Avoid
 W:Avoid
 F:Avoid
 s:Shared
 Z:Avoid
 zO:Avoid
 zs:Shared
noncomputable abbrev Fx.Ar (c:Fx):Around:=c.A.deeper c.env
noncomputable abbrev Fx.Fc (c:Fx):Avoid:=λb=>c.F b\/b=c.env.locals
structure Off (c:Fx) (M:Avoid) (b:Addr):Prop where
 p:¬c.P b
 m:¬M b
 f:¬c.F b
 e:um5 c.env b
 g:∀o,c.g.h.get? b≠some o
structure Run (c:Fx) (O M W:Avoid) (ρ:Rho) (s:Shared):Prop where
 act:Act c.g O M ρ c.env s
 pl:Pl c.g O M c.P c.env
 rm:Room c.n c.Ar
 fr:c.env.frame=some c.env.locals
 u0:c.g.Up c.s
 aF:Alloc c.F c.s
 aw:Alloc c.W s
 ca:∀x b,c.env.cells.lookup x=some b->∃o,s.heap.get? b=some o
 frm:Frm c.g c.A c.F s.heap
 cx:Cx c.W c.F c.s s
 oo:∀b,c.O b\/c.M b\/c.F b->O b
 on:∀b,O b->c.O b\/c.M b\/c.s.heap.get? b=none
 np:∀b,c.P b->c.s.heap.get? b=none
 nl:c.s.heap.get? c.env.locals=none
 lo:O c.env.locals
 nm:∀b,M b->c.s.heap.get? b=none
 nf:∀b,M b->¬O b
 wo:∀b,W b->O b
 ww:∀b,W b->c.W b\/c.s.heap.get? b=none
 wp:∀b,W b->Off c M b
 zk:∀b o,c.Z b->c.zs.heap.get? b=some o->s.heap.get? b=some o
 zo:∀b,c.Z b->(∃o,c.zs.heap.get? b=some o)/\¬c.P b/\¬M b/\¬W b/\¬c.Fc b
 zx:∀b,(∃o,c.zs.heap.get? b=some o)->∃o,s.heap.get? b=some o
 oz:∀b,O b->c.zO b\/c.zs.heap.get? b=none
 ou:∀b,c.zO b->O b
section
variable {c:Fx} {O M W:Avoid} {ρ:Rho} {s:Shared}
theorem Run.frmIn (r:Run c O M W ρ s):Frm c.g c.Ar c.Fc s.heap:=by
 obtain⟨⟨fs,h1,h2⟩,h3⟩:=r.frm
 refine⟨⟨c.env::fs,by show c.A.frames.map _=_; rw [h1]; rfl,λenv he=>?_⟩,λb o e z=>?_⟩
 ·rcases List.mem_cons.mp he with rfl | he
  ·obtain⟨m,o,es,ep,e,hd,_⟩:=r.act.fo.ns
   exact⟨by rw [r.act.eo.kind]; decide,_,o,r.fr,.inr rfl,e,λvs q=>by rw [hd] at q; cases q⟩
  ·obtain⟨k,L,o,e1,e2,e3⟩:=h2 env he
   exact⟨k,L,o,e1,.inl e2,e3⟩
 ·rcases z with z | z
  ·exact h3 b o e z
  ·have:=r.u0 b o e; rw [z,r.nl] at this; cases this
theorem Run.keeps (r:Run c O M W ρ s)(k:Keeps s s'):Run c O M W ρ s' :=
 { r with act:=r.act.keeps k,aw:=r.aw.keeps k,ca:=λx b h=>let ⟨o,e⟩:=r.ca x b h; ⟨o,ja0 k _ _ e⟩,frm:=r.frm.cx (W:=No) (F':=No) (.of_keeps k) (λzw h=>h.elim),cx:=r.cx.step (W:=No) (F:=No) (.of_keeps k) (λzw h=>h.elim) (λzw h=>h.elim),zk:=λb o hb e=>ja0 k _ _ (r.zk b o hb e),zx:=λb h=>let ⟨o,e⟩:=r.zx b h; ⟨o,ja0 k _ _ e⟩ }
theorem Run.offP (r:Run c O M W ρ s){b:Addr}(h:c.P b\/M b):¬W b:=λz=>by
 rcases h with h | h
 ·exact(r.wp b z).p h
 ·exact(r.wp b z).m h
theorem Run.chg (r:Run c O M W ρ s)(x:Chg (PM c.P M) s s')(a:Act c.g O M ρ' c.env s'):Run c O M W ρ' s':=by
 have lv:∀b,(∃o,s.heap.get? b=some o)->∃o,s'.heap.get? b=some o:=λb ⟨o,e⟩=>by
  by_cases hb:PM c.P M b
  ·rcases hb with hb | hb
   ·exact r.pl.live s' a.fo b hb
   ·exact a.aM b hb
  ·exact⟨o,x.2 b o hb e⟩
 refine { r with act:=a,aw:=λb hb=>lv b (r.aw b hb),ca:=λy b h=>lv b (r.ca y b h),frm:=?_,cx:=r.cx.step (W:=PM c.P M) (F:=No) (.of_chg x) (λb h=>.inr ?_) (λzw h=>h.elim),zk:=λb o hb e=>x.2 b o (λz=>by
   rcases z with z | z
   ·exact(r.zo b hb).2.1 z
   ·exact(r.zo b hb).2.2.1 z) (r.zk b o hb e),zx:=λb h=>lv b (r.zx b h) }
 ·have hf:=r.frm
  obtain⟨⟨fs,h1,h2⟩,h3⟩:=hf
  refine⟨⟨fs,h1,λenv he=>?_⟩,h3⟩
  obtain⟨k,L,o,e1,e2,e3,e4⟩:=h2 env he
  by_cases hL:PM c.P M L
  ·rcases hL with hL | hL
   ·obtain⟨o',e5⟩:=r.aF L e2
    rw [r.np L hL] at e5; cases e5
   ·exact absurd (r.oo L (.inr (.inr e2))) (r.nf L hL)
  ·exact⟨k,L,o,e1,e2,x.2 L o hL e3,e4⟩
 ·rcases h with h | h
  ·exact r.np b h
  ·exact r.nm b h
theorem Run.stm {st:Stmt}{f:Fl}{Q:Flow->Shared->Prop}(r:Run c O M W ρ s)(x:StS c.g c.n ρ st f ρ')
  (q:∀fl s',FlOk O M s'.heap f fl->Chg (PM c.P M) s s'->Run c O M W ρ' s'->Q fl s'):wpAny c.g.M c.Ar (exec st c.env) Q E s :=
 x O M c.P c.env c.Ar s E Q r.pl r.rm r.act λfl s' h1 h2 h3=>q fl s' h1 h2 (r.chg h2 h3)
theorem Run.same (r:Run c O M W ρ s)(x:Chg (PM c.P M) s s'):∀b o,W b->s.heap.get? b=some o->s'.heap.get? b=some o :=
 λb o hb e=>x.2 b o (λz=>r.offP z hb) e
theorem Run.none0 (r:Run c O M W ρ s){b:Addr}(hb:s.heap.get? b=none):c.s.heap.get? b=none:=by
 by_cases hw:c.W b
 ·obtain⟨o,e⟩:=r.aw b hw; rw [hb] at e; cases e
 ·cases hq:c.s.heap.get? b with
  | none=>rfl
  | some o=>obtain⟨⟨sl,e⟩,_⟩:=r.cx.2 b o hw hq; rw [hb] at e; cases e
theorem Run.offNew (r:Run c O M W ρ s){b:Addr}(hb:s.heap.get? b=none):Off c M b:=by
 have h0:=r.none0 hb
 refine⟨λz=>?_,λz=>?_,λz=>?_,⟨λz=>?_,λx c' hx z=>?_⟩,λo z=>?_⟩
 ·obtain⟨o,e⟩:=r.pl.live s r.act.fo b z; rw [hb] at e; cases e
 ·obtain⟨o,e⟩:=r.act.aM b z; rw [hb] at e; cases e
 ·obtain⟨o,e⟩:=r.aF b z; rw [h0] at e; cases e
 ·obtain⟨m,o,_,_,e,_⟩:=r.act.fo.ns; rw [<- z,hb] at e; cases e
 ·obtain⟨o,e⟩:=r.ca x c' hx; rw [<- z,hb] at e; cases e
 ·have:=r.act.up b o z; rw [hb] at this; cases this
theorem Run.fcO (r:Run c O M W ρ s):∀b,c.Fc b->O b:=λb h=>by
 rcases h with h | h
 ·exact r.oo b (.inr (.inr h))
 ·rw [h]; exact r.lo
theorem Run.eff {W':Avoid}(r:Run c O M W ρ s)(x:Cx W c.Fc s s')(hw:∀b,W b->W' b)(hn:∀b,W' b->W b\/s.heap.get? b=none)(ha:Alloc W' s'):Run c (λb=>O b\/W' b) M W' ρ s':=by
 have hoff:∀b,W' b->Off c M b:=λb h=>by
  rcases hn b h with h | h
  ·exact r.wp b h
  ·exact r.offNew h
 have lv:∀b,(∃o,s.heap.get? b=some o)->∃o,s'.heap.get? b=some o:=λb ⟨o,e⟩=>by
  by_cases hb:W b
  ·exact ha b (hw b hb)
  ·obtain⟨⟨sl,e⟩,_⟩:=x.2 b o hb e; exact⟨_,e⟩
 have eo:EnvOk O M ρ c.env s'.heap:=x.envOk r.act.eo (λb hb=>⟨r.wo b hb,(r.wp b hb).e⟩) r.fcO
 have act:Act c.g (λb=>O b\/W' b) M ρ c.env s':=by
  refine⟨x.up r.act.up λb o e=>⟨λz=>(r.wp b z).g o e,r.frmIn.gl b o e⟩,λb hb=>?_,λb hb=>lv b (r.act.aM b hb),?_,x.frameOk r.act.fo λb hb=>(r.wp b hb).e⟩
  ·rcases hb with hb | hb
   ·exact lv b (r.act.aO b hb)
   ·exact ha b hb
  ·refine⟨eo.kind,eo.gl,eo.bl,eo.sc,eo.apart,λy d k hy=>?_⟩
   obtain⟨v,h1,h2,h3⟩:=r.act.eo.vars y d k hy
   obtain⟨v',g1,g2,g3⟩:=eo.vars y d k hy
   have ev:v'=v:=by
    have h1':VarAt c.env s'.heap y v:=by
     rcases h1 with ⟨a,m,b,c⟩ | ⟨a,c,b,d⟩
     ·exact .inl ⟨a,m,x.ns (λz=>(r.wp _ z).e.1 rfl) b,c⟩
     ·exact .inr ⟨a,c,b,x.cell (λz=>(r.wp _ z).e.2 _ _ b rfl) d⟩
    rcases h1' with ⟨a,m,b,c⟩ | ⟨a,c,b,d⟩
    ·rcases g1 with ⟨a',m',b',c'⟩ | ⟨a',c',b',d'⟩
     ·obtain⟨o,es,ep,e,hd,_,hf⟩:=b
      obtain⟨o',es',ep',e',hd',_,hf'⟩:=b'
      rw [e] at e'; cases e'
      rw [hd] at hd'; cases hd'
      rw [<- hf] at c; rw [<- hf',c] at c'; cases c'; rfl
     ·rcases a' with a' | ⟨a',_⟩ <;> (rw [a] at a'; cases a')
    ·rcases g1 with ⟨a',m',b',c'⟩ | ⟨a',c',b',d'⟩
     ·rcases a with a | ⟨a,_⟩ <;> (rw [a] at a'; cases a')
     ·rw [b] at b'; cases b'
      obtain⟨o,e,hd⟩:=d
      obtain⟨o',e',hd'⟩:=d'
      rw [e] at e'; cases e'
      rw [hd] at hd'; cases hd'; rfl
   subst ev
   refine⟨v',g1,?_,g3⟩
   have h2':Rd (λb=>O b\/W' b) M s.heap k v' d:=h2.imp (λb hb ho z=>by
    rcases z with z | z
    ·exact ho z
    ·rcases hn b z with z | z
     ·exact ho (r.wo b z)
     ·rw [z] at hb; cases hb) (λzw zw zw a=>a) (Nat.le_refl _)
   exact h2'.off (x.off (λb hb=>.inl (r.wo b hb)) λb hb=>.inl (r.fcO b hb))
 refine { act:=act,pl:=⟨r.pl.store,λb h=>.inl (r.pl.po b h),r.pl.pg,r.pl.live⟩,rm:=r.rm,fr:=r.fr,u0:=r.u0,aF:=r.aF,aw:=λb hb=>lv b (r.aw b hb),ca:=λy b h=>lv b (r.ca y b h),frm:=r.frm.cx x λb hb=>(r.wp b hb).f,cx:=r.cx.step x r.ww λb hb=>?_,oo:=λb h=>.inl (r.oo b h),on:=λb h=>?_,np:=r.np,nl:=r.nl,lo:=.inl r.lo,nm:=r.nm,nf:=λb hb z=>?_,wo:=λb h=>.inr h,ww:=λb h=>?_,wp:=hoff,zk:=λb o hb e=>(x.2 b o (r.zo b hb).2.2.2.1 (r.zk b o hb e)).2 (r.zo b hb).2.2.2.2,zo:=λb hb=>?_,zx:=λb h=>lv b (r.zx b h),oz:=λb h=>?_,ou:=λb h=>.inl (r.ou b h) }
 ·rcases hb with hb | hb
  ·exact .inl hb
  ·exact .inr (by rw [hb]; exact r.nl)
 ·rcases h with h | h
  ·exact r.on b h
  ·rcases hn b h with h | h
   ·exact r.on b (r.wo b h)
   ·exact .inr (.inr (r.none0 h))
 ·rcases z with z | z
  ·exact r.nf b hb z
  ·exact(hoff b z).m hb
 ·rcases hn b h with h | h
  ·exact r.ww b h
  ·exact .inr (r.none0 h)
 ·have z:=r.zo b hb
  refine⟨z.1,z.2.1,z.2.2.1,λhw'=>?_,z.2.2.2.2⟩
  rcases hn b hw' with h | h
  ·exact z.2.2.2.1 h
  ·obtain⟨o,e⟩:=z.1
   rw [r.zk b o hb e] at h; cases h
 ·rcases h with h | h
  ·exact r.oz b h
  ·rcases hn b h with h | h
   ·exact r.oz b (r.wo b h)
   ·right
    cases e:c.zs.heap.get? b with
    | none=>rfl
    | some o=>obtain⟨o',e'⟩:=r.zx b ⟨o,e⟩; rw [h] at e'; cases e'
noncomputable def Fx.prot (c:Fx) (Z O:Avoid) (t:Shared):Fx:={ c with Z:=Z,zO:=O,zs:=t }
theorem Run.prot (r:Run c O M W ρ s){Z:Avoid}(h:∀b,Z b->(∃o,s.heap.get? b=some o)/\¬c.P b/\¬M b/\¬W b/\¬c.Fc b):Run (c.prot Z O s) O M W ρ s :=
 {
  act:=r.act,pl:=r.pl,rm:=r.rm,fr:=r.fr,u0:=r.u0,aF:=r.aF,aw:=r.aw,ca:=r.ca,frm:=r.frm,cx:=r.cx,oo:=r.oo,on:=r.on,np:=r.np,nl:=r.nl,lo:=r.lo,nm:=r.nm,nf:=r.nf,wo:=r.wo,ww:=r.ww,
  wp:=λb hb=>let w:=r.wp b hb; ⟨w.p,w.m,w.f,w.e,w.g⟩
  zk:=λzw zw zw e=>e,zo:=h,zx:=λzw h=>h,oz:=λzw h=>.inl h,ou:=λzw h=>h }
theorem Run.unprot {Z O0:Avoid}{t:Shared}{O1 M1 W_1:Avoid}{ρ1:Rho}(r:Run (c.prot Z O0 t) O M W ρ s)(r_1:Run c O1 M1 W_1 ρ1 t)(hZ:∀b,c.Z b->Z b)(hO:∀b,O0 b->O1 b)(hO':∀b,c.zO b->O0 b):Run c O M W ρ s :=
 {
  act:=r.act,pl:=r.pl,rm:=r.rm,fr:=r.fr,u0:=r.u0,aF:=r.aF,aw:=r.aw,ca:=r.ca,frm:=r.frm,cx:=r.cx,oo:=r.oo,on:=r.on,np:=r.np,nl:=r.nl,lo:=r.lo,nm:=r.nm,nf:=r.nf,wo:=r.wo,ww:=r.ww,
  wp:=λb hb=>let w:=r.wp b hb; ⟨w.p,w.m,w.f,w.e,w.g⟩
  zk:=λb o hb e=>r.zk b o (hZ b hb) (r_1.zk b o hb e)
  zo:=λb hb=>⟨(r_1.zo b hb).1,(r.zo b (hZ b hb)).2⟩
  zx:=λb h=>r.zx b (r_1.zx b h)
  oz:=λb h=>by
   rcases r.oz b h with h | h
   ·exact r_1.oz b (hO b h)
   ·right
    cases e:c.zs.heap.get? b with
    | none=>rfl
    | some o=>obtain⟨o',e'⟩:=r_1.zx b ⟨o,e⟩; rw [show t.heap.get? b=none from h] at e'; cases e'
  ou:=λb h=>r.ou b (hO' b h) }
end
end
variable {c:Fx}
structure At (g:Glob) (n:Nat) (A:Around) (O M W F:Avoid) (s:Shared):Prop where
 up:g.Up s
 rm:Room n A
 aO:Alloc O s
 aM:Alloc M s
 aF:Alloc F s
 frm:Frm g A F s.heap
 wo:∀b,W b->O b
 fo:∀b,F b->O b
 wf:∀b,W b->¬F b
 wg:∀b,W b->∀o,g.h.get? b≠some o
theorem At.keeps {W:Avoid}(a:At g n A O M W F s)(k:Keeps s s'):At g n A O M W F s' :=
 { a with up:=a.up.keeps k,aO:=a.aO.keeps k,aM:=a.aM.keeps k,aF:=a.aF.keeps k,frm:=a.frm.cx (W:=No) (F':=No) (.of_keeps k) λzw h=>h.elim }
theorem Run.at {W:Avoid}(r:Run c O M W ρ s):At c.g c.n c.Ar O M W c.Fc s where
 up:=r.act.up
 rm:=r.rm
 aO:=r.act.aO
 aM:=r.act.aM
 aF:=λb h=>r.act.aO b (r.fcO b h)
 frm:=r.frmIn
 wo:=r.wo
 fo:=r.fcO
 wf:=λb h z=>by
  rcases z with z | z
  ·exact(r.wp b h).f z
  ·exact(r.wp b h).e.1 z
 wg:=λb h=>(r.wp b h).g
theorem qt9 {W:Avoid}{o:Obj}{fd:FuncData}{body:List Stmt}{params:List Str}{args:Args}{clv:List (Str×D)}
  (at_:At g (n+1) A O M W F s) (ho:s.heap.get? a=some o) (hdata:o.data=.func fd) (FD:FnData fd body) (hcd:s.heap.CodeRec fd.code fd.qualname)
  (hbind:wpAny g.M A.in1 (bindArgs fd args) (λbinds s_1=>∃vs,binds=params.zip vs/\Keeps s s_1/\Rds O M s_1.heap 0 vs ds) (λe s'=>R (.error e) s') s)
  (hcl:Clos O M s.heap fd.closure clv) (hcw:∀x b,fd.closure.lookup x=some b->¬W b) (hnm:jh7 fd.scope.names clv=true) (hps:params.all (stOk ⟨fd.scope.names,jc7 clv⟩)=true) (hρ:je1 ⟨fd.scope.names,jc7 clv⟩ params ds=some ρ)
  (hbody:∀(env:Env) (P O':Avoid) (s_2:Shared),Run ⟨g,n,A,env,P,O,M,W,F,s,No,O',s_2⟩ O' No W ρ s_2->env.code=fd.code->env.qual=fd.qualname++".<locals>."->(∀b o,s.heap.get? b=some o->s_2.heap.get? b=some o) →
   wpAny g.M (A.deeper env) (execs body env) (λf s'=>R (.ok (.ret (match f with | .ret v=>v | _=>.none))) s')
    (λe s'=>wpAny g.M (A.deeper env) (leaving env e) (λzw s''=>R (.error e) s'') (λe' s''=>R (.error e') s'') s') s_2) :
  codeAny g.M A (.call (.ref a) args) R s:=by
 have hrd:=at_.rm.depth
 have hru:=at_.rm.units
 refine codeAny_call_function (prog:=g.prog) (w:=g.w) (by grind) ho hdata FD.co FD.gen FD.body hcd (wpAny_mono hbind (λbinds s_1 hJ0=>?_) λzw zw h=>h)
 obtain⟨vs,hb,k_0,rs⟩:=hJ0
 subst hb
 have at1:=at_.keeps k_0
 refine jq6 λh_1 cs lay=>?_
 generalize henv:newEnv fd.scope s_1.heap.objs.size fd.globals cs (fd.qualname++".<locals>.") (some a) fd.code none fd.builtins=env
 revert henv
 revert env
 refine id ?_
 intro env henv
 have n1:env.scope.kind=.function:=by rw [<- henv]; exact FD.kind
 have n2:env.globals=mainGlobals:=by rw [<- henv]; exact FD.gl
 have n3:env.builtins=builtinsNs:=by rw [<- henv]; exact FD.bl
 have n4:env.scope.names=fd.scope.names:=by rw [<- henv]; rfl
 have n5:env.cells=cs:=by rw [<- henv]; rfl
 have n6:env.locals=s_1.heap.objs.size:=by rw [<- henv]; rfl
 have n7:env.frame=some s_1.heap.objs.size:=by rw [<- henv]; rfl
 have n8:env.code=fd.code:=by rw [<- henv]; rfl
 have n9:env.qual=fd.qualname++".<locals>.":=by rw [<- henv]; rfl
 unfold jh7 at hnm
 rw [Bool.and_eq_true] at hnm
 have nm1:∀x k,(x,k)∈fd.scope.names->fd.scope.names.lookup x=some k:=λx k h=>by
  have:=List.all_eq_true.mp hnm.1 _ h
  simpa using this
 have nm2:∀x d,clv.lookup x=some d->fd.scope.names.lookup x=some .free/\(x==("__classdict__":Str))=false:=λx d h=>by
  have:=List.all_eq_true.mp hnm.2 _ (PySem.mem_of_lookup h)
  simpa using this
 let P:Avoid:=λb=>b=s_1.heap.objs.size\/∃x,(x,NameKind.cell)∈fd.scope.names/\cs.lookup x=some b
 have hPge:∀b,P b->@LE.le Nat _ s_1.heap.objs.size b:=λb hb=>by
  rcases hb with hb | ⟨x,hx,hc⟩
  ·rw [hb]; exact Nat.le_refl _
  ·rcases lay.look x with ⟨c,h1,h2,_⟩ | ⟨h1,_⟩
   ·rw [hc] at h1; cases h1; exact Nat.le_of_lt h2
   ·exact absurd hx h1
 have hPn:∀b,P b->s_1.heap.get? b=none:=λb hb=>je5 (ja3 s_1) (hPge b hb)
 have hPs:∀b,P b->s.heap.get? b=none:=λb hb=>je5 k_0 (hPge b hb)
 let O':Avoid:=λb=>O b\/M b\/P b
 have live:∀(t:Shared),FrameOk env t.heap->∀b,P b->∃o,t.heap.get? b=some o:=λt fo b hb=>by
  rcases hb with hb | ⟨x,hx,hc⟩
  ·obtain⟨m,o,_,_,e,_⟩:=fo.ns; exact⟨o,by rw [hb,<- n6]; exact e⟩
  ·obtain⟨c,v,e1,o,e2,_⟩:=fo.cell x (by unfold Env.kindOf; rw [n4]; exact nm1 x _ hx)
   rw [n5,hc] at e1; cases e1
   exact⟨o,e2⟩
 have pl:Pl g O' No P env:=by
  refine⟨λx hx=>?_,λb h=>.inr (.inr h),λb o e=>⟨λz=>(by have:=at1.up b o e; rw [hPn b z] at this; cases this),id⟩,live⟩
  rcases hx with hx | hx
  ·left; unfold jl3; rw [hx]; exact n6
  ·right
   have hm:(x,NameKind.cell)∈fd.scope.names:=by unfold Env.kindOf at hx; rw [n4] at hx; exact PySem.mem_of_lookup hx
   refine⟨x,hm,?_⟩
   unfold jl3; rw [hx]
   rcases lay.look x with ⟨c,h1,h2,_⟩ | ⟨h1,_⟩
   ·rw [n5,h1]; rfl
   ·exact absurd hm h1
 have hO':∀b,(s_1.heap.get? b).isSome=true->¬O b->¬M b->¬O' b:=λb hb ho hm z=>by
  rcases z with z | z | z
  ·exact ho z
  ·exact hm z
  ·rw [hPn b z] at hb; cases hb
 have k_1:Keeps s_1 { s_1 with heap:=h_1 }:=⟨h_1,s_1.toks,rfl,lay.keep⟩
 have fo1:FrameOk env h_1:=by
  refine⟨⟨_,n6 ▸ lay.ns⟩,λx hx=>?_⟩
  have hm:(x,NameKind.cell)∈fd.scope.names:=by unfold Env.kindOf at hx; rw [n4] at hx; exact PySem.mem_of_lookup hx
  rcases lay.look x with ⟨c,h1,h2,h3,_⟩ | ⟨h1,_⟩
  ·exact⟨c,none,by rw [n5]; exact h1,h3⟩
  ·exact absurd hm h1
 have cl0:∀x c,fd.closure.lookup x=some c->∃v,s.heap.IsCell c (some v):=λx c hx=>by
  obtain⟨dd,hd⟩:=hcl.only x c hx
  obtain⟨c',v,e1,e2,_⟩:=hcl.at_ x dd hd
  rw [hx] at e1; cases e1
  exact⟨v,e2⟩
 have clt:∀x c,fd.closure.lookup x=some c->@LT.lt Nat _ c s_1.heap.objs.size:=λx c hx=>by
  obtain⟨v,e2⟩:=cl0 x c hx
  exact(e2.keeps (ja0 k_0)).lt
 have eo1:EnvOk O' No ⟨fd.scope.names,jc7 clv⟩ env h_1:=by
  refine⟨n1,n2,n3,n4,by rw [n5]; exact lay.apart hcl.apart clt,λx dd k hx=>?_⟩
  have hx:(jc7 clv).lookup x=some (dd,k):=hx
  rw [jj3] at hx
  cases hd:clv.lookup x with
  | none=>rw [hd] at hx; cases hx
  | some d_0 =>
   rw [hd] at hx; cases hx
   obtain⟨c,v,e1,e2,e3⟩:=hcl.at_ x _ hd
   obtain⟨f1,f2⟩:=nm2 x _ hd
   have e2:=e2.keeps (ja0 k_0)
   have e3:=e3.keeps (ja0 k_0)
   refine⟨v,.inr ⟨.inr ⟨by unfold Env.kindOf; rw [n4]; exact f1,f2⟩,c,?_,e2.keeps lay.keep⟩,(e3.wide hO' rfl).keeps lay.keep,λz=>absurd rfl z⟩
   rw [n5]
   rcases lay.look x with ⟨c',h1,h2,h3,h4⟩ | ⟨h1,h2⟩
   ·rw [nm1 x _ h4] at f1; cases f1
   ·rw [h2]; exact e1
 have a_1:Act g O' No ⟨fd.scope.names,jc7 clv⟩ env { s_1 with heap:=h_1 }:=by
  refine⟨at1.up.keeps k_1,λb hb=>?_,λzw h=>h.elim,eo1,fo1⟩
  rcases hb with hb | hb | hb
  ·exact at1.aO.keeps k_1 b hb
  ·exact at1.aM.keeps k_1 b hb
  ·exact live { s_1 with heap:=h_1 } fo1 b hb
 refine jx6 pl params vs ds _ ρ { s_1 with heap:=h_1 } _ hρ hps ((rs.wide hO' rfl).keeps lay.keep) a_1 λs_2 c_2 a_2=>⟨g.lim.keeps a_2.up,codeAny_func ?_⟩
 have rm':Room n (A.deeper env):=⟨at_.rm.handled,by show A.depth+1+2*n+2 < recursionLimit; grind,by show A.units+3+30*n+60 < cLine; grind⟩
 have ch:Chg P s s_2:=(Chg.ofK (ja1 k_0 k_1)).trans c_2
 have lv:∀b,(∃o,s.heap.get? b=some o)->∃o,s_2.heap.get? b=some o:=λb ⟨o,e⟩=>⟨o,ch.2 b o (λz=>by rw [hPs b z] at e; cases e) e⟩
 have nl:s.heap.get? env.locals=none:=by rw [n6]; exact hPs _ (.inl rfl)
 refine hbody env P O' s_2 { act:=a_2,pl:=pl,rm:=rm',fr:=by rw [n7,n6],u0:=at_.up,aF:=at_.aF,aw:=λb hb=>lv b (at_.aO b (at_.wo b hb)),ca:=λx b hx=>?_,frm:=at_.frm.cx (W:=P) (F':=No) (.of_chg ch) (λb hb z=>?_),cx:=(Cx.of_chg ch).less (λb hb=>.inr (hPs b hb)) (λb hb=>hb),oo:=λb h=>?_,on:=λb h=>?_,np:=hPs,nl:=nl,lo:=.inr (.inr (by left; exact n6)),nm:=λzw h=>h.elim,nf:=λzw h=>h.elim,wo:=λb h=>.inl (at_.wo b h),ww:=λb h=>.inl h,wp:=λb h=>?_,zk:=λzw zw h=>h.elim,zo:=λzw h=>h.elim,zx:=λzw h=>h,oz:=λzw h=>.inl h,ou:=λzw h=>h } n8 n9 (λb o e=>ch.2 b o (λz=>by rw [hPs b z] at e; cases e) e)
 ·have hx:env.cells.lookup x=some b:=hx
  rw [n5] at hx
  rcases lay.look x with ⟨c,h1,h2,h3,h4⟩ | ⟨h1,h2⟩
  ·obtain⟨c',v,e1,o,e2,_⟩:=a_2.fo.cell x (by unfold Env.kindOf; rw [n4]; exact nm1 x _ h4)
   rw [n5,hx] at e1; cases e1
   exact⟨o,e2⟩
  ·rw [h2] at hx
   obtain⟨v,o,e2,_⟩:=cl0 x b hx
   exact lv b ⟨o,e2⟩
 ·obtain⟨o,e⟩:=at_.aF b z
  rw [hPs b hb] at e; cases e
 ·rcases h with h | h | h
  ·exact .inl h
  ·exact .inr (.inl h)
  ·exact .inl (at_.fo b h)
 ·rcases h with h | h | h
  ·exact .inl h
  ·exact .inr (.inl h)
  ·exact .inr (.inr (hPs b h))
 ·obtain⟨ob,eb⟩:=at_.aO b (at_.wo b h)
  refine⟨λz=>?_,id,at_.wf b h,⟨λz=>?_,λx c hx z=>?_⟩,at_.wg b h⟩
  ·rw [hPs b z] at eb; cases eb
  ·have z:b=env.locals:=z
   rw [z,nl] at eb; cases eb
  ·have hx:env.cells.lookup x=some c:=hx
   rw [n5] at hx
   rcases lay.look x with ⟨c',h1,h2,h3,h4⟩ | ⟨h1,h2⟩
   ·rw [hx] at h1; cases h1
    have:P c:=.inr ⟨x,h4,hx⟩
    rw [<- z] at this
    rw [hPs b this] at eb; cases eb
   ·rw [h2] at hx
    exact hcw x c hx (z ▸ h)
theorem qq1 {W:Avoid}{o:Obj}{fd:FuncData}{body:List Stmt}{params:List Str}{args:Args}{clv:List (Str×D)}
  (at_:At g (n+1) A O M W F s) (ho:s.heap.get? a=some o) (hdata:o.data=.func fd) (FD:FnData fd body) (hcd:s.heap.CodeRec fd.code fd.qualname)
  (hbind:wpAny g.M A.in1 (bindArgs fd args) (λbinds s_1=>∃vs,binds=params.zip vs/\Keeps s s_1/\Rds O M s_1.heap 0 vs ds) (λe s'=>R (.error e) s') s)
  (hcl:Clos O M s.heap fd.closure clv) (hcw:∀x b,fd.closure.lookup x=some b->¬W b) (hnm:jh7 fd.scope.names clv=true) (hps:params.all (stOk ⟨fd.scope.names,jc7 clv⟩)=true) (hρ:je1 ⟨fd.scope.names,jc7 clv⟩ params ds=some ρ)
  (hbody:∀(env:Env) (P O':Avoid) (s_2:Shared),Run ⟨g,n,A,env,P,O,M,W,F,s,No,O',s_2⟩ O' No W ρ s_2->env.code=fd.code->(∀b o,s.heap.get? b=some o->s_2.heap.get? b=some o) →
   wpAny g.M (A.deeper env) (execs body env) (λf s'=>R (.ok (.ret (match f with | .ret v=>v | _=>.none))) s')
    (λe s'=>wpAny g.M (A.deeper env) (leaving env e) (λzw s''=>R (.error e) s'') (λe' s''=>R (.error e') s'') s') s_2) :
  codeAny g.M A (.call (.ref a) args) R s :=
 qt9 at_ ho hdata FD hcd hbind hcl hcw hnm hps hρ λenv P O' s_2 r h1 zw h3=>hbody env P O' s_2 r h1 h3
structure Nd where
 id:Int
 np:Int
 succ:List Int
structure SS where
 nodes:List Nd
 ready:Option (List Int)
 out:Int
 fin:Int
noncomputable def SS.new:SS:=⟨[],none,0,0⟩
noncomputable def SS.has (σ:SS) (k:Int):Bool:=σ.nodes.any λn=>n.id==k
noncomputable def SS.touch (σ:SS) (k:Int):SS:=if σ.has k then σ else { σ with nodes:=σ.nodes++[⟨k,0,[]⟩] }
noncomputable def SS.upd (σ:SS) (k:Int) (f:Nd->Nd):SS:={ σ with nodes:=σ.nodes.map λn=>if n.id==k then f n else n }
noncomputable def SS.npOf (σ:SS) (k:Int):Int:=((σ.nodes.find? λn=>n.id==k).map (·.np)).getD 0
noncomputable def SS.succOf (σ:SS) (k:Int):List Int:=((σ.nodes.find? λn=>n.id==k).map (·.succ)).getD []
noncomputable def SS.addPred (node:Int) (σ:SS) (p:Int):SS:=(σ.touch p).upd p λn=>{ n with succ:=n.succ++[node] }
noncomputable def SS.add (σ:SS) (node:Int) (preds:List Int):SS:=preds.foldl (SS.addPred node) ((σ.touch node).upd node λn=>{ n with np:=n.np+preds.length })
noncomputable def SS.roots (σ:SS):List Int:=(σ.nodes.filter λn=>n.np==0).map (·.id)
noncomputable def SS.getReady (σ:SS):List Int×SS :=
 let r:=σ.ready.getD []
 let τ:=r.foldl (λτ k=>τ.upd k λn=>{ n with np:=-1 }) σ
 (r,{ τ with ready:=some [],out:=σ.out+r.length })
noncomputable def SS.active (σ:SS):Bool:=decide (σ.fin < σ.out) || !(σ.ready.getD []).isEmpty
noncomputable def SS.free (σ:SS) (k:Int):SS :=
 let τ:=σ.upd k λn=>{ n with np:=n.np - 1 }
 if τ.npOf k==0 then { τ with ready:=some (τ.ready.getD []++[k]) } else τ
noncomputable def SS.doneOne (σ:SS) (k:Int):SS :=
 let τ:=σ.upd k λn=>{ n with np:=-2 }
 let τ:=(σ.succOf k).foldl SS.free τ
 { τ with fin:=τ.fin+1 }
noncomputable def SS.done (σ:SS) (ks:List Int):SS:=ks.foldl SS.doneOne σ
variable {σ:SS}
set_option backward.match.sparseCases false
section
structure SlotK (K:Frag) (C:Addr) (name:Str) (p:Addr) (i:Nat):Prop where
 find:findIn K (.ref C) name=some (some (.ref p))
 get:specialIn K (.ref p) "__get__"=some (some (.builtin "member_descriptor.__get__"))
 takes:takesIn K (.ref p)=some true
 slot:slotIn K p C=some i
 type:typeIn K (.ref p)=some (.type "member_descriptor")
 taker:takerIn K C name=some (some (.ref p))
structure MethK (K:Frag) (C:Addr) (name:Str) (f:Addr):Prop where
 find:findIn K (.ref C) name=some (some (.ref f))
 fn:isFn K (.ref f)=true
 keep:keepIn K (.ref f)=true
structure AttrK (K:Frag) (C:Addr) (name:Str):Prop where
 find:findIn K (.ref C) name=some none
 taker:takerIn K C name=some none
structure ClsK (K:Frag) (C:Addr):Prop where
 get:∀name,plainGet K C name=true
 over:plainOver K C=true
 set:findIn K (.ref C) "__setattr__"=some (some (.builtin "object.__setattr__"))
 cls:isClsIn K C=true
 makes:makesIn K C=true
 keep:keepIn K (.ref C)=true
structure Topo where
 C:Addr
 N:Addr
 p0:Addr
 p1:Addr
 p2:Addr
 init:Addr
 ninit:Addr
 gni:Addr
 add:Addr
 prep:Addr
 ready:Addr
 active:Addr
 done:Addr
 cyc:Addr
structure TopoOk (K:Frag) (T:Topo):Prop where
 c:ClsK K T.C
 n:ClsK K T.N
 dict:hasDictIn K T.C=true
 s0:SlotK K T.N "node" T.p0 0
 s1:SlotK K T.N "npredecessors" T.p1 1
 s2:SlotK K T.N "successors" T.p2 2
 a1:AttrK K T.C "_node2info"
 a2:AttrK K T.C "_ready_nodes"
 a3:AttrK K T.C "_npassedout"
 a4:AttrK K T.C "_nfinished"
 minit:findIn K (.ref T.C) "__init__"=some (some (.ref T.init))
 tinit:typeIn K (.ref T.init)=some (.type "function")
 mninit:findIn K (.ref T.N) "__init__"=some (some (.ref T.ninit))
 tninit:typeIn K (.ref T.ninit)=some (.type "function")
 mgni:MethK K T.C "_get_nodeinfo" T.gni
 madd:MethK K T.C "add" T.add
 mprep:MethK K T.C "prepare" T.prep
 mready:MethK K T.C "get_ready" T.ready
 mactive:MethK K T.C "is_active" T.active
 mdone:MethK K T.C "done" T.done
 mcyc:MethK K T.C "_find_cycle" T.cyc
structure NdA where
 info:Addr
 dct:Addr
 suc:Addr
noncomputable def NdA.all (a:NdA):List Addr:=[a.info,a.dct,a.suc]
structure LayS where
 a:Addr
 dx:Addr
 m:Addr
 rd:List Addr
 ns:List NdA
noncomputable def LayS.all (l:LayS):List Addr:=l.a::l.dx::l.m::(l.rd++l.ns.flatMap NdA.all)
noncomputable abbrev LayS.W (l:LayS):Avoid:=λb=>b∈l.all
noncomputable def Ints (h:Heap) (a:Addr) (xs:List Int):Prop:=∃vs n,IsL h a vs n/\vs.size<=cap/\Rds No No h 0 vs.toList (xs.map .int)
noncomputable def NodeAt (T:Topo) (h:Heap) (a:NdA) (nd:Nd):Prop :=
 (∃t1 t2,h.get? a.info=some { cls:=.ref T.N,dict:=some a.dct,data:=.plain,slots:=#[some (.int nd.id t1),some (.int nd.np t2),some (.ref a.suc)] })/\h.get? a.dct=some emptyDict/\Ints h a.suc nd.succ
noncomputable def jl9 (w:World) (t1 t2 t3 t4:Tok) (m:Addr) (rv:Value) (out fin:Int) (to tf:Tok):List DictEntry :=
 [⟨PyData.keyHash w.params "_node2info",.str "_node2info" t1,.ref m⟩,⟨PyData.keyHash w.params "_ready_nodes",.str "_ready_nodes" t2,rv⟩,
  ⟨PyData.keyHash w.params "_npassedout",.str "_npassedout" t3,.int out to⟩,⟨PyData.keyHash w.params "_nfinished",.str "_nfinished" t4,.int fin tf⟩]
noncomputable def rvOf (rd:List Addr):Value:=match rd with
 | []=>.none
 | r::_=>.ref r
noncomputable def RdyAt (h:Heap) (rd:List Addr) (ready:Option (List Int)):Prop:=(rd=[]/\ready=none)\/∃r xs,rd=[r]/\ready=some xs/\Ints h r xs
theorem rdy0:RdyAt h [] none:=.inl ⟨rfl,rfl⟩
theorem rdy1 {r:Addr}{xs:List Int}(x:Ints h r xs):RdyAt h [r] (some xs):=.inr ⟨r,xs,rfl,rfl,x⟩
noncomputable def jf2 (ns:List NdA) (nodes:List Nd):List (Int×Value):=List.zipWith (λ(a:NdA) (nd:Nd)=>(nd.id,Value.ref a.info)) ns nodes
structure Srt (g:Glob) (T:Topo) (h:Heap) (l:LayS) (σ:SS):Prop where
 inst:h.get? l.a=some (instObj T.C l.dx)
 dict:∃t1 t2 t3 t4 to tf n,h.get? l.dx=some (dictOf (jl9 g.w t1 t2 t3 t4 l.m (rvOf l.rd) σ.out σ.fin to tf) n)
 n2i:h.DictOf (intKind g.prog g.w) l.m (jf2 l.ns σ.nodes)
 sys:(l.m==sysModules)=false
 rdy:RdyAt h l.rd σ.ready
 len:l.ns.length=σ.nodes.length
 nds:∀(i:Nat) a nd,l.ns[i]?=some a->σ.nodes[i]?=some nd->NodeAt T h a nd
 nodup:l.all.Nodup
 ids:(σ.nodes.map (·.id)).Nodup
 big:σ.nodes.length<=1000
theorem Ints.keeps {xs:List Int}(x:Ints h a xs)(k:∀o,h.get? a=some o->h'.get? a=some o):Ints h' a xs:=by
 obtain⟨vs,n,h1,h2,h3⟩:=x
 obtain⟨ys,e1,e2⟩:=jf5 h3
 exact⟨vs,n,k _ h1,h2,by rw [e1,<- e2]; exact jd2 ys⟩
theorem NodeAt.keeps {T:Topo}{a:NdA}{nd:Nd}(x:NodeAt T h a nd)(k:∀b o,b∈a.all->h.get? b=some o->h'.get? b=some o):NodeAt T h' a nd:=by
 obtain⟨⟨t1,t2,h1⟩,h2,h3⟩:=x
 exact⟨⟨t1,t2,k _ _ (by simp [NdA.all]) h1⟩,k _ _ (by simp [NdA.all]) h2,h3.keeps λo=>k _ o (by simp [NdA.all])⟩
theorem jy5 {l:LayS}{i:Nat}{a:NdA}(h:l.ns[i]?=some a){b:Addr}(hb:b∈a.all):b∈l.all:=by
 have:b∈l.ns.flatMap NdA.all:=List.mem_flatMap.mpr ⟨a,List.mem_of_getElem? h,hb⟩
 simp [LayS.all,this]
theorem RdyAt.keeps {rd:List Addr}{ready:Option (List Int)}(x:RdyAt h rd ready)(k:∀b o,b∈rd->h.get? b=some o->h'.get? b=some o):RdyAt h' rd ready:=by
 rcases x with x | x
 ·exact .inl x
 ·obtain⟨r,xs,e,e',i⟩:=x
  exact .inr ⟨r,xs,e,e',i.keeps λo=>k r o (by rw [e]; exact List.mem_singleton.mpr rfl)⟩
section
variable {g:Glob} {T:Topo} {h h':Heap} {l:LayS} {σ:SS}
theorem Srt.keeps (S:Srt g T h l σ)(k:∀b o,b∈l.all->h.get? b=some o->h'.get? b=some o):Srt g T h' l σ:=by
 obtain⟨t1,t2,t3,t4,to,tf,n,hd⟩:=S.dict
 refine { S with inst:=k _ _ (by simp [LayS.all]) S.inst,dict:=⟨t1,t2,t3,t4,to,tf,n,k _ _ (by simp [LayS.all]) hd⟩,n2i:=?_,rdy:=S.rdy.keeps λb o hb=>k b o (by simp [LayS.all,hb]),nds:=λi a nd h1 h2=>(S.nds i a nd h1 h2).keeps λb o hb=>k b o (jy5 h1 hb) }
 obtain⟨o,es,ep,h1,h2⟩:=S.n2i
 exact⟨o,es,ep,k _ _ (by simp [LayS.all]) h1,h2⟩
theorem Srt.instAt (S:Srt g T h l σ):∃t1 t2 t3 t4 to tf n,InstAt h l.a (instObj T.C l.dx) T.C (some (dictOf (jl9 g.w t1 t2 t3 t4 l.m (rvOf l.rd) σ.out σ.fin to tf) n)):=by
 obtain⟨t1,t2,t3,t4,to,tf,n,hd⟩:=S.dict
 exact⟨t1,t2,t3,t4,to,tf,n,S.inst,rfl,rfl,hd⟩
theorem Srt.alloc (S:Srt g T h l σ):∀b∈l.all,∃o,h.get? b=some o:=by
 intro b hb
 simp only [LayS.all,List.mem_cons,List.mem_append] at hb
 rcases hb with rfl | rfl | rfl | hb | hb
 ·exact⟨_,S.inst⟩
 ·obtain⟨t1,t2,t3,t4,to,tf,n,hd⟩:=S.dict; exact⟨_,hd⟩
 ·obtain⟨o,_,_,e,_⟩:=S.n2i; exact⟨o,e⟩
 ·rcases S.rdy with hr | hr
  ·rw [hr.1] at hb; cases hb
  ·obtain⟨r,xs,e,_,vs,n,h1,_⟩:=hr
   rw [e] at hb
   obtain rfl:=List.mem_singleton.mp hb
   exact⟨_,h1⟩
 ·obtain⟨a,ha,hb⟩:=List.mem_flatMap.mp hb
  obtain⟨i,hi,rfl⟩:=List.mem_iff_getElem.mp ha
  have h1:l.ns[i]?=some l.ns[i]:=List.getElem?_eq_getElem hi
  obtain⟨nd,h2⟩:∃nd,σ.nodes[i]?=some nd:=⟨_,List.getElem?_eq_getElem (by rw [<- S.len]; exact hi)⟩
  obtain⟨⟨t1,t2,e1⟩,e2,vs,n,e3,_⟩:=S.nds i _ _ h1 h2
  simp only [NdA.all,List.mem_cons,List.not_mem_nil,or_false] at hb
  rcases hb with rfl | rfl | rfl
  ·exact⟨_,e1⟩
  ·exact⟨_,e2⟩
  ·exact⟨_,e3⟩
end
end
variable {l:LayS} {T:Topo}
set_option backward.match.sparseCases true
section
structure OffNd (l:LayS) (i:Nat) (b:Addr):Prop where
 a:b≠l.a
 dx:b≠l.dx
 m:b≠l.m
 rd:b∉l.rd
 ns:∀(j:Nat) a',l.ns[j]?=some a'->j≠i->b∉a'.all
theorem qf4 (h:l.all.Nodup){i:Nat}{a:NdA}(hi:l.ns[i]?=some a){b:Addr}(hb:b∈a.all):OffNd l i b:=by
 have hf:b∈l.ns.flatMap NdA.all:=List.mem_flatMap.mpr ⟨a,List.mem_of_getElem? hi,hb⟩
 unfold LayS.all at h
 simp only [List.nodup_cons,List.mem_cons,List.mem_append,not_or,List.nodup_append] at h
 obtain⟨⟨h1,h2,h3,h4⟩,⟨h5,h6,h7⟩,⟨h8,h9⟩,h10,h11,h12⟩:=h
 refine⟨λe=>?_,λe=>?_,λe=>?_,λe=>h12 b e b hf rfl,λj a' hj hne hb'=>?_⟩
 ·rw [e] at hf; exact h4 hf
 ·rw [e] at hf; exact h7 hf
 ·rw [e] at hf; exact h9 hf
 ·have hp:List.Pairwise (λ(a_1 a_2:NdA)=>∀x∈a_1.all,∀y∈a_2.all,x≠y) l.ns:=(List.pairwise_flatMap.mp h11).2
  rw [List.pairwise_iff_getElem] at hp
  obtain⟨hi',e1⟩:=List.getElem?_eq_some_iff.mp hi
  obtain⟨hj',e2⟩:=List.getElem?_eq_some_iff.mp hj
  rcases Nat.lt_or_gt_of_ne hne with hlt | hlt
  ·exact hp j i hj' hi' hlt b (by rw [e2]; exact hb') b (by rw [e1]; exact hb) rfl
  ·exact hp i j hi' hj' hlt b (by rw [e1]; exact hb) b (by rw [e2]; exact hb') rfl
theorem qj5:∀(ns:List NdA) (nodes nodes':List Nd),nodes'.map (·.id)=nodes.map (·.id)->jf2 ns nodes'=jf2 ns nodes
 | [],_,_,_=>by simp [jf2]
 | a::ns,[],[],_=>rfl
 | a::ns,[],_::_,h=>by simp at h
 | a::ns,_::_,[],h=>by simp at h
 | a::ns,x::xs,y::ys,h=>by
  simp only [List.map_cons,List.cons.injEq] at h
  have:=qj5 ns xs ys h.2
  unfold jf2 at this ⊢
  simp only [List.zipWith_cons_cons,h.1,this]
theorem qm3 (σ:SS)(k:Int)(f:Nd->Nd)(hf:∀n,(f n).id=n.id):(σ.upd k f).nodes.map (·.id)=σ.nodes.map (·.id):=by
 unfold SS.upd
 rw [List.map_map]
 refine List.map_congr_left λn zw=>?_
 simp only [Function.comp]
 split
 ·exact hf n
 ·rfl
theorem uh7 {nodes:List Nd}(h:(nodes.map (·.id)).Nodup){i j:Nat}{x y:Nd}(hi:nodes[i]?=some x)(hj:nodes[j]?=some y)(e:x.id=y.id):i=j:=by
 obtain⟨hi',e1⟩:=List.getElem?_eq_some_iff.mp hi
 obtain⟨hj',e2⟩:=List.getElem?_eq_some_iff.mp hj
 have h:=List.pairwise_iff_getElem.mp h
 rcases Nat.lt_trichotomy i j with hlt | rfl | hlt
 ·exact(h i j (by simpa using hi') (by simpa using hj') hlt (by simp [e1,e2,e])).elim
 ·rfl
 ·exact(h j i (by simpa using hj') (by simpa using hi') hlt (by simp [e1,e2,e])).elim
theorem upd_get (σ:SS)(hid:(σ.nodes.map (·.id)).Nodup){i:Nat}{nd:Nd}(hi:σ.nodes[i]?=some nd)(f:Nd->Nd)(j:Nat)(x:Nd)(hx:(σ.upd nd.id f).nodes[j]?=some x) :
  (j=i/\x=f nd)\/(j≠i/\σ.nodes[j]?=some x):=by
 unfold SS.upd at hx
 simp only [List.getElem?_map,Option.map_eq_some_iff] at hx
 obtain⟨y,hy,e⟩:=hx
 by_cases hj:j=i
 ·subst hj
  rw [hi] at hy; cases hy
  left
  refine⟨rfl,?_⟩
  rw [<- e]; simp
 ·right
  refine⟨hj,?_⟩
  have hne:y.id≠nd.id:=λz=>hj (uh7 hid hy hi z)
  rw [if_neg (by simpa using hne)] at e
  rw [<- e]; exact hy
section
variable {g:Glob} {T:Topo} {h h':Heap} {l:LayS} {σ:SS}
theorem Srt.node (S:Srt g T h l σ){i:Nat}{a:NdA}{nd:Nd}{f:Nd->Nd}(hf:∀n,(f n).id=n.id)(h1:l.ns[i]?=some a)(h2:σ.nodes[i]?=some nd)(hn:NodeAt T h' a (f nd))
  (k:∀b o,b∈l.all->b∉a.all->h.get? b=some o->h'.get? b=some o):Srt g T h' l (σ.upd nd.id f):=by
 have off:∀b,b∈a.all->OffNd l i b:=λb hb=>qf4 S.nodup h1 hb
 have ids:=qm3 σ nd.id f hf
 obtain⟨t1,t2,t3,t4,to,tf,n,hd⟩:=S.dict
 have hl:(σ.upd nd.id f).nodes.length=σ.nodes.length:=by have:=congrArg List.length ids; simpa using this
 refine⟨k _ _ (by simp [LayS.all]) (λz=>(off _ z).a rfl) S.inst,⟨t1,t2,t3,t4,to,tf,n,k _ _ (by simp [LayS.all]) (λz=>(off _ z).dx rfl) hd⟩,?_,S.sys,S.rdy.keeps λb o hb=>k b o (by simp [LayS.all,hb]) (λz=>(off _ z).rd hb),by rw [hl]; exact S.len,λj a' x hj hx=>?_,S.nodup,by rw [ids]; exact S.ids,by rw [hl]; exact S.big⟩
 ·obtain⟨o,es,ep,e1,e2⟩:=S.n2i
  rw [qj5 _ _ _ ids]
  exact⟨o,es,ep,k _ _ (by simp [LayS.all]) (λz=>(off _ z).m rfl) e1,e2⟩
 ·rcases upd_get σ S.ids h2 f j x hx with ⟨rfl,rfl⟩ | ⟨hne,hx⟩
  ·rw [h1] at hj; cases hj; exact hn
  ·exact(S.nds j a' x hj hx).keeps λb o hb=>k b o (jy5 hj hb) λz=>(off b z).ns j a' hj hne hb
theorem Srt.fields (S:Srt g T h l σ){σ':SS}{rd':List Addr}{t1 t2 t3 t4 to tf:Tok}(hs:Heap.SameBut l.dx h h')(hd:h'.get? l.dx=some (dictOf (jl9 g.w t1 t2 t3 t4 l.m (rvOf rd') σ'.out σ'.fin to tf) n))
  (hn:σ'.nodes=σ.nodes) (hr:RdyAt h' rd' σ'.ready) (hnd:({ l with rd:=rd' }:LayS).all.Nodup):Srt g T h' { l with rd:=rd' } σ':=by
 have nd:=S.nodup
 have off:∀b,b∈l.all->b≠l.dx->∀o,h.get? b=some o->h'.get? b=some o:=λb zw hne o e=>(hs.2 b hne).trans e
 have hnd':=hnd
 unfold LayS.all at hnd'
 simp only [List.nodup_cons,List.mem_cons,List.mem_append,not_or,List.nodup_append] at hnd'
 obtain⟨⟨g1,g2,g3,g4⟩,⟨g5,g6,g7⟩,⟨g8,g9⟩,g10,g11,g12⟩:=hnd'
 refine⟨(hs.2 _ g1).trans S.inst,⟨t1,t2,t3,t4,to,tf,n,hd⟩,?_,S.sys,hr,by rw [hn]; exact S.len,λi a x h1 h2=>?_,hnd,by rw [hn]; exact S.ids,by rw [hn]; exact S.big⟩
 ·obtain⟨o,es,ep,e1,e2⟩:=S.n2i
  rw [hn]
  exact⟨o,es,ep,(hs.2 _ (λz=>g5 z.symm)).trans e1,e2⟩
 ·rw [hn] at h2
  refine(S.nds i a x h1 h2).keeps λb o hb e=>(hs.2 b λz=>?_).trans e
  exact g7 (z ▸ List.mem_flatMap.mpr ⟨a,List.mem_of_getElem? h1,hb⟩)
theorem Srt.readyL (S:Srt g T h l σ){r:Addr}{xs:List Int}(hr:l.rd=[r])(hs:Heap.SameBut r h h')(hx:Ints h' r xs):Srt g T h' l { σ with ready:=some xs }:=by
 have nd:=S.nodup
 unfold LayS.all at nd
 rw [hr] at nd
 simp only [List.nodup_cons,List.mem_cons,List.mem_append,not_or,List.nodup_append,List.not_mem_nil,or_false] at nd
 obtain⟨⟨g1,g2,g3,g4⟩,⟨g5,g6,g7⟩,⟨g8,g9⟩,g10,g11,g12⟩:=nd
 obtain⟨t1,t2,t3,t4,to,tf,n,hd⟩:=S.dict
 refine { S with inst:=(hs.2 _ g3).trans S.inst,dict:=⟨t1,t2,t3,t4,to,tf,n,(hs.2 _ g6).trans hd⟩,n2i:=?_,rdy:=by rw [hr]; exact rdy1 hx,nds:=λi a x h1 h2=>?_ }
 ·obtain⟨o,es,ep,e1,e2⟩:=S.n2i
  exact⟨o,es,ep,(hs.2 _ g8).trans e1,e2⟩
 ·refine(S.nds i a x h1 h2).keeps λb o hb e=>(hs.2 b λz=>?_).trans e
  exact g12 r rfl b (List.mem_flatMap.mpr ⟨a,List.mem_of_getElem? h1,hb⟩) z.symm
theorem Srt.insert (S:Srt g T h l σ){a:NdA}{nd:Nd}(hm:h'.DictOf (intKind g.prog g.w) l.m (jf2 (l.ns++[a]) (σ.nodes++[nd])))(k:∀b o,b∈l.all->b≠l.m->h.get? b=some o->h'.get? b=some o)(hn:NodeAt T h' a nd)
  (hnew:∀b∈a.all,b∉l.all) (hnd:a.all.Nodup) (hid:∀n∈σ.nodes,n.id≠nd.id) (hbig:σ.nodes.length < 1000):Srt g T h' { l with ns:=l.ns++[a] } { σ with nodes:=σ.nodes++[nd] }:=by
 have ndp:=S.nodup
 unfold LayS.all at ndp
 simp only [List.nodup_cons,List.mem_cons,List.mem_append,not_or,List.nodup_append] at ndp
 obtain⟨⟨g1,g2,g3,g4⟩,⟨g5,g6,g7⟩,⟨g8,g9⟩,g10,g11,g12⟩:=ndp
 obtain⟨t1,t2,t3,t4,to,tf,n,hd⟩:=S.dict
 have hlen:=S.len
 refine⟨k _ _ (by simp [LayS.all]) g2 S.inst,⟨t1,t2,t3,t4,to,tf,n,k _ _ (by simp [LayS.all]) g5 hd⟩,hm,S.sys,S.rdy.keeps λb o hb=>k b o (by simp [LayS.all,hb]) (λz=>g8 (z ▸ hb)),by simp [hlen],λi a' x h1 h2=>?_,?_,?_,by simp; grind⟩
 ·by_cases hi:i < l.ns.length
  ·have h1:l.ns[i]?=some a':=by rw [<- h1]; exact(List.getElem?_append_left hi).symm
   have h2:σ.nodes[i]?=some x:=by rw [<- h2]; exact(List.getElem?_append_left (by grind)).symm
   exact(S.nds i a' x h1 h2).keeps λb o hb=>k b o (jy5 h1 hb) λz=>g9 (z ▸ List.mem_flatMap.mpr ⟨a',List.mem_of_getElem? h1,hb⟩)
  ·have h1:(l.ns++[a])[i]?=some a':=h1
   have h2:(σ.nodes++[nd])[i]?=some x:=h2
   rw [List.getElem?_append_right (by grind)] at h1
   rw [List.getElem?_append_right (by grind)] at h2
   have e0:i - l.ns.length=0:=by
    rcases Nat.eq_zero_or_pos (i - l.ns.length) with e | e
    ·exact e
    ·rw [List.getElem?_eq_none (by simp; assumption)] at h1; cases h1
   rw [e0] at h1
   rw [show i - σ.nodes.length=0 by grind] at h2
   cases h1; cases h2
   exact hn
 ·show(l.a::l.dx::l.m::(l.rd++(l.ns++[a]).flatMap NdA.all)).Nodup
  have e:(l.a::l.dx::l.m::(l.rd++(l.ns++[a]).flatMap NdA.all))=l.all++a.all:=by simp [LayS.all]
  rw [e,List.nodup_append]
  exact⟨S.nodup,hnd,λx hx y hy z=>hnew y hy (z ▸ hx)⟩
 ·show((σ.nodes++[nd]).map (·.id)).Nodup
  rw [List.map_append,List.nodup_append]
  refine⟨S.ids,by simp,λx hx y hy z=>?_⟩
  obtain⟨n',hn',rfl⟩:=List.mem_map.mp hx
  have hy:y=nd.id:=by simpa using hy
  exact hid n' hn' (z.trans hy)
end
end
section
theorem jb0 (x:Rd O M h k v (objD a)):v=.ref a:=by
 generalize hd:objD a=d at x
 cases x <;> (unfold objD at hd; try (cases hd; done))
 simp only [PyData.dict.injEq,List.cons.injEq,Prod.mk.injEq,PyData.int.injEq,and_true] at hd
 have:=Int.ofNat.inj hd
 rw [this]
theorem Run.ev {W:Avoid}(r:Run c O M W ρ s)(x:EvS (c.g.now s r.act.up) c.n ρ e d k)
  (q:∀v s',Keeps s s'->Rd O M s'.heap k v d->Run c O M W ρ s'->Q v s'):wpAny c.g.M c.Ar (eval e c.env) Q E s :=
 wpAny_mono (x O M c.env c.Ar s E (Glob.now_up _) r.rm r.act.aO r.act.aM r.act.eo) (λv s' ⟨k,rd⟩=>q v s' k rd (r.keeps k)) λzw zw z=>z
theorem Run.e0 {W:Avoid}(r:Run c O M W ρ s)(x:EvS (c.g.now s r.act.up) c.n ρ e d 0)
  (q:∀v s',Keeps s s'->Rd O M s'.heap 0 v d->Run c O M W ρ s'->Q v s'):wpAny c.g.M c.Ar (eval e c.env) Q E s:=r.ev x q
theorem Run.test {W:Avoid}{b:Bool}{Q:Bool->Shared->Prop}(r:Run c O M W ρ s)(x:TestS (c.g.now s r.act.up) c.n ρ e b)
  (q:∀s',Keeps s s'->Run c O M W ρ s'->Q b s'):wpAny c.g.M c.Ar (isTrue e c.env (eval e c.env)) Q E s :=
 wpAny_mono (x O M c.env c.Ar s E (Glob.now_up _) r.rm r.act.aO r.act.aM r.act.eo) (λv s' ⟨k,rd⟩=>by subst rd; exact q s' k (r.keeps k)) λzw zw z=>z
section
variable {g:Glob} {T:Topo} {s:Shared} {l:LayS} {σ:SS} {A:Around} {E:Value->Shared->Prop} {Q:Value->Shared->Prop} {b:Bool}
theorem qp3 (S:Srt g T s.heap l σ)(X:g.K.In s.heap)(TK:TopoOk g.K T)(q:Q (.ref l.m) { s with toks:=s.toks+1 }):wpAny g.M A (getAttr (.ref l.a) "_node2info" b) Q E s:=by
 obtain⟨t1,t2,t3,t4,to,tf,n,I⟩:=S.instAt
 exact js3 X I (TK.c.get _) TK.dict TK.a1.find rfl rfl rfl q
theorem qp2 (S:Srt g T s.heap l σ)(X:g.K.In s.heap)(TK:TopoOk g.K T)(q:Q (rvOf l.rd) { s with toks:=s.toks+1 }):wpAny g.M A (getAttr (.ref l.a) "_ready_nodes" b) Q E s:=by
 obtain⟨t1,t2,t3,t4,to,tf,n,I⟩:=S.instAt
 exact js3 X I (TK.c.get _) TK.dict TK.a2.find rfl rfl (by cases l.rd <;> rfl) q
theorem ui0 (S:Srt g T s.heap l σ)(X:g.K.In s.heap)(TK:TopoOk g.K T)(q:∀t,Q (.int σ.out t) { s with toks:=s.toks+1 }):wpAny g.M A (getAttr (.ref l.a) "_npassedout" b) Q E s:=by
 obtain⟨t1,t2,t3,t4,to,tf,n,I⟩:=S.instAt
 exact js3 X I (TK.c.get _) TK.dict TK.a3.find rfl rfl rfl (q _)
theorem ui2 (S:Srt g T s.heap l σ)(X:g.K.In s.heap)(TK:TopoOk g.K T)(q:∀t,Q (.int σ.fin t) { s with toks:=s.toks+1 }):wpAny g.M A (getAttr (.ref l.a) "_nfinished" b) Q E s:=by
 obtain⟨t1,t2,t3,t4,to,tf,n,I⟩:=S.instAt
 exact js3 X I (TK.c.get _) TK.dict TK.a4.find rfl rfl rfl (q _)
theorem jt7 (S:Srt g T s.heap l σ)(X:g.K.In s.heap)(TK:TopoOk g.K T){name:Str}{f:Addr}{pl:Sem Bool}{Q:Value×List Value->Shared->Prop}(m:MethK g.K T.C name f)(hn:("_node2info":Str)≠name/\("_ready_nodes":Str)≠name/\("_npassedout":Str)≠name/\("_nfinished":Str)≠name)
  (q:Q (.ref f,[.ref l.a]) s):wpAny g.M A (getMethod (.ref l.a) name pl) Q E s:=by
 obtain⟨t1,t2,t3,t4,to,tf,n,I⟩:=S.instAt
 refine uf6 X I (TK.c.get _) m.find m.fn ?_ q
 unfold getL jl9
 simp [Value.isStr,hn.1,hn.2.1,hn.2.2.1,hn.2.2.2,DictEntry.refKey]
end
section
variable {g:Glob} {T:Topo} {s:Shared} {a:NdA} {nd:Nd} {A:Around} {E:Value->Shared->Prop} {Q:Value->Shared->Prop} {b:Bool}
theorem NodeAt.instAt (S:NodeAt T h a nd):∃t1 t2,InstAt h a.info { cls:=.ref T.N,dict:=some a.dct,data:=.plain,slots:=#[some (.int nd.id t1),some (.int nd.np t2),some (.ref a.suc)] } T.N (some emptyDict):=by
 obtain⟨⟨t1,t2,h1⟩,h2,h3⟩:=S
 exact⟨t1,t2,h1,rfl,rfl,h2⟩
theorem get_node (S:NodeAt T s.heap a nd)(X:g.K.In s.heap)(TK:TopoOk g.K T)(q:∀t,Q (.int nd.id t) { s with toks:=s.toks+1 }):wpAny g.M A (getAttr (.ref a.info) "node" b) Q E s:=by
 obtain⟨t1,t2,I⟩:=S.instAt
 exact jt9 X I (TK.n.get _) TK.n.cls TK.s0.find TK.s0.get TK.s0.takes TK.s0.slot rfl rfl (q _)
theorem ui1 (S:NodeAt T s.heap a nd)(X:g.K.In s.heap)(TK:TopoOk g.K T)(q:∀t,Q (.int nd.np t) { s with toks:=s.toks+1 }):wpAny g.M A (getAttr (.ref a.info) "npredecessors" b) Q E s:=by
 obtain⟨t1,t2,I⟩:=S.instAt
 exact jt9 X I (TK.n.get _) TK.n.cls TK.s1.find TK.s1.get TK.s1.takes TK.s1.slot rfl rfl (q _)
theorem qp1 (S:NodeAt T s.heap a nd)(X:g.K.In s.heap)(TK:TopoOk g.K T)(q:Q (.ref a.suc) { s with toks:=s.toks+1 }):wpAny g.M A (getAttr (.ref a.info) "successors" b) Q E s:=by
 obtain⟨t1,t2,I⟩:=S.instAt
 exact jt9 X I (TK.n.get _) TK.n.cls TK.s2.find TK.s2.get TK.s2.takes TK.s2.slot rfl rfl q
end
section
variable {g:Glob} {T:Topo} {s:Shared} {l:LayS} {σ:SS} {A:Around} {E:Value->Shared->Prop} {Q:Unit->Shared->Prop}
theorem jb5 {x:Addr}(hs:Heap.SameBut x h h'){W:Avoid}(hx:W x){tk:Nat}(e:s.heap=h):Cx W No s { s with heap:=h',toks:=tk } :=
 .of_chg ⟨⟨h',tk,rfl⟩,λb o hb eb=>(hs.2 b λz=>hb (z ▸ hx)).trans (e ▸ eb)⟩
theorem uc8 (S:Srt g T s.heap l σ)(X:g.K.In s.heap)(TK:TopoOk g.K T){i:Nat}{a:NdA}{nd:Nd}(h1:l.ns[i]?=some a)(h2:σ.nodes[i]?=some nd){z:Int}{t:Tok}
  (q:∀s',Cx (λb=>b=a.info) No s s'->Srt g T s'.heap l (σ.upd nd.id λn=>{ n with np:=z })->Q () s'):wpAny g.M A (setAttr (.ref a.info) "npredecessors" (.int z t)) Q E s:=by
 have N:=S.nds i a nd h1 h2
 obtain⟨t1,t2,I⟩:=N.instAt
 refine jo1 X I TK.n.set TK.n.over TK.s1.taker TK.s1.type TK.s1.slot (by decide) rfl rfl λh' hs ho=>q _ (jb5 (W:=λb=>b=a.info) hs rfl rfl) ?_
 have off:∀b,b∈a.all->b≠a.info->∀o,s.heap.get? b=some o->h'.get? b=some o:=λb zw hb o e=>(hs.2 b hb).trans e
 have nd':a.all.Nodup:=by
  have:=S.nodup
  have:=(List.pairwise_flatMap.mp (List.nodup_append.mp (List.nodup_cons.mp (List.nodup_cons.mp (List.nodup_cons.mp this).2).2).2).2.1).1 a (List.mem_of_getElem? h1)
  exact this
 simp only [NdA.all,List.nodup_cons,List.mem_cons,List.not_mem_nil,or_false,not_or] at nd'
 refine S.node (f:=λn=>{ n with np:=z }) (λzw=>rfl) h1 h2 ⟨⟨t1,t,ho⟩,off _ (by simp [NdA.all]) (λz=>nd'.1.1 z.symm) _ N.2.1,N.2.2.keeps λo=>off _ (by simp [NdA.all]) (λz=>nd'.1.2 z.symm) o⟩ λb o hb hn e=>(hs.2 b λz=>hn (by rw [z]; simp [NdA.all])).trans e
theorem uc9 (S:Srt g T s.heap l σ)(X:g.K.In s.heap)(TK:TopoOk g.K T){i:Nat}{a:NdA}{nd:Nd}(h1:l.ns[i]?=some a)(h2:σ.nodes[i]?=some nd){z:Int}{t:Tok}
  (q:∀s',Cx l.W No s s'->Srt g T s'.heap l (σ.upd nd.id λn=>{ n with np:=z })->Q () s'):wpAny g.M A (setAttr (.ref a.info) "npredecessors" (.int z t)) Q E s :=
 uc8 S X TK h1 h2 λs' c=>q s' (c.mono (λb hb=>by rw [hb]; exact jy5 h1 (by simp [NdA.all])) λzw h=>h)
theorem set_rdy (S:Srt g T s.heap l σ)(X:g.K.In s.heap)(TK:TopoOk g.K T)(hr:l.rd=[]){r:Addr}{xs:List Int}(hx:Ints s.heap r xs)(hn:r∉l.all)
  (q:∀s',Cx l.W No s s'->Srt g T s'.heap { l with rd:=[r] } { σ with ready:=some xs }->Q () s'):wpAny g.M A (setAttr (.ref l.a) "_ready_nodes" (.ref r)) Q E s:=by
 obtain⟨t1,t2,t3,t4,to,tf,n,I⟩:=S.instAt
 refine jg3 (es':=jl9 g.w t1 t2 t3 t4 l.m (.ref r) σ.out σ.fin to tf) X I rfl TK.c.set TK.c.over TK.a2.taker TK.dict rfl rfl (show 4<=1000 by decide) λh' hs ho=>q _ (jb5 (W:=l.W) hs (show l.dx∈l.all by simp [LayS.all]) rfl) ?_
 refine S.fields (σ':={ σ with ready:=some xs }) (rd':=[r]) hs ho rfl (rdy1 (hx.keeps λo e=>(hs.2 r λz=>hn (by rw [z]; simp [LayS.all])).trans e)) ?_
 have nd:=S.nodup
 show(l.a::l.dx::l.m::([r]++l.ns.flatMap NdA.all)).Nodup
 unfold LayS.all at nd hn
 rw [hr] at nd hn
 simp only [List.nodup_cons,List.nil_append,List.mem_cons,List.cons_append,not_or] at nd hn ⊢
 exact⟨⟨nd.1.1,nd.1.2.1,λz=>hn.1 z.symm,nd.1.2.2⟩,⟨nd.2.1.1,λz=>hn.2.1 z.symm,nd.2.1.2⟩,⟨λz=>hn.2.2.1 z.symm,nd.2.2.1⟩,hn.2.2.2,nd.2.2.2⟩
theorem set_out (S:Srt g T s.heap l σ)(X:g.K.In s.heap)(TK:TopoOk g.K T){z:Int}{t:Tok}
  (q:∀s',Cx l.W No s s'->Srt g T s'.heap l { σ with out:=z }->Q () s'):wpAny g.M A (setAttr (.ref l.a) "_npassedout" (.int z t)) Q E s:=by
 obtain⟨t1,t2,t3,t4,to,tf,n,I⟩:=S.instAt
 refine jg3 (es':=jl9 g.w t1 t2 t3 t4 l.m (rvOf l.rd) z σ.fin t tf) X I rfl TK.c.set TK.c.over TK.a3.taker TK.dict rfl rfl (show 4<=1000 by decide) λh' hs ho=>q _ (jb5 (W:=l.W) hs (show l.dx∈l.all by first | grind [LayS.all] | simp [LayS.all]) rfl) ?_
 exact S.fields (σ':={ σ with out:=z }) (rd':=l.rd) hs ho rfl (S.rdy.keeps λb o hb e=>(hs.2 b λzz=>by
  have nd:=S.nodup
  unfold LayS.all at nd
  simp only [List.nodup_cons,List.mem_cons,List.mem_append,not_or] at nd
  exact nd.2.1.2.1 (zz ▸ hb)).trans e) S.nodup
theorem set_fin (S:Srt g T s.heap l σ)(X:g.K.In s.heap)(TK:TopoOk g.K T){z:Int}{t:Tok}
  (q:∀s',Cx l.W No s s'->Srt g T s'.heap l { σ with fin:=z }->Q () s'):wpAny g.M A (setAttr (.ref l.a) "_nfinished" (.int z t)) Q E s:=by
 obtain⟨t1,t2,t3,t4,to,tf,n,I⟩:=S.instAt
 refine jg3 (es':=jl9 g.w t1 t2 t3 t4 l.m (rvOf l.rd) σ.out z to t) X I rfl TK.c.set TK.c.over TK.a4.taker TK.dict rfl rfl (show 4<=1000 by decide) λh' hs ho=>q _ (jb5 (W:=l.W) hs (show l.dx∈l.all by first | grind [LayS.all] | simp [LayS.all]) rfl) ?_
 exact S.fields (σ':={ σ with fin:=z }) (rd':=l.rd) hs ho rfl (S.rdy.keeps λb o hb e=>(hs.2 b λzz=>by
  have nd:=S.nodup
  unfold LayS.all at nd
  simp only [List.nodup_cons,List.mem_cons,List.mem_append,not_or] at nd
  exact nd.2.1.2.1 (zz ▸ hb)).trans e) S.nodup
end
end
noncomputable def qd0 (K:Frag) (cd:Value) (q:Str):Bool:=match cd with
 | .ref c=>match K.lookup c with
  | some ⟨_,_,.fields vs,_⟩=>match (vs[1]?:Option Value) with
   | some (.str q' _)=>q'==q
   | _=>false
  | _=>false
 | _=>false
set_option tactic.hygienic true in
theorem ji6 {K:Frag}{cd:Value}{q:Str}(X:K.In h)(e:qd0 K cd q=true):h.CodeRec cd q:=by
 cases cd <;> try exact nb e
 rename_i c
 cases hk:K.lookup c with
 | none=>exact nb ((congrArg (λz=>(match z with
   | some ⟨_,_,.fields vs,_⟩=>(match (vs[1]?:Option Value) with
    | some (.str q' _)=>q'==q
    | _=>false)
   | _=>false:Bool)) hk).symm.trans e)
 | some o =>
  have e:=(congrArg (λz=>(match z with
   | some ⟨_,_,.fields vs,_⟩=>(match (vs[1]?:Option Value) with
    | some (.str q' _)=>q'==q
    | _=>false)
   | _=>false:Bool)) hk).symm.trans e
  obtain⟨cls,dd,data,sl⟩:=o
  cases data <;> try exact nb e
  rename_i vs
  cases hq:(vs[1]?:Option Value) with
  | none=>exact nb ((congrArg (λz=>(match z with
    | some (.str q' _)=>q'==q
    | _=>false:Bool)) hq).symm.trans e)
  | some v =>
   have e:=(congrArg (λz=>(match z with
    | some (.str q' _)=>q'==q
    | _=>false:Bool)) hq).symm.trans e
   cases v <;> try exact nb e
   have:=beq_iff_eq.mp e
   subst this
   exact⟨_,_,_,_,rfl,X _ _ hk,rfl,hq⟩
structure FnK (K:Frag) (f:Addr) (body:List Stmt) (names:List (Str×NameKind)) (params:List Str) (code:Value):Prop where
 ex:∃c dd fd sl,K.lookup f=some ⟨c,dd,.func fd,sl⟩/\FnData fd body/\fd.closure=[]/\qd0 K fd.code fd.qualname=true/\fd.scope.names=names/\fd.code=code/\(∀vs:List Value,vs.length=params.length->bindArgs fd ⟨vs,[]⟩=pure (params.zip vs))
 nm:jh7 names []=true
noncomputable abbrev retOf (f:Flow):Value:=match f with | .ret v=>v | _=>.none
noncomputable abbrev qu8 (g:Glob) (A:Around) (env:Env) (R:Result->Shared->Prop) (e:Value) (s':Shared):Prop:=wpAny g.M (A.deeper env) (leaving env e) (λzw s''=>R (.error e) s'') (λe' s''=>R (.error e') s'') s'
theorem jw6:Clos O M h [] []:=⟨λx d h=>(by cases h),λx c h=>(by cases h),λx y c h=>(by cases h)⟩
theorem jn8 {W:Avoid}{f:Addr}{body:List Stmt}{names:List (Str×NameKind)}{params:List Str}{code:Value}{vs:List Value}
  (at_:At g (n+1) A O M W F s) (fk:FnK g.K f body names params code) (rs:Rds O M s.heap 0 vs ds) (hl:ds.length=params.length) (hps:params.all (stOk ⟨names,[]⟩)=true) (hρ:je1 ⟨names,[]⟩ params ds=some ρ)
  (hbody:∀(env:Env) (P O':Avoid) (s_2:Shared),Run ⟨g,n,A,env,P,O,M,W,F,s,No,O',s_2⟩ O' No W ρ s_2->env.code=code->(∀b o,s.heap.get? b=some o->s_2.heap.get? b=some o) →
   wpAny g.M (A.deeper env) (execs body env) (λf s'=>R (.ok (.ret (retOf f))) s') (qu8 g A env R) s_2) :
  codeAny g.M A (.call (.ref f) ⟨vs,[]⟩) R s:=by
 obtain⟨⟨c,dd,fd,sl,hK,FD,hcl,hcd,hnm,hco,hb⟩,nm⟩:=fk
 subst hnm
 subst hco
 refine qq1 (clv:=[]) at_ (at_.up _ _ (g.X _ _ hK)) rfl FD ((ji6 g.X hcd).keeps at_.up) (by rw [hb vs (by rw [rs.length,hl])]; exact wpAny_pure ⟨vs,rfl,ja3 s,rs⟩) (by rw [hcl]; exact jw6) (λx b h=>by rw [hcl] at h; cases h) nm hps hρ hbody
structure Eff (W F:Avoid) (s:Shared) (W':Avoid) (s':Shared):Prop where
 cx:Cx W F s s'
 up:∀b,W b->W' b
 new:∀b,W' b->W b\/s.heap.get? b=none
 al:Alloc W' s'
theorem Run.effE {W W':Avoid}(r:Run c O M W ρ s)(e:Eff W c.Fc s W' s'):Run c (λb=>O b\/W' b) M W' ρ s':=r.eff e.cx e.up e.new e.al
theorem Run.eff_out {W:Avoid}(r:Run c O M W ρ s)(h:∀b,c.W b->W b):Eff c.W c.F c.s W s:=⟨r.cx,h,λb hb=>r.ww b hb,λb hb=>r.act.aO b (r.wo b hb)⟩
theorem Run.rd_out {W:Avoid}(r:Run c O M W ρ s)(x:Rd O M s.heap k v d):Rd (λb=>c.O b\/W b) c.M s.heap 0 v d :=
 (x.free 0).imp (λb zw h z=>h (by
  rcases z with z | z
  ·exact r.oo b (.inl z)
  ·exact r.wo b z)) (λb zw h zw z=>h (r.oo b (.inr (.inl z)))) (Nat.le_refl _)
theorem At.sub {W W':Avoid}(a:At g n A O M W F s)(h:∀b,W' b->W b):At g n A O M W' F s :=
 { a with wo:=λb hb=>a.wo b (h b hb),wf:=λb hb=>a.wf b (h b hb),wg:=λb hb=>a.wg b (h b hb) }
theorem Room.le {m:Nat}(r:Room n A)(h:m<=n):Room m A:=⟨r.handled,by have:=r.depth; grind,by have:=r.units; grind⟩
theorem At.le {m:Nat}{W:Avoid}(a:At g n A O M W F s)(h:m<=n):At g m A O M W F s:={ a with rm:=a.rm.le h }
theorem At.push {W N:Avoid}(a:At g n A O M W F s)(k:Keeps s s')(hN:∀b,N b->s.heap.get? b=none)(aN:Alloc N s'):At g n A (λb=>O b\/N b) M N F s' :=
 { a.keeps k with
  aO:=λb h=>by
   rcases h with h | h
   ·exact(a.keeps k).aO b h
   ·exact aN b h
  wo:=λb h=>.inr h
  fo:=λb h=>.inl (a.fo b h)
  wf:=λb h z=>by obtain⟨o,e⟩:=a.aF b z; rw [hN b h] at e; cases e
  wg:=λb h o e=>by have:=a.up b o e; rw [hN b h] at this; cases this }
theorem At.make {W:Avoid}{C:Addr}{rest:List Value}(a:At g (n+1) A O M W F s):At g n (A.under (.builtin "type.__call__" ⟨.ref C::rest,[]⟩)) O M W F s :=
 { a with
  rm:=⟨a.rm.handled,by have:=a.rm.depth; show A.depth+1+2*n+2 < recursionLimit; grind,by have:=a.rm.units; rw [units_under_make]; grind⟩
  frm:=⟨a.frm.fs,a.frm.gl⟩ }
set_option backward.match.sparseCases false
noncomputable def isDef (x:Str) (s:Stmt):Option (Arguments×List Stmt×Scope×Pos):=if h:s.ctorIdx=0 then Stmt.FunctionDef.elim (motive_2:=λzw=>Option (Arguments×List Stmt×Scope×Pos)) s h λn a b zw zw zw c zw zw p=>if n==x then some (a,b,c,p) else none else none
noncomputable def isCls (x:Str) (s:Stmt):Option (List Stmt):=if h:s.ctorIdx=2 then Stmt.ClassDef.elim (motive_2:=λzw=>Option (List Stmt)) s h λn zw zw b zw zw zw zw zw zw zw=>if n==x then some b else none else none
noncomputable def qp6 (ss:List Stmt) (x:Str):Arguments×List Stmt×Scope×Pos:=(ss.findSome? (isDef x)).getD (⟨[],[],none,[],[],none,[]⟩,[],default,default)
noncomputable def qp7 (ss:List Stmt) (x:Str):List Stmt×List (Str×NameKind)×List Str:=((qp6 ss x).2.1,(qp6 ss x).2.2.1.names,(qp6 ss x).1.args.map (·.arg))
noncomputable def fnOf (x:Str):=qp7 PySem.Challenge.pw_ny0325_04.main.body x
noncomputable def uj0 (ss:List Stmt) (x:Str):List Stmt:=(ss.findSome? (isCls x)).getD []
noncomputable def mOf (c x:Str):=qp7 (uj0 PySem.Challenge.pw_ny0325_04.main.body c) x
set_option backward.match.sparseCases true
noncomputable abbrev FnM (K:Frag) (f:Addr) (c x:Str) (params:List Str) (code:Value):Prop:=FnK K f (mOf c x).1 (mOf c x).2.1 params code
theorem No.le:∀b,No b->F b:=λzw h=>h.elim
theorem Run.now {W:Avoid}(r:Run c O M W ρ s):c.g.K.In s.heap:=c.g.X.keeps r.act.up
theorem Run.name {W:Avoid}{p:Pos}(r:Run c O M W ρ s)(h:ρ.vars.lookup x=some (d,k))(hd:(x==("__debug__":Str))=false)
  (q:∀v,Rd O M s.heap k v d->Q v s):wpAny c.g.M c.Ar (eval (.Name x p) c.env) Q E s:=by
 obtain⟨v,hv,hr,_⟩:=r.act.eo.vars x d k h
 exact wpAny_Name (jw8 r.act.eo.kind hv (q v hr)) hd
theorem Run.newL {W:Avoid}(r:Run c O No W ρ s)(x:EvS c.g c.n ⟨ρ.sc,[]⟩ e (.list ds) 0)
  (q:∀l s',Keeps s s'->s.heap.get? l=none->Rd O No s'.heap 0 (.ref l) (.list ds)->Run c O No W ρ s'->Q (.ref l) s'):wpAny c.g.M c.Ar (eval e c.env) Q E s :=
 wpAny_mono (uj2 x O c.env c.Ar s E r.act.up r.rm r.act.aO r.act.eo) (λv s' ⟨k,l,hv,hl,rd⟩=>by subst hv; exact q l s' k hl rd (r.keeps k)) λzw zw z=>z
theorem qx7 {x dx:Addr}{i:Int}{t:Tok}{code:Value}(at_:At g (n+1) A O M (λb=>b=x\/b=dx) F s)(TK:TopoOk g.K T)(fk:FnM g.K T.ninit "_NodeInfo" "__init__" ["self","node"] code)
  (hx:s.heap.get? x=some (instObj T.N dx)) (hd:s.heap.get? dx=some emptyDict) (hne:x≠dx)
  (q:∀s' suc,Cx (λb=>b=x\/b=dx) F s s'->NodeAt T s'.heap ⟨x,dx,suc⟩ ⟨i,0,[]⟩->s.heap.get? suc=none->R (.ok (.ret .none)) s'):codeAny g.M A (.call (.ref T.ninit) ⟨[.ref x,.int i t],[]⟩) R s:=by
 refine jn8 (ds:=[objD x,.int i]) at_ fk (.cons .obj (.cons .int .nil)) rfl rfl rfl λenv P O' s_2 r hc hk=>?_
 revert r
 (show let c:Fx:=_; Run c _ _ _ _ _->_)
 intro c r
 ((show let Q0:=_; wpAny _ _ _ Q0 _ _); intro Q0)
 conv in (mOf _ _).1=>whnf
 have hx2:=hk _ _ hx
 have hd2:=hk _ _ hd
 have al:∀(s':Shared),(∃o,s'.heap.get? x=some o)->(∃o,s'.heap.get? dx=some o)->Alloc (λb=>b=x\/b=dx) s':=λs' h1 h2 b hb=>by
  rcases hb with rfl | rfl
  ·exact h1
  ·exact h2
 refine wpAny_execs_cons (plainObj_wpAny_Assign_Attribute (r.name rfl (by decide) λv rv=>r.name rfl (by decide) λv' rv'=>?_) (ja7 rfl _ _ _))
 obtain⟨u,rfl⟩:=ja4 rv
 have:=jb0 rv'; subst this
 refine jo1 (odo:=some emptyDict) (ox':={ cls:=.ref T.N,dict:=some dx,data:=.plain,slots:=#[some (.int i u)] }) r.now ⟨hx2,rfl,rfl,hd2⟩ TK.n.set TK.n.over TK.s0.taker TK.s0.type TK.s0.slot (by decide) rfl rfl λh' hs ho=>?_
 ((show let Q0:=_; wpAny _ _ _ Q0 _ _); intro Q0)
 have hd3:=(hs.2 dx hne.symm).trans hd2
 have r:=r.eff (s':={ s_2 with heap:=h',toks:=s_2.toks+1 }) ((jb5 hs (.inl rfl) rfl).mono (λzw h=>h) No.le) (λzw h=>h) (λzw h=>.inl h) (al _ ⟨_,ho⟩ ⟨_,hd3⟩)
 refine wpAny_execs_cons (plainObj_wpAny_Assign_Attribute (r.e0 jn6 λv s_3 k_3 rv r=>r.name rfl (by decide) λv' rv'=>?_) (ja7 rfl _ _ _))
 obtain⟨u',rfl⟩:=ja4 rv
 have:=jb0 rv'; subst this
 refine jo1 (odo:=some emptyDict) (ox':={ cls:=.ref T.N,dict:=some dx,data:=.plain,slots:=#[some (.int i u),some (.int 0 u')] }) r.now ⟨ja0 k_3 _ _ ho,rfl,rfl,ja0 k_3 _ _ hd3⟩ TK.n.set TK.n.over TK.s1.taker TK.s1.type TK.s1.slot (by decide) rfl rfl λh_4 hs4 ho4=>?_
 ((show let Q0:=_; wpAny _ _ _ Q0 _ _); intro Q0)
 have hd4:=(hs4.2 dx hne.symm).trans (ja0 k_3 _ _ hd3)
 have r:=r.eff (s':={ s_3 with heap:=h_4,toks:=s_3.toks+1 }) ((jb5 hs4 (.inl rfl) rfl).mono (λzw h=>h) No.le) (λzw h=>h) (λzw h=>.inl h) (al _ ⟨_,ho4⟩ ⟨_,hd4⟩)
 have nn:=λl=>r.none0 (b:=l)
 refine wpAny_execs_cons (plainObj_wpAny_Assign_Attribute (r.newL (jz5 jj2 (by decide)) λl s_5 k_5 hl rl r=>r.name rfl (by decide) λv' rv'=>?_) (ja7 rfl _ _ _))
 have:=jb0 rv'; subst this
 refine jo1 (odo:=some emptyDict) (ox':={ cls:=.ref T.N,dict:=some dx,data:=.plain,slots:=#[some (.int i u),some (.int 0 u'),some (.ref l)] }) r.now ⟨ja0 k_5 _ _ ho4,rfl,rfl,ja0 k_5 _ _ hd4⟩ TK.n.set TK.n.over TK.s2.taker TK.s2.type TK.s2.slot (by decide) rfl rfl λh_6 hs_6 ho6=>?_
 ((show let Q0:=_; wpAny _ _ _ Q0 _ _); intro Q0)
 have hd6:=(hs_6.2 dx hne.symm).trans (ja0 k_5 _ _ hd4)
 have hl0:s.heap.get? l=none:=nn l hl
 have hlx:l≠x:=λz=>by rw [z,hx] at hl0; cases hl0
 have r:=r.eff (s':={ s_5 with heap:=h_6,toks:=s_5.toks+1 }) ((jb5 hs_6 (.inl rfl) rfl).mono (λzw h=>h) No.le) (λzw h=>h) (λzw h=>.inl h) (al _ ⟨_,ho6⟩ ⟨_,hd6⟩)
 refine wpAny_execs_nil (q _ l r.cx ⟨⟨u,u',ho6⟩,hd6,?_⟩ hl0)
 obtain⟨l',vs,m,e,h1,h2,h3,h4,h5⟩:=jc5 rl
 cases e
 exact⟨vs,m,(hs_6.2 _ hlx).trans h2,h1,by cases vs with | mk vs=>cases h3; exact .nil⟩
theorem qx5 {W:Avoid}{i:Int}{t:Tok}{code:Value}(at_:At g (n+2) A O M W F s)(TK:TopoOk g.K T)(fk:FnM g.K T.ninit "_NodeInfo" "__init__" ["self","node"] code)
  (q:∀s' (a:NdA),Cx No F s s'->NodeAt T s'.heap a ⟨i,0,[]⟩->(∀b∈a.all,s.heap.get? b=none)->a.all.Nodup->R (.ok (.ret (.ref a.info))) s'):codeAny g.M A (.call (.ref T.N) ⟨[.int i t],[]⟩) R s:=by
 have X:=g.X.keeps at_.up
 refine ug0 X TK.n.makes TK.mninit TK.tninit ?_
 have hsz:(s.heap.push emptyDict).objs.size=s.heap.objs.size+1:=Heap.size_push ..
 have k:Keeps s { s with heap:=(s.heap.push emptyDict).push (instObj T.N s.heap.objs.size) }:=⟨_,s.toks,rfl,λb o e=>Heap.get?_push_of_some _ (Heap.get?_push_of_some _ e)⟩
 have hx:((s.heap.push emptyDict).push (instObj T.N s.heap.objs.size)).get? (s.heap.objs.size+1)=some (instObj T.N s.heap.objs.size):=by rw [<- hsz]; exact Heap.get?_push_size _ rfl
 have hd:((s.heap.push emptyDict).push (instObj T.N s.heap.objs.size)).get? s.heap.objs.size=some emptyDict:=Heap.get?_push_of_some _ (Heap.get?_push_size _ rfl)
 have new:∀b,(b=s.heap.objs.size+1\/b=s.heap.objs.size)->s.heap.get? b=none:=λb hb=>je5 (ja3 s) (by
  rcases hb with rfl | rfl
  ·exact Nat.le_succ _
  ·exact Nat.le_refl _)
 have a':=(at_.push k (N:=λb=>b=s.heap.objs.size+1\/b=s.heap.objs.size) new λb hb=>by
  rcases hb with rfl | rfl
  ·exact⟨_,hx⟩
  ·exact⟨_,hd⟩).make (C:=T.N) (rest:=[.int i t])
 refine qx7 a' TK fk hx hd (Nat.succ_ne_self _) λs' suc cx N hs=>⟨rfl,?_⟩
 have hs0:s.heap.get? suc=none:=by
  cases e:s.heap.get? suc with
  | none=>rfl
  | some o=>have:=ja0 k _ _ e; rw [hs] at this; cases this
 refine q s' ⟨s.heap.objs.size+1,s.heap.objs.size,suc⟩ ?_ N (λb hb=>?_) ?_
 ·exact((Cx.of_keeps (W:=No) (F:=F) k).step cx (λb hb=>.inr (new b hb)) λzw h=>.inl h)
 ·simp only [NdA.all,List.mem_cons,List.not_mem_nil,or_false] at hb
  rcases hb with rfl | rfl | rfl
  ·exact new _ (.inl rfl)
  ·exact new _ (.inr rfl)
  ·exact hs0
 ·have h1:suc≠s.heap.objs.size+1:=λz=>by rw [z,hx] at hs; cases hs
  have h2:suc≠s.heap.objs.size:=λz=>by rw [z,hd] at hs; cases hs
  simp only [NdA.all,List.nodup_cons,List.mem_cons,List.not_mem_nil,or_false,not_or,not_false_eq_true,List.nodup_nil,and_true]
  exact⟨⟨Nat.succ_ne_self _,λz=>h1 z.symm⟩,λz=>h2 z.symm⟩
section
theorem Run.assign {W:Avoid}{p:Pos}{Q:Unit->Shared->Prop}(r:Run c O M W ρ s)(hx:stOk ρ x=true)(rv:Rd O M s.heap 0 v d)
  (q:∀s',Chg (PM c.P M) s s'->Run c O M W (ρ.put x d 0) s'->Q () s'):wpAny c.g.M c.Ar (assign (.Name x p) c.env v) Q E s :=
 jo7 (xs:=[x]) r.rm.handled r.pl r.act rfl (by simpa using hx) rv rfl λs' h1 h2=>q s' h1.pm (r.chg h1.pm h2)
theorem Run.store {W:Avoid}{Q:Unit->Shared->Prop}(r:Run c O M W ρ s)(hx:stOk ρ x=true)(rv:Rd O M s.heap 0 v d)
  (q:∀s',Chg (PM c.P M) s s'->Run c O M W (ρ.put x d 0) s'->Q () s'):wpAny c.g.M c.Ar (storeName c.env x v) Q E s :=
 jj4 r.pl r.act hx rv λs' h1 h2 zw=>q s' h1.pm (r.chg h1.pm h2)
theorem Run.assignS {W:Avoid}{np p:Pos}{Q:Flow->Shared->Prop}(r:Run c O M W ρ s)(hp:jk6 e=true)
  (h:wpAny c.g.M c.Ar (eval e c.env) (λv s_1=>wpAny c.g.M c.Ar (storeName c.env x v) (λzw s_2=>Q .next s_2) E s_1) E s):wpAny c.g.M c.Ar (exec (.Assign [.Name x np] e p) c.env) Q E s :=
 wpAny_Assign_Name h (ja7 hp _ _ _)
theorem Run.toks {W:Avoid}(r:Run c O M W ρ s)(t:Nat):Run c O M W ρ { s with toks:=t }:=r.keeps (ja5 s t)
theorem qd8 {ns:List NdA}{nodes:List Nd}(h:ns.length=nodes.length)(hid:(nodes.map (·.id)).Nodup){i:Nat}{a:NdA}{nd:Nd}(h1:ns[i]?=some a)(h2:nodes[i]?=some nd):valueAt (jf2 ns nodes) nd.id=some (.ref a.info):=by
 induction ns generalizing nodes i with
 | nil=>simp at h1
 | cons x xs ih =>
  cases nodes with
  | nil=>simp at h
  | cons y ys =>
   unfold valueAt jf2
   simp only [List.zipWith_cons_cons,List.find?_cons]
   simp only [List.map_cons,List.nodup_cons] at hid
   cases i with
   | zero =>
    simp only [List.getElem?_cons_zero,Option.some.injEq] at h1 h2
    subst h1; subst h2
    simp
   | succ i =>
    simp only [List.getElem?_cons_succ] at h1 h2
    have hne:y.id≠nd.id:=λz=>hid.1 (by rw [z]; exact List.mem_map.mpr ⟨nd,List.mem_of_getElem? h2,rfl⟩)
    rw [decide_eq_false hne]
    exact ih (by simpa using h) hid.2 h1 h2
theorem uf8 {ns:List NdA}{nodes:List Nd}{p:Int×Value}(h:p∈jf2 ns nodes):∃n∈nodes,p.1=n.id:=by
 induction ns generalizing nodes with
 | nil=>simp [jf2] at h
 | cons x xs ih =>
  cases nodes with
  | nil=>simp [jf2] at h
  | cons y ys =>
   unfold jf2 at h
   simp only [List.zipWith_cons_cons,List.mem_cons] at h
   rcases h with rfl | h
   ·exact⟨y,by simp,rfl⟩
   ·obtain⟨n,hn,e⟩:=ih h; exact⟨n,by simp [hn],e⟩
theorem zip_none {ns:List NdA}{nodes:List Nd}{k:Int}(h:∀n∈nodes,n.id≠k):valueAt (jf2 ns nodes) k=none:=by
 unfold valueAt
 rw [List.find?_eq_none.mpr]
 ·rfl
 ·intro p hp
  obtain⟨q,hq,e⟩:=uf8 hp
  have:=h q hq
  rw [e]
  simpa using this
theorem qu9 {ns:List NdA}{nodes:List Nd}{k:Int}{a:NdA}{nd:Nd}(hl:ns.length=nodes.length)(h:∀n∈nodes,n.id≠k)(hk:nd.id=k):stored (jf2 ns nodes) k (.ref a.info)=jf2 (ns++[a]) (nodes++[nd]):=by
 unfold stored
 have:((jf2 ns nodes).any λkv=>decide (kv.1=k))=false:=by
  rw [List.any_eq_false]
  intro p hp
  obtain⟨q,hq,e⟩:=uf8 hp
  have:=h q hq
  rw [e]
  simpa using this
 rw [this,if_neg (by decide)]
 unfold jf2
 rw [List.zipWith_append hl]
 simp [hk]
theorem has_iff {k:Int}:σ.has k=true↔∃(i:Nat) (nd:Nd),σ.nodes[i]?=some nd/\nd.id=k:=by
 unfold SS.has
 rw [List.any_eq_true]
 constructor
 ·rintro⟨n,hn,e⟩
  obtain⟨i,hi,rfl⟩:=List.mem_iff_getElem.mp hn
  exact⟨i,_,List.getElem?_eq_getElem hi,by simpa using e⟩
 ·rintro⟨i,nd,h,e⟩
  exact⟨nd,List.mem_of_getElem? h,by simpa using e⟩
structure LayS.Le (l l':LayS):Prop where
 a:l'.a=l.a
 dx:l'.dx=l.dx
 m:l'.m=l.m
 rd:l'.rd=l.rd
theorem LayS.Le.refl:l.Le l:=⟨rfl,rfl,rfl,rfl⟩
theorem LayS.Le.trans {l' l'':LayS}(x:l.Le l')(y:l'.Le l''):l.Le l'':=⟨y.a.trans x.a,y.dx.trans x.dx,y.m.trans x.m,y.rd.trans x.rd⟩
theorem Srt.al (S:Srt g T s.heap l σ):Alloc l.W s:=S.alloc
section
variable {g:Glob} {T:Topo} {s:Shared} {l:LayS} {σ:SS} {A:Around} {E:Value->Shared->Prop}
theorem uf3 {k:Int}{t:Tok}(S:Srt g T s.heap l σ)(h:Q ((valueAt (jf2 l.ns σ.nodes) k).getD .none) { s with toks:=s.toks+1 }):wpAny g.M A (call (.builtin "dict.get") [.ref l.m,.int k t]) Q E s :=
 call_meetsIn PySem.F.slot_dict_get S.n2i.typeIs PySem.F.entry_dict_get (PySem.F.args_dict_get_2 _ _) (meets_dict_get (intKind g.prog g.w) l.m (intKind_is g.prog g.w k t) S.sys) ⟨_,S.n2i.mapOf,h⟩
theorem qs6 {Q:Value×List Value->Shared->Prop}{pl:Sem Bool}(S:Srt g T s.heap l σ)(h:Q (.builtin "dict.get",[.ref l.m]) s):wpAny g.M A (getMethod (.ref l.m) "get" pl) Q E s :=
 getMethod_builtin S.n2i.typeIs PySem.F.plainAttrs_dict PySem.F.slot_dict_get PySem.F.type_dict_get S.n2i.mapOf.noDict h
end
end
theorem ub0 {M:Model}{o i:Expr}{Q:Unit->Shared->Prop}
  (h:wpAny M A (eval o env) (λov s_2=>wpAny M A (eval i env) (λiv s_3=>wpAny M A (setItem ov iv v) Q E s_3) E s_2) E s):wpAny M A (PySem.assign (.Subscript o i pos) env v) Q E s:=by
 rw [PySem.assign_Subscript]
 refine wpAny_bind (wpAny_holding (wpAny_mono h (λov s_2 h_2=>wpAny_bind (wpAny_holding (wpAny_mono h_2 (λiv s_3 h_3=>λΓ p hΓ=>?_) λzw zw z=>z))) λzw zw z=>z))
 rw [Sem.wp_bind',Sem.wp_cmd_standAt,Sem.wp_bind',Sem.wp_holding]
 exact Sem.wp_mono M Γ _ (λzw zw zw h'=>by rw [Sem.wp_release]; exact h') (λzw zw zw h'=>h') _ _ (h_3 Γ _ hΓ)
theorem jx2 {k:Int}(h:σ.has k=true):σ.touch k=σ:=by unfold SS.touch; rw [if_pos h]
theorem jx0 {k:Int}(h:¬σ.has k=true):σ.touch k={ σ with nodes:=σ.nodes++[⟨k,0,[]⟩] }:=by unfold SS.touch; rw [if_neg h]
theorem qt1 {k:Int}{t:Tok}{code code':Value}(at_:At g (n+3) A O M l.W F s)(TK:TopoOk g.K T)
  (fk:FnM g.K T.gni "TopologicalSorter" "_get_nodeinfo" ["self","node"] code) (fn:FnM g.K T.ninit "_NodeInfo" "__init__" ["self","node"] code') (hN:nsIn g.K mainGlobals "_NodeInfo"=some (some (.ref T.N)))
  (S:Srt g T s.heap l σ) (hb:σ.nodes.length < 1000)
  (q:∀(s':Shared) (l':LayS) (i:Nat) (a:NdA) (nd:Nd),Eff l.W F s l'.W s'->Srt g T s'.heap l' (σ.touch k)->l.Le l'->l'.ns[i]?=some a->(σ.touch k).nodes[i]?=some nd->nd.id=k->R (.ok (.ret (.ref a.info))) s') :
  codeAny g.M A (.call (.ref T.gni) ⟨[.ref l.a,.int k t],[]⟩) R s:=by
 refine jn8 (ds:=[objD l.a,.int k]) at_ fk (.cons .obj (.cons .int .nil)) rfl rfl rfl λenv P O' s_2 r hc hk=>?_
 revert r
 (show let c:Fx:=_; Run c _ _ _ _ _->_)
 intro c r
 ((show let Q0:=_; wpAny _ _ _ Q0 _ _); intro Q0)
 conv in (mOf _ _).1=>whnf
 have S2:Srt g T s_2.heap l σ:=S.keeps λb o zw=>hk b o
 refine wpAny_execs_cons (wpAny_If (wpAny_isTrue_Compare1 (wpAny_NamedExpr (MethodCall_ (Attribute_Name_ (r.name rfl (by decide) λv rv=>?_)))) rfl))
 have:=jb0 rv; subst this
 refine qp3 S2 r.now TK (qs6 (g:=g) (T:=T) (l:=l) (σ:=σ) S2 (callWith_builtin (ja9 rfl) (ja8 rfl (wpAny_items_cons ((r.toks (s_2.toks+1)).name rfl (by decide) λv rv=>wpAny_items_nil ?_) rfl))))
 obtain⟨u,rfl⟩:=ja4 rv
 refine uf3 (g:=g) (T:=T) (l:=l) (σ:=σ) S2 ?_
 have r:=r.toks (s_2.toks+1+1)
 by_cases hh:σ.has k=true
 ·
  obtain⟨i,nd,h2,hid⟩:=has_iff.mp hh
  obtain⟨a,h1⟩:∃a,l.ns[i]?=some a:=⟨_,List.getElem?_eq_getElem (by rw [S.len]; exact(List.getElem?_eq_some_iff.mp h2).1)⟩
  have e:valueAt (jf2 l.ns σ.nodes) k=some (.ref a.info):=by rw [<- hid]; exact qd8 S.len S.ids h1 h2
  rw [e]
  refine r.assign (d:=objD a.info) rfl .obj λs_3 c_3 r_3=>?_
  have S3:Srt g T s_3.heap l σ:=S2.keeps (r.same c_3)
  refine r_3.e0 jh8 λv' s_4 k_4 rv' r_4=>jf0 (g:=g) (n:=n) O' No _ s_4 _ _ _ _ (r_4.rm.le (by show n<=n+2; (exact Nat.le_add_right _ _))) (Rd.obj (k:=0) (a:=a.info)) rv' (wpAny_truthy_bool ?_)
  refine wpAny_execs_nil (wpAny_execs_cons (wpAny_Return_some (r_4.name (d:=objD a.info) (k:=0) rfl (by decide) λv rv=>?_)))
  have:=jb0 rv; subst this
  refine q s_4 l i a nd ?_ ?_ .refl h1 ?_ hid
  ·exact r_4.eff_out λzw h=>h
  ·rw [jx2 hh]; exact S3.keeps λb o zw=>ja0 k_4 b o
  ·rw [jx2 hh]; exact h2
 ·have hno:∀n∈σ.nodes,n.id≠k:=λn hn e=>hh (by
   obtain⟨i,hi,rfl⟩:=List.mem_iff_getElem.mp hn
   exact has_iff.mpr ⟨i,_,List.getElem?_eq_getElem hi,e⟩)
  have e:valueAt (jf2 l.ns σ.nodes) k=none:=zip_none hno
  rw [e]
  refine r.assign (d:=.none) rfl .none λs_3 c_3 r_3=>?_
  have S3:Srt g T s_3.heap l σ:=S2.keeps (r.same c_3)
  refine r_3.e0 jh8 λv' s_4 k_4 rv' r_4=>jf0 (g:=g) (n:=n) O' No _ s_4 _ _ _ _ (r_4.rm.le (by show n<=n+2; (exact Nat.le_add_right _ _))) (Rd.none (k:=0)) rv' (wpAny_truthy_bool ?_)
  ((show let Q0:=_; let E0:=_; wpAny _ _ _ Q0 E0 _); intro Q0 E0)
  have S4:Srt g T s_4.heap l σ:=S3.keeps λb o zw=>ja0 k_4 b o
  refine wpAny_execs_cons (wpAny_Assign_two ?_)
  ((show let Q0:=_; wpAny _ _ _ Q0 _ _); intro Q0)
  refine Call_ (je8 r_4.act.up r_4.act.eo rfl hN (by decide) (callWith_K r_4.now TK.n.keep (wpAny_items_cons (r_4.name (d:=.int k) (k:=0) rfl (by decide) λv rv=>wpAny_items_nil ⟨r_4.now,?_⟩) rfl)))
  obtain⟨u',rfl⟩:=ja4 rv
  refine wpAny_call (qx5 (n:=n) (r_4.at) TK fn λs_5 a cx5 N5 new nda=>?_)
  ((show let Q0:=_; wpAny _ _ _ Q0 _ _); intro Q0)
  let l':LayS:={ l with ns:=l.ns++[a] }
  have W5:Alloc (λb=>l.W b\/b∈a.all) s_5:=λb hb=>by
   rcases hb with hb | hb
   ·obtain⟨o,e⟩:=S4.al b hb
    obtain⟨⟨sl,e'⟩,_⟩:=cx5.2 b o id e
    exact⟨_,e'⟩
   ·obtain⟨⟨t1,t2,e1⟩,e2,vs,m,e3,_⟩:=N5
    simp only [NdA.all,List.mem_cons,List.not_mem_nil,or_false] at hb
    rcases hb with rfl | rfl | rfl
    ·exact⟨_,e1⟩
    ·exact⟨_,e2⟩
    ·exact⟨_,e3⟩
  have r_5:=r_4.eff (W':=λb=>l.W b\/b∈a.all) (cx5.mono No.le λzw h=>h) (λzw h=>.inl h) (λb hb=>by
   rcases hb with hb | hb
   ·exact .inl hb
   ·exact .inr (new b hb)) W5
  have S5:Srt g T s_5.heap l σ:=S4.keeps λb o hb e=>(cx5.2 b o id e).2 (r_4.at.wf b hb)
  refine ub0 (Attribute_Name_ (r_5.name (d:=objD l.a) (k:=0) rfl (by decide) λv rv=>?_))
  ((show let Q0:=_; wpAny _ _ _ Q0 _ _); intro Q0)
  have:=jb0 rv; subst this
  refine qp3 S5 r_5.now TK ((r_5.toks (s_5.toks+1)).name (d:=.int k) (k:=0) rfl (by decide) λv rv=>?_)
  obtain⟨u'',rfl⟩:=ja4 rv
  have hlen:(jf2 l.ns σ.nodes).length<=sizeLine:=by
   have:(jf2 l.ns σ.nodes).length<=1000:=by unfold jf2; rw [List.length_zipWith]; have:=S.big; omega
   have hs:(1000:Nat)<=sizeLine:=by decide
   (exact Nat.le_trans (by assumption) (by assumption))
  refine wpAny_setItem_pairs (intKind_is g.prog g.w k u'') S5.n2i (λh_6 hd6 hs_6=>?_) hlen
  rw [qu9 (nd:=⟨k,0,[]⟩) S.len hno rfl] at hd6
  have off:∀b,b∈a.all->b≠l.m:=λb hb z=>by
   have h1:=new b hb
   obtain⟨o,e⟩:=S4.al l.m (show l.m∈l.all by simp [LayS.all])
   rw [<- z,h1] at e; cases e
  have S6:Srt g T h_6 l' (σ.touch k):=by
   rw [jx0 hh]
   refine S5.insert hd6 (λb o zw hb e=>(hs_6.2 b hb).trans e) (N5.keeps λb o hb e=>(hs_6.2 b (off b hb)).trans e) (λb hb hl=>?_) nda hno hb
   obtain⟨o,e⟩:=S4.al b hl
   rw [new b hb] at e; cases e
  have hW:∀b,(l.W b\/b∈a.all)->l'.W b:=λb hb=>by
   have e:l'.all=l.all++a.all:=by simp [l',LayS.all]
   show b∈l'.all
   rw [e]; exact List.mem_append.mpr hb
  have hW':∀b,l'.W b->(l.W b\/b∈a.all):=λb hb=>by
   have e:l'.all=l.all++a.all:=by simp [l',LayS.all]
   have hb:b∈l'.all:=hb
   rw [e] at hb; exact List.mem_append.mp hb
  have r6:=(r_5.toks (s_5.toks+1)).eff (W':=l'.W) (s':={ s_5 with heap:=h_6,toks:=s_5.toks+1+1 }) ((jb5 (s:={ s_5 with toks:=s_5.toks+1 }) hs_6 (.inl (show l.m∈l.all by simp [LayS.all])) rfl).mono (λzw h=>h) No.le) hW (λb hb=>.inl (hW' b hb)) S6.al
  refine r6.assign (d:=objD a.info) rfl .obj λs7 c7 r7=>wpAny_execs_nil ?_
  refine wpAny_execs_cons (wpAny_Return_some (r7.name (d:=objD a.info) (k:=0) rfl (by decide) λv rv=>?_))
  have:=jb0 rv; subst this
  have S7:Srt g T s7.heap l' (σ.touch k):=S6.keeps (r6.same c7)
  refine q s7 l' l.ns.length a ⟨k,0,[]⟩ (r7.eff_out λb hb=>hW b (.inl hb)) S7 ⟨rfl,rfl,rfl,rfl⟩ (by simp [l']) ?_ rfl
  rw [jx0 hh,S.len]; simp
noncomputable def um3 (c:Fx) (M:Avoid) (J B:Avoid->Rho->Shared->Prop) (V:Value->Avoid->Avoid->Rho->Shared->Prop) (fl:Flow) (s:Shared):Prop:=match fl with
 | .next | .cont=>∃O W ρ,Run c O M W ρ s/\J W ρ s
 | .brk=>∃O W ρ,Run c O M W ρ s/\B W ρ s
 | .ret v=>∃O W ρ,Run c O M W ρ s/\V v O W ρ s
noncomputable def Stays (J:Avoid->Rho->Shared->Prop):Prop:=∀W ρ s s',J W ρ s->(∀b o,W b->s.heap.get? b=some o->s'.heap.get? b=some o)->J W ρ s'
noncomputable def StaysX (X:Avoid) (J:Avoid->Rho->Shared->Prop):Prop:=∀W ρ s s',J W ρ s->(∀b o,W b\/X b->s.heap.get? b=some o->s'.heap.get? b=some o)->J W ρ s'
theorem Run.subW {W W':Avoid}(r:Run c O M W ρ s)(h:∀b,W' b->W b):Run c O M W' ρ s :=
 { r with wo:=λb hb=>r.wo b (h b hb),ww:=λb hb=>r.ww b (h b hb),wp:=λb hb=>r.wp b (h b hb),zo:=λb hb=>let z:=r.zo b hb; ⟨z.1,z.2.1,z.2.2.1,λhw=>z.2.2.2.1 (h b hw),z.2.2.2.2⟩ }
theorem Run.addW {W W':Avoid}(r:Run c O M W ρ s)(ho:∀b,W' b->O b)(hw:∀b,W' b->c.W b\/c.s.heap.get? b=none)(hp:∀b,W' b->Off c M b)(hz:∀b,c.Z b->¬W' b):Run c O M W' ρ s :=
 { r with wo:=ho,ww:=hw,wp:=hp,zo:=λb hb=>let z:=r.zo b hb; ⟨z.1,z.2.1,z.2.2.1,hz b hb,z.2.2.2.2⟩ }
structure ItrX (g:Glob) (A:Around) (X:Avoid) (tt:Bool) (it:Value) (ds:List D) (O M W:Avoid) (s s_1:Shared) (St:Nat->Heap->Prop):Prop where
 start:St 0 s_1.heap
 wnew:∀b,W b->s.heap.get? b=none/\∃o,s_1.heap.get? b=some o
 kinds:∀i h,St i h->∀b,W b->∃o,h.get? b=some o/\isFS o=true
 frame:∀i h h',St i h->(∀b o,(¬O b\/X b)->¬M b->(∃o',s_1.heap.get? b=some o')->h.get? b=some o->h'.get? b=some o)->St i h'
 item:∀(O' M':Avoid) i d (t:Shared) (target:Expr) (E:Value->Shared->Prop) (Q:Value->Shared->Prop),Wid O W O' s_1->Wid M W M' s_1->Tgt tt target->ds[i]?=some d->St i t.heap->Alloc O' t->Alloc M' t →
  (∀v t_2,Chg W t t_2->Rd O' M' t_2.heap 0 v d->St (i+1) t_2.heap->Q v t_2) →
  wpAny g.M A (pyNext it) (λr t_1=>∃v,r=some v/\wpAny g.M A (letOwnedTupleGo target it v) (λzw t_2=>Q v t_2) E t_1) E t
 done:∀(t:Shared) (E:Value->Shared->Prop) (Q:Option Value->Shared->Prop),St ds.length t.heap->(∀t_1,Chg W t t_1->Q none t_1)->wpAny g.M A (pyNext it) Q E t
noncomputable def um6 (g:Glob) (n:Nat) (X:Avoid) (ρ:Rho) (tt:Bool) (e:Expr) (ds:List D):Prop :=
 ∀(O M:Avoid) (env:Env) (A:Around) (s:Shared) (E:Value->Shared->Prop) (Q:Value->Shared->Prop),g.Up s->Room n A->Alloc O s->Alloc M s->EnvOk O M ρ env s.heap->(∀b,X b->¬M b) →
  (∀it s_1 W St,Keeps s s_1->ItrX g A X tt it ds O M W s s_1 St->Q it s_1)->wpAny g.M A (eval e env) (λx s'=>wpAny g.M A (pyIter x) Q E s') E s
theorem IterS.toX {X:Avoid}{tt:Bool}(I:IterS g n ρ tt e ds):um6 g n X ρ tt e ds:=λO M env A s E Q u rm aO aM eo hXM q =>
 I O M env A s E Q u rm aO aM eo λit s_1 W St k x=>q it s_1 W St k ⟨x.start,x.wnew,x.kinds,λi h h' st hk=>x.frame i h h' st λb o ho hm=>hk b o (.inl ho) hm,x.item,x.done⟩
theorem Run.forX {X:Avoid}{W:Avoid}{body:List Stmt}{p:Pos}{xs:List Str}{items:List D}{Q:Flow->Shared->Prop}(r:Run c O M W ρ s)
  (hn:jb3 target=some xs) (hs:jh4 iter=true) (hX:∀b,X b->(∃o,s.heap.get? b=some o)/\¬c.P b/\¬M b/\¬W b/\¬c.Fc b) (I:um6 (c.g.now s r.act.up) c.n X ρ (ttOf target) iter items)
  (J:Nat->Avoid->Rho->Shared->Prop) (B:Avoid->Rho->Shared->Prop) (V:Value->Avoid->Avoid->Rho->Shared->Prop) (hJ:∀i,StaysX X (J i)) (h0:J 0 W ρ s)
  (hx:∀(i:Nat) d W' ρ' s',items[i]?=some d->J i W' ρ' s'->xs.all (stOk ρ')=true/\∃ρ1,js7 ρ' target d=some ρ1)
  (hst:∀(Z O0:Avoid) (t:Shared) (i:Nat) d O' W' ρ' ρ1 s' E',items[i]?=some d->js7 ρ' target d=some ρ1->J i W' ρ' s'->Run (c.prot Z O0 t) O' M W' ρ1 s' →
   wpAny c.g.M c.Ar (execs body c.env) (um3 (c.prot Z O0 t) M (J (i+1)) B V) E' s')
  (hend:∀O' W' ρ' s',(∀b,O b->O' b)->Run c O' M W' ρ' s'->J items.length W' ρ' s'->Q .next s') (hbrk:∀O' W' ρ' s',(∀b,O b->O' b)->Run c O' M W' ρ' s'->B W' ρ' s'->Q .next s') (hret:∀v O' W' ρ' s',(∀b,O b->O' b)->Run c O' M W' ρ' s'->V v O' W' ρ' s'->Q (.ret v) s') :
  wpAny c.g.M c.Ar (exec (.For target iter body [] p) c.env) Q E s:=by
 refine wpAny_For ?_ (jd3 hs c.env)
 refine I O M c.env c.Ar s E _ (Glob.now_up _) r.rm r.act.aO r.act.aM r.act.eo (λb hb=>(hX b hb).2.2.1) λit s_1 Wi St k_1 it1=>?_
 have hW:∀b,Wi b->s.heap.get? b=none:=λb hb=>(it1.wnew b hb).1
 have r_1:=r.keeps k_1
 let Zi:Avoid:=λb=>(¬O b\/X b)/\¬M b/\∃o,s_1.heap.get? b=some o
 have zP:∀b,(¬O b\/X b)->¬c.P b/\¬c.Fc b:=λb hb=>by
  rcases hb with hb | hb
  ·exact⟨λz=>hb (r.pl.po b z),λz=>hb (r.fcO b z)⟩
  ·exact⟨(hX b hb).2.1,(hX b hb).2.2.2.2⟩
 have old:∀b,(∃o,s.heap.get? b=some o)->¬Wi b:=λb ⟨o,e⟩ z=>by rw [hW b z] at e; cases e
 have start:∃O',(∀b,O' b↔O b\/Wi b)/\Run c O' M W ρ s_1:=by
  refine⟨λb=>O b\/Wi b,λzw=>Iff.rfl,{ r_1 with act:=?_,pl:=⟨r.pl.store,λb h=>.inl (r.pl.po b h),r.pl.pg,r.pl.live⟩,oo:=λb h=>.inl (r.oo b h),on:=λb h=>?_,lo:=.inl r.lo,nf:=λb hb z=>?_,wo:=λb h=>.inl (r.wo b h),oz:=λb h=>?_,ou:=λb h=>.inl (r.ou b h) }⟩
  ·refine⟨r_1.act.up,λb h=>?_,r_1.act.aM,(r.act.eo.wid (O':=λb=>O b\/Wi b) λb h=>by
    rcases h with h | h
    ·exact .inl h
    ·exact .inr (hW b h)).keeps (ja0 k_1),r_1.act.fo⟩
   rcases h with h | h
   ·exact r_1.act.aO b h
   ·exact(it1.wnew b h).2
  ·rcases h with h | h
   ·exact r.on b h
   ·exact .inr (.inr (r.none0 (hW b h)))
  ·rcases z with z | z
   ·exact r.nf b hb z
   ·exact old b (r.act.aM b hb) z
  ·rcases h with h | h
   ·exact r.oz b h
   ·right
    cases e:c.zs.heap.get? b with
    | none=>rfl
    | some o=>exact absurd h (old b (r.zx b ⟨o,e⟩))
 obtain⟨Os,hOs,rs⟩:=start
 have hZW:∀b,Zi b->¬W b:=λb hz hw=>by
  rcases hz.1 with h | h
  ·exact h (r.wo b hw)
  ·exact(hX b h).2.2.2.1 hw
 refine codeAny_forLoop_any (prog:=c.g.prog) (w:=c.g.w) (λk t=>∃i O' W' ρ',k=items.length+1 - i/\i<=items.length/\St i t.heap/\Run c O' M W' ρ' t/\J i W' ρ' t/\(∀b,O b\/Wi b->O' b)/\(∀b,O' b->O b\/Wi b\/s_1.heap.get? b=none)/\(∀b,Zi b->¬W' b/\∃o,t.heap.get? b=some o)) ?_ (items.length+1)
  ⟨0,Os,W,ρ,rfl,Nat.zero_le _,it1.start,rs,hJ 0 _ _ _ _ h0 (λb o zw e=>ja0 k_1 _ _ e),λb h=>(hOs b).mpr h,λb h=>by
   rcases(hOs b).mp h with h | h
   ·exact .inl h
   ·exact .inr (.inl h),λb h=>⟨hZW b h,h.2.2⟩⟩
 intro k t hinv
 ((show let Q0:=_; let E0:=_; wpAny _ _ _ Q0 E0 _); intro Q0 E0)
 refine wp_q λQ_0 hQ0=>?_
 obtain⟨i,O',W',ρ',rfl,hi,st,rt,jt,hO1,hO2,hZt⟩:=hinv
 have kd:=it1.kinds i _ st
 have wW:∀b,Wi b->¬W' b:=λb hb=>(hZt b ⟨.inl λz=>old b (r.act.aO b z) hb,λz=>old b (r.act.aM b z) hb,(it1.wnew b hb).2⟩).1
 have stepW:∀(t_2:Shared),Chg Wi t t_2->(∀b,Wi b->∃o,t_2.heap.get? b=some o)->Run c O' M W' ρ' t_2/\J i W' ρ' t_2/\(∀b,Zi b->¬W' b/\∃o,t_2.heap.get? b=some o):=λt_2 chW lvW=>by
  have lv:∀b,(∃o,t.heap.get? b=some o)->∃o,t_2.heap.get? b=some o:=λb ⟨o,e⟩=>by
   by_cases hb:Wi b
   ·exact lvW b hb
   ·exact⟨o,chW.2 b o hb e⟩
  have gW:∀b o,c.g.h.get? b=some o->¬Wi b:=λb o e=>old b ⟨o,r.act.up b o e⟩
  have a_2:Act c.g O' M ρ' c.env t_2:=rt.act.chgW chW (λb h=>hO1 b (.inr h)) kd lvW gW
  refine⟨{ rt with act:=a_2,aw:=λb hb=>lv b (rt.aw b hb),ca:=λy b h=>lv b (rt.ca y b h),frm:=rt.frm.cx (W:=Wi) (F':=No) (.of_chg chW) (λb hb z=>?_),cx:=rt.cx.step (W:=Wi) (F:=No) (.of_chg chW) (λb hb=>.inr (r.none0 (hW b hb))) (λzw h=>h.elim),zk:=λb o hb e=>chW.2 b o (λz=>?_) (rt.zk b o hb e),zx:=λb h=>lv b (rt.zx b h) },hJ i _ _ _ _ jt λb o hb e=>chW.2 b o (λz=>by
    rcases hb with hb | hb
    ·exact wW b z hb
    ·exact old b (hX b hb).1 z) e,λb hb=>⟨(hZt b hb).1,lv b (hZt b hb).2⟩⟩
  ·obtain⟨o,e⟩:=r.aF b z
   rw [r.none0 (hW b hb)] at e; cases e
  ·exact old b (r.zx b (r.zo b hb).1) z
 by_cases hlt:i < items.length
 ·have hd:items[i]?=some items[i]:=List.getElem?_eq_getElem hlt
  have wdO:Wid O Wi O' s_1:=⟨λb h=>hO1 b (.inl h),λb h=>hO2 b h⟩
  refine' wpAny_mono (it1.item O' M i _ t target _ _ wdO Wid.refl (jm4 hn) hd st rt.act.aO rt.act.aM _) (λr t_1 h=>hQ0 _ _ (Exists.elim h λv h=>h.1 ▸ h.2)) λzw zw z=>z
  intro v t_2 chW rv st2
  ((show let Q0:=_; let E0:=_; wpAny _ _ _ Q0 E0 _); intro Q0 E0)
  have kd2:=it1.kinds _ _ st2
  obtain⟨r_2,j2,z_2⟩:=stepW t_2 chW λb h=>(kd2 b h).elim λo zq=>zq.elim λe zw=>⟨o,e⟩
  obtain⟨hxs,ρ1,hb⟩:=hx i _ _ _ _ hd j2
  refine jo7 (A:=c.Ar) r.rm.handled r_2.pl r_2.act hn hxs rv hb λt_3 c_3 a_3=>?_
  ((show let Q0:=_; wpAny _ _ _ Q0 _ _); intro Q0)
  refine wp_q λQs hQs=>?_
  have r_3:=r_2.chg c_3.pm a_3
  have j3:J i W' ρ' t_3:=hJ i _ _ _ _ j2 λb o hb e=>by
   rcases hb with hb | hb
   ·exact r_2.same c_3.pm b o hb e
   ·exact c_3.2 b o (hX b hb).2.1 e
  let Z':Avoid:=λb=>c.Z b\/Zi b
  have hZ':∀b,Z' b->(∃o,t_3.heap.get? b=some o)/\¬c.P b/\¬M b/\¬W' b/\¬c.Fc b:=λb hz=>by
   rcases hz with hz | hz
   ·obtain⟨⟨o,e⟩,x1,x2,x3,x4⟩:=r_3.zo b hz
    exact⟨⟨o,r_3.zk b o hz e⟩,x1,x2,x3,x4⟩
   ·refine⟨?_,(zP b hz.1).1,hz.2.1,(hZt b hz).1,(zP b hz.1).2⟩
    obtain⟨o,e⟩:=(z_2 b hz).2
    exact⟨o,c_3.2 b o (zP b hz.1).1 e⟩
  have rp:=r_3.prot hZ'
  have st3:St (i+1) t_3.heap:=it1.frame _ _ _ st2 λb o ho hm zw e=>c_3.2 b o (zP b ho).1 e
  refine wpAny_mono (hst Z' O' t_3 i _ O' W' ρ' ρ1 t_3 _ hd hb j3 rp) (λfl s_2 te=>?_) λzw zw z=>z
  have back:∀{O'' W'' ρ''},Run (c.prot Z' O' t_3) O'' M W'' ρ'' s_2->Run c O'' M W'' ρ'' s_2:=λx=>x.unprot r_3 (λb h=>.inl h) (λb h=>h) r_3.ou
  have go:(∃O W ρ,Run (c.prot Z' O' t_3) O M W ρ s_2/\J (i+1) W ρ s_2)->∃m,m < items.length+1 - i/\∃i O' W' ρ',m=items.length+1 - i/\i<=items.length/\St i s_2.heap/\Run c O' M W' ρ' s_2/\J i W' ρ' s_2/\(∀b,O b\/Wi b->O' b)/\(∀b,O' b->O b\/Wi b\/s_1.heap.get? b=none)/\(∀b,Zi b->¬W' b/\∃o,s_2.heap.get? b=some o):=λ⟨O'',W'',ρ'',x,j⟩=>by
   refine⟨items.length+1 - (i+1),by grind,i+1,O'',W'',ρ'',rfl,by assumption,?_,back x,j,λb h=>x.ou b (hO1 b h),λb h=>?_,λb h=>⟨(x.zo b (.inr h)).2.2.2.1,?_⟩⟩
   ·refine it1.frame _ _ _ st3 λb o ho hm hex e=>x.zk b o (.inr ⟨ho,hm,hex⟩) e
   ·rcases x.oz b h with h | h
    ·exact hO2 b h
    ·right; right
     have h:t_3.heap.get? b=none:=h
     cases e:s_1.heap.get? b with
     | none=>rfl
     | some o =>
      exfalso
      by_cases ho:O b
      ·obtain⟨o',e'⟩:=r_3.act.aO b (hO1 b (.inl ho)); rw [h] at e'; cases e'
      ·by_cases hm:M b
       ·obtain⟨o',e'⟩:=r_3.act.aM b hm; rw [h] at e'; cases e'
       ·obtain⟨⟨o',e'⟩,_⟩:=hZ' b (.inr ⟨.inl ho,hm,o,e⟩); rw [h] at e'; cases e'
   ·obtain⟨o,e⟩:=(x.zo b (.inr h)).1
    exact⟨o,x.zk b o (.inr h) e⟩
  refine hQs _ _ ?_
  cases fl with
  | next=>exact go te
  | cont=>exact go te
  | brk=>obtain⟨O'',W'',ρ'',x,b⟩:=te; exact hbrk _ _ _ _ (λb h=>x.ou b (hO1 b (.inl h))) (back x) b
  | ret v=>obtain⟨O'',W'',ρ'',x,b⟩:=te; exact hret _ _ _ _ _ (λb h=>x.ou b (hO1 b (.inl h))) (back x) b
 ·have hie:i=items.length:=by grind
  subst hie
  refine it1.done t _ _ st λt_1 chW=>hQ0 _ _ (wpAny_execs_nil ?_)
  have lv:∀b,(∃o,s.heap.get? b=some o)->(∃o,t.heap.get? b=some o)->∃o,t_1.heap.get? b=some o:=λb h ⟨o,e⟩=>⟨o,chW.2 b o (old b h) e⟩
  have gW:∀b o,c.g.h.get? b=some o->¬Wi b:=λb o e=>old b ⟨o,r.act.up b o e⟩
  refine hend (λb=>O' b/\¬Wi b) W' ρ' t_1 (λb h=>⟨hO1 b (.inl h),old b (r.act.aO b h)⟩) { rt with
   act:=⟨chW.up rt.act.up gW,λb hb=>(rt.act.aO b hb.1).elim λo e=>⟨o,chW.2 b o hb.2 e⟩,λb hb=>lv b (r.act.aM b hb) (rt.act.aM b hb),(rt.act.eo.chgW chW (λb h=>hO1 b (.inr h)) kd).impO λb h=>h.1,rt.act.fo.chgW chW kd⟩
   pl:=⟨rt.pl.store,λb h=>⟨rt.pl.po b h,old b (r.pl.live s r.act.fo b h)⟩,rt.pl.pg,rt.pl.live⟩
   aw:=λb hb=>lv b (r.aw b hb) (rt.aw b hb)
   ca:=λy b h=>lv b (r.ca y b h) (rt.ca y b h)
   frm:=rt.frm.cx (W:=Wi) (F':=No) (.of_chg chW) (λb hb z=>by obtain⟨o,e⟩:=r.aF b z; rw [r.none0 (hW b hb)] at e; cases e)
   cx:=rt.cx.step (W:=Wi) (F:=No) (.of_chg chW) (λb hb=>.inr (r.none0 (hW b hb))) (λzw h=>h.elim)
   oo:=λb h=>⟨rt.oo b h,old b (r.act.aO b (r.oo b h))⟩
   on:=λb h=>rt.on b h.1
   lo:=⟨rt.lo,old _ (r.act.aO _ r.lo)⟩
   nf:=λb hb z=>rt.nf b hb z.1
   wo:=λb h=>⟨rt.wo b h,λz=>wW b z h⟩
   zk:=λb o hb e=>chW.2 b o (old b (r.zx b (r.zo b hb).1)) (rt.zk b o hb e)
   zx:=λb h=>lv b (r.zx b h) (rt.zx b h)
   oz:=λb h=>rt.oz b h.1
   ou:=λb h=>⟨rt.ou b h,old b (r.act.aO b (r.ou b h))⟩ } (hJ _ _ _ _ _ jt λb o hb e=>chW.2 b o (λz=>by
    rcases hb with hb | hb
    ·exact wW b z hb
    ·exact old b (hX b hb).1 z) e)
theorem Run.forL {W:Avoid}{body:List Stmt}{p:Pos}{xs:List Str}{items:List D}{Q:Flow->Shared->Prop}(r:Run c O M W ρ s)
  (hn:jb3 target=some xs) (hs:jh4 iter=true) (I:IterS (c.g.now s r.act.up) c.n ρ (ttOf target) iter items)
  (J:Nat->Avoid->Rho->Shared->Prop) (B:Avoid->Rho->Shared->Prop) (V:Value->Avoid->Avoid->Rho->Shared->Prop) (hJ:∀i,Stays (J i)) (h0:J 0 W ρ s)
  (hx:∀(i:Nat) d W' ρ' s',items[i]?=some d->J i W' ρ' s'->xs.all (stOk ρ')=true/\∃ρ1,js7 ρ' target d=some ρ1)
  (hst:∀(Z O0:Avoid) (t:Shared) (i:Nat) d O' W' ρ' ρ1 s' E',items[i]?=some d->js7 ρ' target d=some ρ1->J i W' ρ' s'->Run (c.prot Z O0 t) O' M W' ρ1 s' →
   wpAny c.g.M c.Ar (execs body c.env) (um3 (c.prot Z O0 t) M (J (i+1)) B V) E' s')
  (hend:∀O' W' ρ' s',(∀b,O b->O' b)->Run c O' M W' ρ' s'->J items.length W' ρ' s'->Q .next s') (hbrk:∀O' W' ρ' s',(∀b,O b->O' b)->Run c O' M W' ρ' s'->B W' ρ' s'->Q .next s') (hret:∀v O' W' ρ' s',(∀b,O b->O' b)->Run c O' M W' ρ' s'->V v O' W' ρ' s'->Q (.ret v) s') :
  wpAny c.g.M c.Ar (exec (.For target iter body [] p) c.env) Q E s :=
 r.forX (X:=No) hn hs (λzw h=>h.elim) I.toX J B V (λi W ρ s s' j k=>hJ i W ρ s s' j λb o hb=>k b o (.inl hb)) h0 hx hst hend hbrk hret
theorem Run.whileL {W:Avoid}{test:Expr}{body orelse:List Stmt}{p:Pos}{Q:Flow->Shared->Prop}(r:Run c O M W ρ s)
  (J:Nat->Avoid->Rho->Shared->Prop) (n:Nat) (h0:J n W ρ s)
  (hst:∀(i:Nat) O' W' ρ' s' E',J i W' ρ' s'->Run c O' M W' ρ' s' →
   wpAny c.g.M c.Ar (isTrue test c.env (eval test c.env)) (λb s_2=>if b then wpAny c.g.M c.Ar (execs body c.env) (λfl s_3=>match fl with
    | .next | .cont=>∃m,m < i/\∃O W ρ,Run c O M W ρ s_3/\J m W ρ s_3
    | .brk=>Q .next s_3
    | .ret v=>Q (.ret v) s_3) E' s_2 else wpAny c.g.M c.Ar (execs orelse c.env) Q E' s_2) E' s') :
  wpAny c.g.M c.Ar (exec (.While test body orelse p) c.env) Q E s:=by
 refine wpAny_While ?_
 refine codeAny_whileLoop (prog:=c.g.prog) (w:=c.g.w) (λk t=>∃O' W' ρ',Run c O' M W' ρ' t/\J k W' ρ' t) ?_ n ⟨O,W,ρ,r,h0⟩
 intro k t hJ
 ((show let Q0:=_; let E0:=_; wpAny _ _ _ Q0 E0 _); intro Q0 E0)
 obtain⟨O',W',ρ',rt,jt⟩:=hJ
 ((show let Q0:=_; let E0:=_; wpAny _ _ _ Q0 E0 _); intro Q0 E0)
 refine wpAny_mono (hst k O' W' ρ' t _ jt rt) (λb s_2 h=>?_) λzw zw z=>z
 cases b with
 | true =>
  simp only [if_true] at h ⊢
  refine wpAny_mono h (λfl s_3 h=>?_) λzw zw z=>z
  cases fl with
  | next=>obtain⟨m,hm,O'',W'',ρ'',x,j⟩:=h; exact⟨m,hm,O'',W'',ρ'',x,j⟩
  | cont=>obtain⟨m,hm,O'',W'',ρ'',x,j⟩:=h; exact⟨m,hm,O'',W'',ρ'',x,j⟩
  | brk=>exact h
  | ret v=>exact h
 | false=>exact h
section
section
variable {g:Glob} {A:Around} {O M:Avoid}
theorem IsT.isTuple {vs:Array Value}{m:Nat}(x:IsT h a vs m):h.IsTuple a vs:=⟨_,x,rfl,m,rfl⟩
theorem itr_tup {sa:Shared}{vs:Array Value}{m:Nat}(hh:A.handled=none)(k_0:Keeps s sa)(aOa:Alloc O sa)(aM:Alloc M sa)(hO:¬O a)(hM:¬M a)(hl:IsT sa.heap a vs m)(r:Rds O M sa.heap 0 vs.toList ds) :
  Itr g A false (.ref sa.heap.objs.size) ds O M (λb=>b=sa.heap.objs.size) s { sa with heap:=sa.heap.push { cls:=.type "tuple_iterator",data:=.fields #[.ref a,.int 0 0] } }
   (λi h=>h.IsTupleIter sa.heap.objs.size a i/\Agree O M sa h):=by
 have hlt:a < sa.heap.objs.size:=Heap.lt_size hl
 have k_1:Keeps sa { sa with heap:=sa.heap.push { cls:=.type "tuple_iterator",data:=.fields #[.ref a,.int 0 0] } }:=ja6 sa _ _
 have hlen:=r.length
 rw [Array.length_toList] at hlen
 have hW:∀b,b=sa.heap.objs.size->sa.heap.get? b=none:=λb hb=>by subst hb; exact jc2 (ja3 sa)
 refine⟨⟨⟨_,Heap.get?_push_size _ rfl,rfl,rfl⟩,Agree.refl k_1⟩,λb hb=>by subst hb; exact⟨jc2 k_0,_,Heap.get?_push_size _ rfl⟩,λi h st b hb=>by
   subst hb
   obtain⟨o,ho,hc,hd⟩:=st.1
   exact⟨o,ho,by unfold isFS; rw [hd]⟩,
  λi h h' ⟨⟨o,ho,hr⟩,ag⟩ hk=>⟨⟨o,hk _ _ aOa.new aM.new ⟨_,Heap.get?_push_size _ rfl⟩ ho,hr⟩,λb c ws n ho hb e=>hk _ _ ho hb ⟨_,ja0 k_1 _ _ e⟩ (ag b c ws n ho hb e)⟩,?_,?_,?_⟩
 ·intro O' M' i d t target E Q wd' wd htg hd hJ0 aO aM' q
  obtain⟨hit,ag⟩:=hJ0
  obtain⟨v,hv,hr⟩:=(wd'.rds wd k_1 hW r).get hd
  have hl':t.heap.IsTuple a vs:=IsT.isTuple (ag a _ _ _ hO hM hl)
  refine wpAny_pyNext_tuple_item hit hl' (by rw [<- Array.getElem?_toList]; exact hv) λh' hit' hs'=>⟨v,rfl,?_⟩
  have ag':Agree O M sa h':=λb c ws n ho hb e=>hs'.extBut b _ (λz=>by rw [z] at e; exact absurd (Heap.lt_size e) (Nat.lt_irrefl _)) (ag b c ws n ho hb e)
  exact jd5 htg (q v { t with heap:=h' } ⟨⟨h',t.toks,rfl⟩,λb o hb e=>hs'.extBut b o hb e⟩ (ag'.rd wd'.up wd.up hr) ⟨hit',ag'⟩)
 ·intro t E Q hJ0 q
  obtain⟨hit,ag⟩:=hJ0
  exact wpAny_pyNext_tuple_end hh hit (IsT.isTuple (ag a _ _ _ hO hM hl)) (by rw [<- hlen]; simp) λh' he'=>q _ ⟨⟨h',t.toks,rfl⟩,λb o hb e=>he' b o hb e⟩
 ·intro t E Q hJ0 q
  obtain⟨hit,ag⟩:=hJ0
  exact wpAny_pyIter_tupleiter hit q
end
section
variable {g:Glob} {n:Nat} {ρ:Rho} {ks k:Nat}
theorem qf9 (x:EvS g n ρ e (.tuple ds) 0):IterS g n ρ false e ds:=by
 intro O M env A s E Q u rm aO aM eo q
 refine x.use u rm aO aM eo λv sa k_1 r_1 u_1 o_1 m_1 e_1=>?_
 obtain⟨a,vs,m,rfl,h1,h2,h3,h4,h5⟩:=qb9 r_1
 exact wpAny_pyIter_tuple (IsT.isTuple h2) (q _ _ _ _ (ja1 k_1 (ja6 sa _ _)) (itr_tup rm.handled k_1 o_1 m_1 h4 (h5 rfl) h2 h3))
theorem qd4 {xs:List D}:jc1 g n (.builtin "len") [.tuple xs] ks (.int xs.length) k:=λO M A s E vs u rm aO aM rs=>by
 obtain⟨v,rfl,r⟩:=qe8 rs
 obtain⟨a,ws,m,rfl,h1,h2,h3,_⟩:=qb9 r
 have l:=h3.length
 rw [Array.length_toList] at l
 have hc:cap=100000:=rfl
 refine PyProof.Rows.len_tuple (items:=ws) ⟨_,h2,rfl,m,rfl⟩ (by grind) ?_
 rw [l]
 exact⟨ja5 s _,.int⟩
theorem qq6 {xs:List D}:jc1 g n (.type "list") [.tuple xs] 0 (.list xs) 0:=λO M A s E vs u rm aO aM rs=>by
 obtain⟨v,rfl,r⟩:=qe8 rs
 obtain⟨a,ws,m,rfl,h1,h2,h3,_⟩:=qb9 r
 refine call_list_seq a (.inr rfl) h2 rfl rfl (λh' c' hk hl=>⟨⟨h',s.toks,rfl,hk⟩,?_⟩) (Nat.le_trans h1 jc3)
 exact .list (λz=>aO.new z) (λzw z=>aM.new z) h1 hl (h3.keeps hk)
theorem uc4 {Q:List Value->Shared->Prop}{xs:List D}(r:Rd O M s.heap k v (.list xs)\/Rd O M s.heap k v (.tuple xs))(q:∀vs s',Keeps s s'->Rds O M s'.heap (k - 1) vs xs->Q vs s'):StarOf g.M A E v Q s:=by
 unfold StarOf notIterableAtAll
 rcases r with r | r
 ·obtain⟨a,ws,m,rfl,h1,h2,h3,_⟩:=jc5 r
  refine wpAny_bind (wpAny_specialOf (T:="list") ⟨_,h2,rfl⟩ PySem.F.slot_list_iter.lookup (wpAny_pure ⟨rfl,?_⟩))
  exact wpAny_collect_seq a (.inl rfl) h2 rfl rfl (λh' hk=>q _ _ ⟨h',s.toks,rfl,hk⟩ (h3.keeps hk)) (Nat.le_trans h1 jc3)
 ·obtain⟨a,ws,m,rfl,h1,h2,h3,_⟩:=qb9 r
  refine wpAny_bind (wpAny_specialOf (T:="tuple") ⟨_,h2,rfl⟩ PySem.F.slot_tuple_iter.lookup (wpAny_pure ⟨rfl,?_⟩))
  exact wpAny_collect_seq a (.inr rfl) h2 rfl rfl (λh' hk=>q _ _ ⟨h',s.toks,rfl,hk⟩ (h3.keeps hk)) (Nat.le_trans h1 jc3)
end
theorem ltS {P:Nat->Prop}(a:P 0)(h:∀i < n,P (i+1)):∀i < n+1,P i:=λi=>Nat.casesOn i (λzw=>a) λj hj=>h j (Nat.lt_of_succ_lt_succ hj)
theorem lt3c {P:Nat->Prop}(a:P 0)(b:P 1)(c:P 2):∀i < 3,P i:=ltS a (ltS (P:=λi=>P (i+1)) b (ltS (P:=λi=>P (i+2)) c λi h=>absurd h (Nat.not_lt_zero i)))
theorem lt4c {P:Nat->Prop}(a:P 0)(b:P 1)(c:P 2)(d:P 3):∀i < 4,P i:=ltS a (lt3c (P:=λi=>P (i+1)) b c d)
theorem lenS {α:Type}{l:List α}(h:l.length=n+1):∃a t,l=a::t/\t.length=n:=by
 cases l with
 | nil=>cases h
 | cons a t=>exact⟨a,t,rfl,Nat.succ.inj h⟩
theorem len5 {α:Type}{l:List α}(h:l.length=5):∃a b c d e,l=[a,b,c,d,e]:=by
 obtain⟨a,l1,e1,h1⟩:=lenS h
 obtain⟨b,l2,e2,h2⟩:=lenS h1
 obtain⟨c,l3,e3,h3⟩:=lenS h2
 obtain⟨d,l4,e4,h4⟩:=lenS h3
 obtain⟨e,l5,e5,h5⟩:=lenS h4
 exact⟨a,b,c,d,e,by rw [e1,e2,e3,e4,e5,List.eq_nil_of_length_eq_zero h5]⟩
theorem qj8 {i:Nat}(hd:(((List.range n).map λk:Nat=>(k:Int)).map PyData.int)[i]?=some d):i < n/\d=.int (i:Int):=by
 rw [List.map_map,List.getElem?_map,Option.map_eq_some_iff] at hd
 obtain⟨j,hj,rfl⟩:=hd
 obtain⟨h1,h2⟩:=List.getElem?_eq_some_iff.mp hj
 rw [List.length_range] at h1
 rw [List.getElem_range] at h2
 exact⟨h1,by rw [<- h2]; rfl⟩
end
structure FnV (K:Frag) (f:Addr) (body:List Stmt) (names:List (Str×NameKind)) (params:List Str) (rest:Str) (code:Value):Prop where
 ex:∃c dd fd sl,K.lookup f=some ⟨c,dd,.func fd,sl⟩/\FnData fd body/\fd.closure=[]/\qd0 K fd.code fd.qualname=true/\fd.scope.names=names/\fd.code=code/\(∀vs ws:List Value,vs.length=params.length->bindArgs fd ⟨vs++ws,[]⟩=(do let t <- newTuple ws; pure ((params++[rest]).zip (vs++[t]))))
 nm:jh7 names []=true
theorem uk7 {W:Avoid}{f:Addr}{body:List Stmt}{names:List (Str×NameKind)}{params:List Str}{rest:Str}{code:Value}{vs ws:List Value}{es:List D}
  (at_:At g (n+1) A O M W F s) (fk:FnV g.K f body names params rest code) (rs:Rds O M s.heap 0 vs ds) (rw':Rds O M s.heap 0 ws es) (hl:ds.length=params.length) (hz:es.length<=cap) (hps:(params++[rest]).all (stOk ⟨names,[]⟩)=true) (hρ:je1 ⟨names,[]⟩ (params++[rest]) (ds++[.tuple es])=some ρ)
  (hbody:∀(env:Env) (P O':Avoid) (s_2:Shared),Run ⟨g,n,A,env,P,O,M,W,F,s,No,O',s_2⟩ O' No W ρ s_2->env.code=code->(∀b o,s.heap.get? b=some o->s_2.heap.get? b=some o) →
   wpAny g.M (A.deeper env) (execs body env) (λf s'=>R (.ok (.ret (retOf f))) s') (qu8 g A env R) s_2) :
  codeAny g.M A (.call (.ref f) ⟨vs++ws,[]⟩) R s:=by
 obtain⟨⟨c,dd,fd,sl,hK,FD,hcl,hcd,hnm,hco,hb⟩,nm⟩:=fk
 subst hnm
 subst hco
 refine qq1 (clv:=[]) at_ (at_.up _ _ (g.X _ _ hK)) rfl FD ((ji6 g.X hcd).keeps at_.up) ?_ (by rw [hcl]; exact jw6) (λx b h=>by rw [hcl] at h; cases h) nm hps hρ hbody
 rw [hb vs ws (by rw [rs.length,hl])]
 have hlen:=rw'.length
 refine wpAny_bind (wpAny_newObj_type (wpAny_pure ⟨vs++[.ref s.heap.objs.size],rfl,ja6 s _ _,?_⟩) ?_)
 ·refine(rs.keeps (ja0 (ja6 s _ _))).append (.cons ?_ .nil)
  have:=jt4 (k:=0) (vs:=ws.toArray) (ds:=es) at_.aO at_.aM (by simpa [hlen] using hz) (by simpa using rw')
  exact this
 ·show ws.toArray.size<=sizeLine
  rw [List.size_toArray,hlen]
  exact Nat.le_trans hz jc3
noncomputable abbrev FnVM (K:Frag) (f:Addr) (c x:Str) (params:List Str) (rest:Str) (code:Value):Prop:=FnV K f (mOf c x).1 (mOf c x).2.1 params rest code
structure TopoFn (K:Frag) (T:Topo):Prop where
 ninit:∃c,FnM K T.ninit "_NodeInfo" "__init__" ["self","node"] c
 gni:∃c,FnM K T.gni "TopologicalSorter" "_get_nodeinfo" ["self","node"] c
 add:∃c,FnVM K T.add "TopologicalSorter" "add" ["self","node"] "predecessors" c
 prep:∃c,FnM K T.prep "TopologicalSorter" "prepare" ["self"] c
 ready:∃c,FnM K T.ready "TopologicalSorter" "get_ready" ["self"] c
 active:∃c,FnM K T.active "TopologicalSorter" "is_active" ["self"] c
 done:∃c,FnVM K T.done "TopologicalSorter" "done" ["self"] "nodes" c
 cyc:∃c,FnM K T.cyc "TopologicalSorter" "_find_cycle" ["self"] c
 node:nsIn K mainGlobals "_NodeInfo"=some (some (.ref T.N))
 out:∃t,nsIn K mainGlobals "_NODE_OUT"=some (some (.int (-1) t))
 dn:∃t,nsIn K mainGlobals "_NODE_DONE"=some (some (.int (-2) t))
theorem Callee.now (u:g.Up s){f:Value}(h:Callee g x f):Callee (g.now s u) x f:=by
 cases h with
 | fn h1 h2=>exact .fn h1 h2
 | bt h1 h2 h3=>exact .bt h1 h2 h3
 | ty h1 h2 h3=>exact .ty h1 h2 h3
noncomputable abbrev Rho.is (ρ:Rho) (x:Str) (d:D):Prop:=ρ.vars.lookup x=some (d,0)
theorem Rho.is_put:(ρ.put x d 0).is x d:=by
 show(putL x (d,0) ρ.vars).lookup x=_
 rw [jg5]; simp
theorem Rho.is_ne {y:Str}{d':D}(h:ρ.is y d)(hne:(y==x)=false):(ρ.put x d' k).is y d:=by
 show(putL x (d',k) ρ.vars).lookup y=_
 rw [jg5,hne]; exact h
theorem jj9 {names:List (Str×NameKind)}(h:ρ.sc=names)(hx:stOk ⟨names,[]⟩ x=true):stOk ρ x=true:=by
 unfold stOk at hx ⊢
 rw [h]; exact hx
theorem jx1 (σ:SS)(k:Int):(σ.touch k).nodes.length<=σ.nodes.length+1:=by
 unfold SS.touch
 split
 ·(exact Nat.le_add_right _ _)
 ·simp
theorem qm2 (σ:SS)(k:Int)(f:Nd->Nd):(σ.upd k f).nodes.length=σ.nodes.length:=by unfold SS.upd; simp
theorem qr1 (node:Int)(σ:SS)(p:Int):(σ.addPred node p).nodes.length<=σ.nodes.length+1:=by
 unfold SS.addPred; rw [qm2]; exact jx1 σ p
theorem jp9 {xs:List Int}{k:Int}{t:Tok}(x:Ints s.heap a xs)(hl:xs.length < cap)(q:∀h',Heap.SameBut a s.heap h'->Ints h' a (xs++[k])->Q .none { s with heap:=h' }) :
  wpAny g.M A (call (.builtin "list.append") [.ref a,.int k t]) Q E s:=by
 obtain⟨vs,n,h1,h2,h3⟩:=x
 obtain⟨ys,e1,e2⟩:=jf5 h3
 have hlen:=h3.length
 rw [Array.length_toList,List.length_map] at hlen
 refine append_at (prog:=g.prog) (w:=g.w) h1 (λh' hs he=>q h' hs ⟨_,_,he,by rw [Array.size_push]; grind,?_⟩) (Nat.le_trans h2 jc3)
 rw [Array.toList_push,List.map_append]
 refine Rds.append ?_ (.cons .int .nil)
 rw [e1,<- e2]; exact jd2 ys
theorem jz1 {xs:List Int}{pl:Sem Bool}{Q:Value×List Value->Shared->Prop}(x:Ints s.heap a xs)(q:Q (.builtin "list.append",[.ref a]) s) :
  wpAny g.M A (getMethod (.ref a) "append" pl) Q E s:=by
 obtain⟨vs,n,h1,h2,h3⟩:=x
 exact getMethod_builtin (T:="list") ⟨_,h1,rfl⟩ PySem.F.plainAttrs_list PySem.F.slot_list_append PySem.F.type_list_append (λb hb=>⟨_,by cases hb; exact h1,rfl⟩) q
theorem ub6 {i:Nat}{nd:Nd}{k:Int}{f f':Nd->Nd}(hid:(σ.nodes.map (·.id)).Nodup)(h2:σ.nodes[i]?=some nd)(hk:nd.id=k)(e:f nd=f' nd):σ.upd k f=σ.upd k f':=by
 unfold SS.upd
 congr 1
 refine List.map_congr_left λn hn=>?_
 by_cases h:n.id=k
 ·obtain⟨j,hj,rfl⟩:=List.mem_iff_getElem.mp hn
  have hj':σ.nodes[j]?=some σ.nodes[j]:=List.getElem?_eq_getElem hj
  have:=uh7 hid hj' h2 (h.trans hk.symm)
  subst this
  rw [h2] at hj'
  rw [<- Option.some.inj hj',e]
 ·rw [if_neg (by simpa using h),if_neg (by simpa using h)]
theorem qs5 (h:l.all.Nodup){i:Nat}{a:NdA}(h1:l.ns[i]?=some a):a.info≠a.dct/\a.info≠a.suc/\a.dct≠a.suc:=by
 have:=(List.pairwise_flatMap.mp (List.nodup_append.mp (List.nodup_cons.mp (List.nodup_cons.mp (List.nodup_cons.mp h).2).2).2).2.1).1 a (List.mem_of_getElem? h1)
 have nd':a.all.Nodup:=this
 simp only [NdA.all,List.nodup_cons,List.mem_cons,List.not_mem_nil,or_false,not_or] at nd'
 exact⟨nd'.1.1,nd'.1.2,nd'.2.1⟩
theorem Srt.succ (S:Srt g T h l σ){i:Nat}{a:NdA}{nd:Nd}{xs:List Int}(h1:l.ns[i]?=some a)(h2:σ.nodes[i]?=some nd)(hs:Heap.SameBut a.suc h h')(hx:Ints h' a.suc xs):Srt g T h' l (σ.upd nd.id λn=>{ n with succ:=xs }):=by
 obtain⟨⟨t1,t2,e1⟩,e2,e3⟩:=S.nds i a nd h1 h2
 obtain⟨n1,n2,n3⟩:=qs5 S.nodup h1
 exact S.node (f:=λn=>{ n with succ:=xs }) (λzw=>rfl) h1 h2 ⟨⟨t1,t2,(hs.2 _ n2).trans e1⟩,(hs.2 _ n3).trans e2,hx⟩ λb o hb hn e=>(hs.2 b λz=>hn (by rw [z]; simp [NdA.all])).trans e
theorem qh9 {k:Int}(h:(σ.nodes.map (·.id)).Nodup):((σ.touch k).nodes.map (·.id)).Nodup:=by
 by_cases hh:σ.has k=true
 ·rw [jx2 hh]; exact h
 ·rw [jx0 hh,List.map_append,List.nodup_append]
  refine⟨h,by simp,λx hx y hy z=>hh ?_⟩
  obtain⟨n,hn,rfl⟩:=List.mem_map.mp hx
  obtain⟨i,hi,rfl⟩:=List.mem_iff_getElem.mp hn
  exact has_iff.mpr ⟨i,_,List.getElem?_eq_getElem hi,by simpa using z.trans (by simpa using hy)⟩
noncomputable def SS.sucLe (σ:SS) (m:Nat):Prop:=∀nd∈σ.nodes,nd.succ.length<=m
theorem jq8 {k:Int}{m:Nat}(h:σ.sucLe m):(σ.touch k).sucLe m:=by
 intro nd hnd
 unfold SS.touch at hnd
 split at hnd
 ·exact h nd hnd
 ·rcases List.mem_append.mp hnd with hnd | hnd
  ·exact h nd hnd
  ·rw [List.mem_singleton] at hnd; subst hnd; exact Nat.zero_le _
theorem qm1 {k:Int}{m m':Nat}{f:Nd->Nd}(h:σ.sucLe m)(hf:∀n,n.succ.length<=m->(f n).succ.length<=m')(hm:m<=m'):(σ.upd k f).sucLe m':=by
 intro nd hnd
 unfold SS.upd at hnd
 obtain⟨n,hn,rfl⟩:=List.mem_map.mp hnd
 split
 ·exact hf n (h n hn)
 ·exact Nat.le_trans (h n hn) hm
theorem qr0 {k p:Int}{m:Nat}(h:σ.sucLe m):(σ.addPred k p).sucLe (m+1):=qm1 (jq8 h) (λn hn=>by simp; exact hn) (Nat.le_succ _)
theorem jq0 (k:Int):∀(ps:List Int) (σ:SS) (m:Nat),σ.sucLe m->(ps.foldl (SS.addPred k) σ).nodes.length<=σ.nodes.length+ps.length/\(ps.foldl (SS.addPred k) σ).sucLe (m+ps.length)
 | [],σ,m,h=>⟨Nat.le_refl _,h⟩
 | p::ps,σ,m,h=>by
  obtain⟨h1,h2⟩:=jq0 k ps (σ.addPred k p) (m+1) (qr0 h)
  have:=qr1 k σ p
  refine⟨by simp only [List.foldl_cons,List.length_cons]; grind,?_⟩
  simp only [List.foldl_cons,List.length_cons]
  rw [show m+(ps.length+1)=m+1+ps.length by (simp +arith)]
  exact h2
theorem Run.inter {W:Avoid}(r:Run c O M W ρ s):interactive c.env=false:=by unfold interactive; rw [r.act.eo.kind]; rfl
theorem add_code {k:Int}{t:Tok}{ws:List Value}{ps:List Int}(at_:At g (n+4) A O M l.W F s)(TK:TopoOk g.K T)(TF:TopoFn g.K T)(N:Names g)
  (S:Srt g T s.heap l σ) (hr:l.rd=[]) (rw':Rds O M s.heap 0 ws (ps.map .int)) (hb:σ.nodes.length+ps.length+1 < 1000) {m:Nat} (hsc:σ.sucLe m) (hm:m+ps.length < 1000)
  (q:∀(s':Shared) (l':LayS),Eff l.W F s l'.W s'->Srt g T s'.heap l' (σ.add k ps)->l.Le l'->R (.ok (.ret .none)) s') :
  codeAny g.M A (.call (.ref T.add) ⟨[.ref l.a,.int k t]++ws,[]⟩) R s:=by
 obtain⟨c,fk⟩:=TF.add
 obtain⟨c1,fgni⟩:=TF.gni
 obtain⟨c2,fni⟩:=TF.ninit
 have hc:cap=100000:=rfl
 refine uk7 (ds:=[objD l.a,.int k]) (es:=ps.map .int) at_ fk (.cons .obj (.cons .int .nil)) rw' rfl (by simp; grind) rfl rfl λenv P O' s_2 r hc hk=>?_
 revert r
 (show let c:Fx:=_; Run c _ _ _ _ _->_)
 intro c r
 conv in (mOf _ _).1=>whnf
 have S2:Srt g T s_2.heap l σ:=S.keeps λb o zw=>hk b o
 refine wpAny_execs_cons (wpAny_If (wpAny_isTrue_Compare1 (Attribute_Name_ (r.name (d:=objD l.a) (k:=0) rfl (by decide) λv rv=>?_)) rfl))
 have:=jb0 rv; subst this
 refine qp2 S2 r.now TK ?_
 rw [hr]
 have r:=r.toks (s_2.toks+1)
 refine r.e0 jh8 λv' s_3 k_3 rv' r=>jh1 (g:=g) (n:=n) O' No _ s_3 _ _ _ _ (r.rm.le (by show n<=n+3; (exact Nat.le_add_right _ _))) (Rd.none (k:=0)) rv' (wpAny_truthy_bool ?_)
 refine wpAny_execs_nil ?_
 ((show let Q0:=_; let E0:=_; wpAny _ _ _ Q0 E0 _); intro Q0 E0)
 have S3:Srt g T s_3.heap l σ:=S2.keeps λb o zw=>ja0 k_3 b o
 refine wpAny_execs_cons (r.assignS rfl (MethodCall_ (r.name (d:=objD l.a) (k:=0) rfl (by decide) λv rv=>?_)))
 have:=jb0 rv; subst this
 refine jt7 S3 r.now TK TK.mgni (by decide) (callWith_K r.now TK.mgni.keep (wpAny_items_cons (r.name (d:=.int k) (k:=0) rfl (by decide) λv rv=>wpAny_items_nil ⟨r.now,?_⟩) rfl))
 obtain⟨u,rfl⟩:=ja4 rv
 refine wpAny_call (qt1 (n:=n) r.at TK fgni fni TF.node S3 (by grind) λs_4 l_4 i a nd ef S4 le h1 h2 hid=>?_)
 have r:=r.effE ef
 refine r.store (d:=objD a.info) rfl .obj λs_5 c5 r_5=>?_
 have S5:Srt g T s_5.heap l_4 (σ.touch k):=S4.keeps (r.same c5)
 refine wpAny_execs_cons (wpAny_AugAssign_AttributeAny (r_5.name (d:=objD a.info) (k:=0) rfl (by decide) λv rv=>?_))
 have:=jb0 rv; subst this
 refine ui1 (S5.nds i a nd h1 h2) r_5.now TK λtk=>?_
 have r_5:=r_5.toks (s_5.toks+1)
 refine r_5.e0 (ju1 (ds:=[.tuple (ps.map .int)]) (ks:=0) (N.len.now _) rfl (by decide) rfl (jh0 (jb8 rfl rfl) jj2 rfl) qd4) λv s_6 k6 rv r6=>?_
 ((show let Q0:=_; wpAny _ _ _ Q0 _ _); intro Q0)
 refine ql7 (g:=g) (O:=No) (M:=No) (ka:=0) (kb:=0) (a:=.int nd.np) (b:=.int ((ps.map PyData.int).length)) rfl .int (by obtain⟨u,rfl⟩:=ja4 rv; exact .int) λv s7 k7 rv=>?_
 obtain⟨u7,rfl⟩:=ja4 rv
 have r7:=r6.keeps k7
 have S7:Srt g T s7.heap l_4 (σ.touch k):=S5.keeps λb o zw e=>ja0 k7 _ _ (ja0 k6 _ _ e)
 refine uc9 S7 r7.now TK h1 h2 λs8 cx8 S8=>?_
 have r8:=r7.eff (W':=l_4.W) (cx8.mono (λzw h=>h) No.le) (λzw h=>h) (λzw h=>.inl h) S8.al
 rw [hid] at S8
 have e8:(σ.touch k).upd k (λn=>{ n with np:=nd.np+((ps.map PyData.int).length:Int) })=(σ.touch k).upd k (λn=>{ n with np:=n.np+(ps.length:Int) }):=ub6 (qh9 S.ids) h2 hid (by simp)
 rw [e8] at S8
 generalize hσ1:(σ.touch k).upd k (λn=>{ n with np:=n.np+(ps.length:Int) })=σ1 at S8
 revert S8
 revert hσ1
 revert σ1
 refine id ?_
 intro σ1 hσ1 S8
 have len1:σ1.nodes.length<=σ.nodes.length+1:=by rw [<- hσ1,qm2]; exact jx1 σ k
 refine wpAny_execs_cons (r8.forL (items:=ps.map .int) (xs:=["pred"]) rfl rfl (qf9 (jb8 rfl rfl)) (λi W ρ' s'=>∃l',W=l'.W/\Srt g T s'.heap l' ((ps.take i).foldl (SS.addPred k) σ1)/\l_4.Le l'/\(∀b,l.W b->l'.W b)/\ρ'.sc=(mOf "TopologicalSorter" "add").2.1/\ρ'.is "self" (objD l.a)/\ρ'.is "node" (.int k)) (λzw zw zw=>False) (λzw zw zw zw zw=>False)
  ?_ ⟨l_4,rfl,S8,.refl,ef.up,rfl,rfl,rfl⟩ ?_ ?_ ?_ (λzw zw zw zw zw zw h=>h.elim) (λzw zw zw zw zw zw zw h=>h.elim))
 ·intro i W ρ' s s' hJ k
  obtain⟨l',hW,S,a⟩:=hJ
  exact⟨l',hW,S.keeps λb o hb=>k b o (by rw [hW]; exact hb),a⟩
 ·rintro i d W' ρ' s' hd ⟨l',hW,S,le',hup,hsc',hself,hnode⟩
  exact⟨by simpa using jj9 hsc' (x:="pred") rfl,_,rfl⟩
 ·intro Z O0 t' i d O' W' ρ' ρ1 s' E' hd hbd hJ r'
  revert r'
  (show let c0:Fx:=_; Run c0 _ _ _ _ _->_)
  intro c0 r'
  ((show let Q0:=_; wpAny _ _ _ Q0 _ _); intro Q0)
  refine wp_q λQ' hQ=>?_
  obtain⟨l',hW,S',le',hup,hsc',hself,hnode⟩:=hJ
  subst hW
  obtain⟨pr,hpr,rfl⟩:∃pr,ps[i]?=some pr/\d=.int pr:=by
   rw [List.getElem?_map,Option.map_eq_some_iff] at hd
   obtain⟨pr,h,e⟩:=hd
   exact⟨pr,h,e.symm⟩
  have hbd:ρ1=ρ'.put "pred" (.int pr) 0:=(Option.some.inj hbd).symm
  subst hbd
  have hself:=Rho.is_ne (x:="pred") (d':=.int pr) (k:=0) hself rfl
  have hnode:=Rho.is_ne (x:="pred") (d':=.int pr) (k:=0) hnode rfl
  have hi:i < ps.length:=(List.getElem?_eq_some_iff.mp hpr).1
  obtain⟨bl,bs⟩:=jq0 k (ps.take i) σ1 m (hσ1 ▸ qm1 (jq8 hsc) (λn hn=>hn) (Nat.le_refl _))
  rw [List.length_take,Nat.min_eq_left (Nat.le_of_lt hi)] at bl bs
  generalize hσi:(ps.take i).foldl (SS.addPred k) σ1=σi at S' bl bs
  revert bs
  revert bl
  revert S'
  revert hσi
  revert σi
  refine id ?_
  intro σi hσi S' bl bs
  have hle:l'.a=l.a:=le'.a.trans le.a
  refine wpAny_execs_cons (r'.assignS rfl (MethodCall_ (r'.name hself (by decide) λv rv=>?_)))
  have:=jb0 rv; subst this
  rw [<- hle]
  refine jt7 S' r'.now TK TK.mgni (by decide) (callWith_K r'.now TK.mgni.keep (wpAny_items_cons (r'.name Rho.is_put (by decide) λv rv=>wpAny_items_nil ⟨r'.now,?_⟩) rfl))
  obtain⟨u,rfl⟩:=ja4 rv
  refine wpAny_call (qt1 (n:=n) r'.at TK fgni fni TF.node S' (by grind) λs9 l9 j a9 nd9 ef9 S9 le9 g1 g2 hid9=>?_)
  have r9:=r'.effE ef9
  refine r9.store (d:=objD a9.info) (jj9 (names:=(mOf "TopologicalSorter" "add").2.1) hsc' rfl) .obj λs10 c10 r10=>?_
  have S10:=S9.keeps (h':=s10.heap) (r9.same c10)
  have N10:=S10.nds j a9 nd9 g1 g2
  refine wpAny_execs_cons (wpAny_Expr_any (prog:=g.prog) (w:=g.w) (MethodCall_ (Attribute_Name_ (r10.name (d:=objD a9.info) (k:=0) Rho.is_put (by decide) λv rv=>?_))) r10.inter (ja7 rfl _ _ _))
  have:=jb0 rv; subst this
  refine qp1 N10 r10.now TK (jz1 (g:=g) N10.2.2 (callWith_builtin (ja9 rfl) (ja8 rfl (wpAny_items_cons ((r10.toks _).name (Rho.is_ne hnode rfl) (by decide) λv rv=>wpAny_items_nil ?_) rfl))))
  obtain⟨u,rfl⟩:=ja4 rv
  refine jp9 (g:=g) N10.2.2 (by have:=jq8 (k:=pr) bs nd9 (List.mem_of_getElem? g2); grind) λh_11 hs11 hx11=>wpAny_execs_nil ?_
  have S11:=S10.succ g1 g2 hs11 hx11
  have r11:=(r10.toks (s10.toks+1)).eff (W':=l9.W) (s':={ s10 with heap:=h_11,toks:=s10.toks+1 }) ((jb5 (W:=l9.W) (s:={ s10 with toks:=s10.toks+1 }) hs11 (jy5 g1 (by simp [NdA.all])) rfl).mono (λzw h=>h) No.le) (λzw h=>h) (λzw h=>.inl h) S11.al
  refine hQ _ _ ⟨_,_,_,r11,l9,rfl,?_,le'.trans le9,λb hb=>ef9.up b (hup b hb),hsc',Rho.is_ne hself rfl,Rho.is_ne hnode rfl⟩
  have e:(ps.take (i+1)).foldl (SS.addPred k) σ1=(σi.touch pr).upd nd9.id (λn=>{ n with succ:=nd9.succ++[k] }):=by
   rw [List.take_add_one,hpr,List.foldl_append,hσi]
   show SS.addPred k σi pr=_
   unfold SS.addPred
   rw [hid9]
   exact ub6 (qh9 S'.ids) g2 hid9 rfl
  rw [e]; exact S11
 ·rintro O' W' ρ' s' - r' ⟨l',hW,S',le',hup,_⟩
  subst hW
  refine wpAny_execs_nil (q s' l' (r'.eff_out hup) ?_ (le.trans le'))
  have e:(ps.take (ps.map PyData.int).length).foldl (SS.addPred k) σ1=σ.add k ps:=by
   unfold SS.add
   rw [hσ1,List.length_map,List.take_length]
  rw [<- e]; exact S'
structure FnD (K:Frag) (f:Addr) (body:List Stmt) (names:List (Str×NameKind)) (params:List Str) (given:Nat) (dflt:List Value) (code:Value):Prop where
 ex:∃c dd fd sl,K.lookup f=some ⟨c,dd,.func fd,sl⟩/\FnData fd body/\fd.closure=[]/\qd0 K fd.code fd.qualname=true/\fd.scope.names=names/\fd.code=code/\(∀vs:List Value,vs.length=given->∀S,peek K S (bindArgs fd ⟨vs,[]⟩)=some (params.zip (vs++dflt)))
 nm:jh7 names []=true
theorem uk8 {W:Avoid}{f:Addr}{body:List Stmt}{names:List (Str×NameKind)}{params:List Str}{given:Nat}{dflt:List Value}{code:Value}{vs:List Value}{es:List D}
  (at_:At g (n+1) A O M W F s) (fk:FnD g.K f body names params given dflt code) (rs:Rds O M s.heap 0 vs ds) (re:Rds O M s.heap 0 dflt es) (hl:ds.length=given) (hps:params.all (stOk ⟨names,[]⟩)=true) (hρ:je1 ⟨names,[]⟩ params (ds++es)=some ρ)
  (hbody:∀(env:Env) (P O':Avoid) (s_2:Shared),Run ⟨g,n,A,env,P,O,M,W,F,s,No,O',s_2⟩ O' No W ρ s_2->env.code=code->(∀b o,s.heap.get? b=some o->s_2.heap.get? b=some o) →
   wpAny g.M (A.deeper env) (execs body env) (λf s'=>R (.ok (.ret (retOf f))) s') (qu8 g A env R) s_2) :
  codeAny g.M A (.call (.ref f) ⟨vs,[]⟩) R s:=by
 obtain⟨⟨c,dd,fd,sl,hK,FD,hcl,hcd,hnm,hco,hb⟩,nm⟩:=fk
 subst hnm
 subst hco
 refine qq1 (clv:=[]) at_ (at_.up _ _ (g.X _ _ hK)) rfl FD ((ji6 g.X hcd).keeps at_.up) ?_ (by rw [hcl]; exact jw6) (λx b h=>by rw [hcl] at h; cases h) nm hps hρ hbody
 exact kp_binds (g.X.keeps at_.up) (hb vs (by rw [rs.length,hl])) g.M _ _ _ ⟨vs++dflt,rfl,ja3 s,rs.append re⟩
theorem qe5 (u:g.Up s):(s.heap.objs.size==sysModules)=false:=by
 have hg:@LT.lt Nat _ 3 s.heap.objs.size:=(g.g.keeps u).lt
 rw [beq_eq_false_iff_ne]
 intro e
 have e:s.heap.objs.size=(1:Nat):=e
 grind
noncomputable abbrev FnDM (K:Frag) (f:Addr) (c x:Str) (params:List Str) (given:Nat) (dflt:List Value) (code:Value):Prop:=FnD K f (mOf c x).1 (mOf c x).2.1 params given dflt code
section
theorem jy6 (a:Addr)(items:Array Value)(hf:(items.size:Int) < 2 ^ 63):Meets (Builtin.«bool.__new__» ⟨[.type "bool",.ref a],[]⟩) (λzw R s=>s.heap.IsList a items/\R (.ok (.ret (.bool (!items.isEmpty)))) { s with toks:=s.toks+1+1 }) :=
 Meets.of_wp λprog w A R s hs=>by
  obtain⟨hp,g,d,tk,os⟩:=s
  obtain⟨hl,hs⟩:=hs
  have f1:=F.conv_sub_bool
  repeat (any_goals (first | assumption | (with_reducible refine wpAny_truthy_list hl hf ?_) | wp_step))
  all_goals first | exact⟨_,rfl,hs⟩ | exact hs | skip
theorem qb0 {xs:List Int}(x:Ints s.heap a xs)(q:Q (.bool (!xs.isEmpty)) { s with toks:=s.toks+1+1 }):wpAny g.M A (call (.type "bool") [.ref a]) Q E s:=by
 obtain⟨vs,n,h1,h2,h3⟩:=x
 have hc:cap=100000:=rfl
 have l:=h3.length
 rw [Array.length_toList,List.length_map] at l
 have e:(!vs.isEmpty)=!xs.isEmpty:=by
  unfold Array.isEmpty
  cases xs with
  | nil=>rw [l]; rfl
  | cons d ds=>rw [l]; rfl
 refine call_bool_1 (jy6 a vs (by grind)) ⟨IsL.isList h1,rfl,?_⟩
 rw [e]; exact q
theorem Srt.now (S:Srt g T h l σ)(u:g.Up s):Srt (g.now s u) T h l σ:=⟨S.inst,S.dict,S.n2i,S.sys,S.rdy,S.len,S.nds,S.nodup,S.ids,S.big⟩
section
variable {g:Glob} {n:Nat} {ρ:Rho} {T:Topo} {l:LayS} {σ:SS} {k:Nat} {x:Str} {p p':Pos}
theorem ev_fin (S:Srt g T g.h l σ)(TK:TopoOk g.K T)(hv:ρ.is x (objD l.a))(hd:(x==("__debug__":Str))=false):EvS g n ρ (.Attribute (.Name x p) "_nfinished" p') (.int σ.fin) k:=λO M env A s E u rm aO aM eo =>
 Attribute_Name_ ((jb8 hv hd).use u rm aO aM eo λv s_1 k_1 r_1 u_1 o_1 m_1 e_1=>by
  have:=jb0 r_1; subst this
  exact ui2 (S.keeps λb o zw=>u_1 b o) (g.X.keeps u_1) TK λt=>⟨ja1 k_1 (ja5 _ _),.int⟩)
theorem ev_out (S:Srt g T g.h l σ)(TK:TopoOk g.K T)(hv:ρ.is x (objD l.a))(hd:(x==("__debug__":Str))=false):EvS g n ρ (.Attribute (.Name x p) "_npassedout" p') (.int σ.out) k:=λO M env A s E u rm aO aM eo =>
 Attribute_Name_ ((jb8 hv hd).use u rm aO aM eo λv s_1 k_1 r_1 u_1 o_1 m_1 e_1=>by
  have:=jb0 r_1; subst this
  exact ui0 (S.keeps λb o zw=>u_1 b o) (g.X.keeps u_1) TK λt=>⟨ja1 k_1 (ja5 _ _),.int⟩)
theorem jz4 {r:Addr}(S:Srt g T g.h l σ)(TK:TopoOk g.K T)(hr:l.rd=[r])(hv:ρ.is x (objD l.a))(hd:(x==("__debug__":Str))=false):EvS g n ρ (.Attribute (.Name x p) "_ready_nodes" p') (objD r) k:=λO M env A s E u rm aO aM eo =>
 Attribute_Name_ ((jb8 hv hd).use u rm aO aM eo λv s_1 k_1 r_1 u_1 o_1 m_1 e_1=>by
  have:=jb0 r_1; subst this
  refine qp2 (S.keeps λb o zw=>u_1 b o) (g.X.keeps u_1) TK ?_
  rw [hr]
  exact⟨ja1 k_1 (ja5 _ _),.obj⟩)
theorem qt5 (S:Srt g T g.h l σ)(TK:TopoOk g.K T)(hv:ρ.is x (objD l.a))(hd:(x==("__debug__":Str))=false):EvS g n ρ (.Attribute (.Name x p) "_node2info" p') (objD l.m) k:=λO M env A s E u rm aO aM eo =>
 Attribute_Name_ ((jb8 hv hd).use u rm aO aM eo λv s_1 k_1 r_1 u_1 o_1 m_1 e_1=>by
  have:=jb0 r_1; subst this
  exact qp3 (S.keeps λb o zw=>u_1 b o) (g.X.keeps u_1) TK ⟨ja1 k_1 (ja5 _ _),.obj⟩)
theorem qq0 {r:Addr}{xs:List Int}{ke:Nat}(X:Ints g.h r xs)(hb:Callee g "bool" (.type "bool"))(hsc:ρ.sc.lookup ("bool":Str)=some .globalImplicit)(ev:EvS g n ρ e (objD r) ke)(hs:jb1 e=true):EvS g n ρ (.Call (.Name "bool" p) [e] [] pos) (.bool (!xs.isEmpty)) k :=
 ju1 hb hsc (by decide) (by simpa using hs) (jh0 ev jj2 hs) λO M A s E vs u rm aO aM rs=>by
  obtain⟨v,rfl,r⟩:=qe8 rs
  have:=jb0 r; subst this
  exact qb0 (g:=g) (X.keeps λo=>u _ o) ⟨ja5 s _,.bool⟩
end
theorem RdyAt.one {rd:List Addr}{xs:List Int}(x:RdyAt h rd (some xs)):∃r,rd=[r]/\Ints h r xs:=by
 rcases x with x | x
 ·exact no x.2.symm
 ·obtain⟨r,ys,e,e',i⟩:=x
  cases e'
  exact⟨r,e,i⟩
theorem qr2 {xs:List Int}(at_:At g (n+2) A O M l.W F s)(TK:TopoOk g.K T)(TF:TopoFn g.K T)(hbool:Callee g "bool" (.type "bool"))
  (S:Srt g T s.heap l σ) (hr:σ.ready=some xs)
  (q:∀(s':Shared),Eff l.W F s l.W s'->Srt g T s'.heap l σ->R (.ok (.ret (.bool σ.active))) s') :
  codeAny g.M A (.call (.ref T.active) ⟨[.ref l.a],[]⟩) R s:=by
 obtain⟨c,fk⟩:=TF.active
 refine jn8 (ds:=[objD l.a]) at_ fk (.cons .obj .nil) rfl rfl rfl λenv P O' s_2 r hc hk=>?_
 revert r
 (show let c:Fx:=_; Run c _ _ _ _ _->_)
 intro c r
 conv in (mOf _ _).1=>whnf
 have S2:Srt g T s_2.heap l σ:=S.keeps λb o zw=>hk b o
 obtain⟨rr,hrd,hx⟩:=RdyAt.one (hr ▸ S2.rdy)
 have S2':Srt (g.now s_2 r.act.up) T s_2.heap l σ:=S2.now _
 refine wpAny_execs_cons (wpAny_If (r.test (jl2 (ka:=0) (kb:=0) (a:=objD rr) (jz4 S2' TK hrd rfl (by decide)) jh8 jf0 rfl) λs_3 k_3 r_3=>?_))
 refine wpAny_execs_nil ?_
 have S3:Srt g T s_3.heap l σ:=S2.keeps λb o zw=>ja0 k_3 b o
 have S3':Srt (g.now s_3 r_3.act.up) T s_3.heap l σ:=S3.now _
 have hx3:Ints s_3.heap rr xs:=hx.keeps λo=>ja0 k_3 _ o
 refine wpAny_execs_cons (wpAny_Return_some (r_3.e0 (d:=.bool σ.active) ?_ λv s_4 k_4 rv r_4=>?_))
 ·refine uj3 (ka:=0) (a:=.bool (decide (σ.fin < σ.out))) (ev_cmp (ka:=0) (kb:=0) (ev_fin S3' TK rfl (by decide)) (ev_out S3' TK rfl (by decide)) qd2 rfl) rfl (λh=>?_) λh=>?_
  ·have h:decide (σ.fin < σ.out)=true:=h
   refine⟨?_,Nat.le_refl _⟩
   unfold SS.active
   rw [h,Bool.true_or]
  ·have h:decide (σ.fin < σ.out)=false:=h
   have e:σ.active=!xs.isEmpty:=by unfold SS.active; rw [h,hr]; rfl
   rw [e]
   exact qq0 hx3 (hbool.now _) rfl (jz4 (k:=0) S3' TK hrd rfl (by decide)) rfl
 ·have:=jt5 rv; subst this
  exact q s_4 (r_4.eff_out λzw h=>h) (S3.keeps λb o zw=>ja0 k_4 b o)
end
section
section
variable {g:Glob} {n:Nat} {ρ:Rho} {T:Topo} {l:LayS} {σ:SS} {k:Nat} {p p':Pos}
theorem jz6 {i:Expr}{key:Int}{j:Nat}{a:NdA}{nd:Nd}{ke ki:Nat}(S:Srt g T g.h l σ)(ev:EvS g n ρ e (objD l.m) ke)(ei:EvS g n ρ i (.int key) ki)(hs:SubS.notSlice i=true)(h1:l.ns[j]?=some a)(h2:σ.nodes[j]?=some nd)(hid:nd.id=key):EvS g n ρ (.Subscript e i pos) (objD a.info) k:=by
 intro O M env A s E u rm aO aM eo
 ((show let Q0:=_; wpAny _ _ _ Q0 _ _); intro Q0)
 refine Subscript_ (ev.use u rm aO aM eo λva s_1 k_1 r_1 u_1 o_1 m_1 e_1=>ei.use u_1 rm o_1 m_1 e_1 λvb s_2 k_2 r_2 u_2 o_2 m_2 e_2=>?_)
 ((show let Q0:=_; wpAny _ _ _ Q0 _ _); intro Q0)
 have:=jb0 r_1; subst this
 obtain⟨t,rfl⟩:=ja4 r_2
 have hm:s_2.heap.DictOf (intKind g.prog g.w) l.m (jf2 l.ns σ.nodes):=S.n2i.keep u_2
 have hv:valueAt (jf2 l.ns σ.nodes) key=some (.ref a.info):=by rw [<- hid]; exact qd8 S.len S.ids h1 h2
 exact tail_any (T:="dict") hm.typeIs slot_dict_getitem.lookup (wpAny_getItem_of (intKind_is g.prog g.w key t) hm.mapOf hv ⟨ja1 k_1 (ja1 k_2 (ja5 _ _)),.obj⟩) (jc4 hs _ _)
theorem qy9 {r:Addr}{xs:List Int}{ke:Nat}(X:Ints g.h r xs)(hb:Callee g "tuple" (.type "tuple"))(hsc:ρ.sc.lookup ("tuple":Str)=some .globalImplicit)(ev:EvS g n ρ e (objD r) ke)(hs:jb1 e=true):EvS g n ρ (.Call (.Name "tuple" p) [e] [] pos) (.tuple (xs.map .int)) k :=
 ju1 hb hsc (by decide) (by simpa using hs) (jh0 ev jj2 hs) λO M A s E vs u rm aO aM rs=>by
  obtain⟨v,rfl,r⟩:=qe8 rs
  have:=jb0 r; subst this
  obtain⟨vs,m,h1,h2,h3⟩:=X.keeps λo=>u _ o
  refine call_tuple_list (IsL.isList h1) (λh' hk=>?_) (Nat.le_trans h2 jc3)
  have k_1:Keeps s { s with heap:=h' }:=⟨h',s.toks,rfl,hk⟩
  refine⟨ja1 k_1 (ja6 { s with heap:=h' } _ _),?_⟩
  obtain⟨ys,e1,e2⟩:=jf5 h3
  exact jt4 (s:={ s with heap:=h' }) (aO.keeps k_1) (aM.keeps k_1) h2 (by rw [e1,<- e2]; exact jd2 ys)
theorem qp8 {i:Int}{t:Tok}(hs:ρ.sc.lookup x=some .globalImplicit)(hv:nsIn g.K mainGlobals x=some (some (.int i t)))(hd:(x==("__debug__":Str))=false):EvS g n ρ (.Name x p) (.int i) k :=
 λO M env A s E u rm aO aM eo=>je8 u eo hs hv hd ⟨ja3 s,.int⟩
end
theorem qy4 {xs:List Int}(x:Ints s.heap a xs)(q:∀h',Heap.SameBut a s.heap h'->Ints h' a []->Q .none { s with heap:=h' }) :
  wpAny g.M A (call (.builtin "list.clear") [.ref a]) Q E s:=by
 obtain⟨vs,n,h1,h2,h3⟩:=x
 refine call_meets PySem.F.slot_list_clear ⟨_,h1,rfl⟩ PySem.F.entry_list_clear (PySem.F.args_list_clear_1 _) (AutoSeq1.list_clear_list_0 a vs n (Nat.le_trans h2 jc3)) ⟨h1,q _ (Heap.SameBut.update ..) ⟨#[],_,IsL.update h1 (λzw=>#[]),Nat.zero_le _,.nil⟩⟩
theorem qo8 {xs:List Int}{pl:Sem Bool}{Q:Value×List Value->Shared->Prop}(x:Ints s.heap a xs)(q:Q (.builtin "list.clear",[.ref a]) s) :
  wpAny g.M A (getMethod (.ref a) "clear" pl) Q E s:=by
 obtain⟨vs,n,h1,h2,h3⟩:=x
 exact getMethod_builtin (T:="list") ⟨_,h1,rfl⟩ PySem.F.plainAttrs_list PySem.F.slot_list_clear PySem.F.type_list_clear (λb hb=>⟨_,by cases hb; exact h1,rfl⟩) q
theorem qd9 (σ:SS)(k j:Int)(f:Nd->Nd)(hf:∀n,(f n).id=n.id):(σ.upd k f).has j=σ.has j:=by
 unfold SS.has SS.upd
 rw [List.any_map]
 congr 1
 funext n
 simp only [Function.comp]
 split
 ·rw [hf]
 ·rfl
theorem qk7 {f:Nd->Nd}(hf:∀n,(f n).id=n.id)(ks:List Int)(j:Int):(ks.foldl (λτ k=>τ.upd k f) σ).has j=σ.has j:=by
 induction ks generalizing σ with
 | nil=>rfl
 | cons k ks ih=>rw [List.foldl_cons,ih,qd9 _ _ _ _ hf]
theorem qg5 {f:Nd->Nd}(ks:List Int):(ks.foldl (λτ k=>τ.upd k f) σ).ready=σ.ready/\(ks.foldl (λτ k=>τ.upd k f) σ).out=σ.out/\(ks.foldl (λτ k=>τ.upd k f) σ).fin=σ.fin:=by
 induction ks generalizing σ with
 | nil=>exact⟨rfl,rfl,rfl⟩
 | cons k ks ih=>rw [List.foldl_cons]; exact ih
theorem Srt.at (S:Srt g T h l σ){k:Int}(hh:σ.has k=true):∃(i:Nat) (a:NdA) (nd:Nd),l.ns[i]?=some a/\σ.nodes[i]?=some nd/\nd.id=k:=by
 obtain⟨i,nd,h2,hid⟩:=has_iff.mp hh
 exact⟨i,_,nd,List.getElem?_eq_getElem (by rw [S.len]; exact(List.getElem?_eq_some_iff.mp h2).1),h2,hid⟩
theorem qw6 {xs:List Int}(at_:At g (n+2) A O M l.W F s)(TK:TopoOk g.K T)(TF:TopoFn g.K T)(N:Names g)(htup:Callee g "tuple" (.type "tuple"))
  (S:Srt g T s.heap l σ) (hr:σ.ready=some xs) (hin:∀x∈xs,σ.has x=true)
  (q:∀(s':Shared) v,Eff l.W F s l.W s'->Srt g T s'.heap l σ.getReady.2->Rd (λb=>O b\/l.W b) M s'.heap 0 v (.tuple (σ.getReady.1.map .int))->R (.ok (.ret v)) s') :
  codeAny g.M A (.call (.ref T.ready) ⟨[.ref l.a],[]⟩) R s:=by
 obtain⟨c,fk⟩:=TF.ready
 refine jn8 (ds:=[objD l.a]) at_ fk (.cons .obj .nil) rfl rfl rfl λenv P O' s_2 r hc hk=>?_
 revert r
 (show let c:Fx:=_; Run c _ _ _ _ _->_)
 intro c r
 ((show let Q0:=_; wpAny _ _ _ Q0 _ _); intro Q0)
 conv in (mOf _ _).1=>whnf
 have S2:Srt g T s_2.heap l σ:=S.keeps λb o zw=>hk b o
 obtain⟨rr,hrd,hx⟩:=RdyAt.one (hr ▸ S2.rdy)
 refine wpAny_execs_cons (wpAny_If (r.test (jl2 (ka:=0) (kb:=0) (a:=objD rr) (jz4 (S2.now _) TK hrd rfl (by decide)) jh8 jf0 rfl) λs_3 k_3 r_3=>wpAny_execs_nil ?_))
 ((show let Q0:=_; let E0:=_; wpAny _ _ _ Q0 E0 _); intro Q0 E0)
 have S3:Srt g T s_3.heap l σ:=S2.keeps λb o zw=>ja0 k_3 b o
 have hx3:Ints s_3.heap rr xs:=hx.keeps λo=>ja0 k_3 _ o
 refine wpAny_execs_cons (r_3.assignS rfl (r_3.e0 (qy9 hx3 (htup.now _) rfl (jz4 (k:=0) (S3.now _) TK hrd rfl (by decide)) rfl) λv s_4 k_4 rv r_4=>r_4.store rfl rv λs_5 c5 r_5=>?_))
 have S5:Srt g T s_5.heap l σ:=(S3.keeps λb o zw=>ja0 k_4 b o).keeps (r_4.same c5)
 refine wpAny_execs_cons (r_5.assignS rfl (r_5.e0 (qt5 (S5.now _) TK rfl (by decide)) λv s_6 k6 rv r6=>r6.store rfl rv λs7 c7 r7=>?_))
 have S7:Srt g T s7.heap l σ:=(S5.keeps λb o zw=>ja0 k6 b o).keeps (r6.same c7)
 obtain⟨tko,hout⟩:=TF.out
 refine wpAny_execs_cons (r7.forL (items:=xs.map .int) (xs:=["node"]) rfl rfl (qf9 (jb8 rfl rfl)) (λi W ρ' s'=>W=l.W/\Srt g T s'.heap l ((xs.take i).foldl (λτ k=>τ.upd k λn=>{ n with np:=-1 }) σ)/\ρ'.sc=(mOf "TopologicalSorter" "get_ready").2.1/\ρ'.is "self" (objD l.a)/\ρ'.is "n2i" (objD l.m)/\ρ'.is "result" (.tuple (xs.map .int))) (λzw zw zw=>False) (λzw zw zw zw zw=>False)
  ?_ ⟨rfl,S7,rfl,rfl,rfl,rfl⟩ ?_ ?_ ?_ (λzw zw zw zw zw zw h=>h.elim) (λzw zw zw zw zw zw zw h=>h.elim))
 ·intro i W ρ' s s' hJ k
  obtain⟨hW,S,a⟩:=hJ
  exact⟨hW,S.keeps λb o hb=>k b o (by rw [hW]; exact hb),a⟩
 ·rintro i d W' ρ' s' hd ⟨hW,S,hsc',_⟩
  exact⟨by simpa using jj9 hsc' (x:="node") rfl,_,rfl⟩
 ·intro Z O0 t' i d O' W' ρ' ρ1 s' E' hd hbd hJ r'
  ((show let Q0:=_; wpAny _ _ _ Q0 _ _); intro Q0)
  refine wp_q λQ' hQ=>?_
  obtain⟨hW,S',hsc',hself,hn2i,hres⟩:=hJ
  subst hW
  obtain⟨pr,hpr,rfl⟩:∃pr,xs[i]?=some pr/\d=.int pr:=by
   rw [List.getElem?_map,Option.map_eq_some_iff] at hd
   obtain⟨pr,h,e⟩:=hd
   exact⟨pr,h,e.symm⟩
  have hbd:ρ1=ρ'.put "node" (.int pr) 0:=(Option.some.inj hbd).symm
  subst hbd
  have hself:=Rho.is_ne (x:="node") (d':=.int pr) (k:=0) hself rfl
  have hn2i:=Rho.is_ne (x:="node") (d':=.int pr) (k:=0) hn2i rfl
  have hres:=Rho.is_ne (x:="node") (d':=.int pr) (k:=0) hres rfl
  have hsc'':(ρ'.put "node" (.int pr) 0).sc.lookup ("_NODE_OUT":Str)=some .globalImplicit:=by
   show ρ'.sc.lookup _=_
   rw [hsc']; rfl
  have hmem:pr∈xs:=List.mem_of_getElem? hpr
  obtain⟨j,a,nd,h1,h2,hid⟩:=S'.at (k:=pr) (by rw [qk7 (f:=λn=>{ n with np:=-1 }) (λzw=>rfl)]; exact hin pr hmem)
  generalize hσi:(xs.take i).foldl (λτ k=>τ.upd k λn=>{ n with np:=-1 }) σ=σi at S' h2
  refine wpAny_execs_cons (plainObj_wpAny_Assign_Attribute (r'.e0 (qp8 hsc'' hout (by decide)) λv s8 k8 rv r8=>?_) (ja7 rfl _ _ _))
  obtain⟨tv,rfl⟩:=ja4 rv
  have S8:Srt g T s8.heap l σi:=S'.keeps λb o zw=>ja0 k8 b o
  refine r8.e0 (jz6 (S8.now _) (jb8 (k:=0) hn2i rfl) (jb8 (k:=0) Rho.is_put rfl) rfl h1 h2 hid) λv s9 k9 rv r9=>?_
  have:=jb0 rv; subst this
  have S9:Srt g T s9.heap l σi:=S8.keeps λb o zw=>ja0 k9 b o
  refine uc9 S9 r9.now TK h1 h2 λs_1 cx S1=>wpAny_execs_nil ?_
  have r_1:=r9.eff (W':=l.W) (cx.mono (λzw h=>h) No.le) (λzw h=>h) (λzw h=>.inl h) S1.al
  refine hQ _ _ ⟨_,_,_,r_1,rfl,?_,hsc',hself,hn2i,hres⟩
  have e:(xs.take (i+1)).foldl (λτ k=>τ.upd k λn=>{ n with np:=-1 }) σ=σi.upd nd.id (λn=>{ n with np:=-1 }):=by
   rw [List.take_add_one,hpr,List.foldl_append,hσi,hid]
   rfl
  rw [e]; exact S1
 ·intro O' W' ρ' s' _ r' hJ
  ((show let Q0:=_; wpAny _ _ _ Q0 _ _); intro Q0)
  obtain⟨hW,S',hsc',hself,hn2i,hres⟩:=hJ
  ((show let Q0:=_; wpAny _ _ _ Q0 _ _); intro Q0)
  subst hW
  rw [List.length_map,List.take_length] at S'
  obtain⟨f1,f2,f3⟩:=qg5 (σ:=σ) (f:=λn=>{ n with np:=-1 }) xs
  generalize hτ:xs.foldl (λτ k=>τ.upd k λn=>{ n with np:=-1 }) σ=τ at S' f1 f2 f3
  revert f3
  revert f2
  revert f1
  revert S'
  revert hτ
  revert τ
  refine id ?_
  intro τ hτ S' f1 f2 f3
  ((show let Q0:=_; let E0:=_; wpAny _ _ _ Q0 E0 _); intro Q0 E0)
  obtain⟨rr',hrd',hx'⟩:=RdyAt.one (by have:=S'.rdy; rw [f1,hr] at this; exact this)
  rw [hrd] at hrd'; cases hrd'
  refine wpAny_execs_cons (wpAny_Expr_any (prog:=g.prog) (w:=g.w) (MethodCall_ (r'.e0 (jz4 (S'.now _) TK hrd hself (by decide)) λv s8 k8 rv r8=>?_)) r'.inter (ja7 rfl _ _ _))
  have:=jb0 rv; subst this
  have S8:Srt g T s8.heap l τ:=S'.keeps λb o zw=>ja0 k8 b o
  have hx8:=hx'.keeps λo=>ja0 k8 rr o
  refine qo8 (g:=g) hx8 (callWith_builtin (ja9 rfl) (ja8 rfl (wpAny_items_nil (qy4 (g:=g) hx8 λh_9 hs9 hx9=>?_))))
  have S9:=S8.readyL hrd hs9 hx9
  have r9:=r8.eff (W':=l.W) (s':={ s8 with heap:=h_9 }) ((jb5 (W:=l.W) hs9 (show rr∈l.all by simp [LayS.all,hrd]) rfl).mono (λzw h=>h) No.le) (λzw h=>h) (λzw h=>.inl h) S9.al
  refine wpAny_execs_cons (wpAny_AugAssign_AttributeAny (r9.name hself (by decide) λv rv=>?_))
  have:=jb0 rv; subst this
  refine ui0 S9 r9.now TK λtk=>?_
  ((show let Q0:=_; wpAny _ _ _ Q0 _ _); intro Q0)
  have r9:=r9.toks (s8.toks+1)
  have hscl:ρ'.sc.lookup ("len":Str)=some .globalImplicit:=by rw [hsc']; rfl
  refine r9.e0 (ju1 (ds:=[.tuple (xs.map .int)]) (ks:=0) (N.len.now _) hscl (by decide) rfl (jh0 (jb8 hres rfl) jj2 rfl) qd4) λv s_1 k_1 rv r_1=>?_
  ((show let Q0:=_; wpAny _ _ _ Q0 _ _); intro Q0)
  refine ql7 (g:=g) (O:=No) (M:=No) (ka:=0) (kb:=0) (a:=.int τ.out) (b:=.int ((xs.map PyData.int).length)) rfl .int (by obtain⟨u,rfl⟩:=ja4 rv; exact .int) λv s_3 k_3 rv=>?_
  obtain⟨u7,rfl⟩:=ja4 rv
  have r_3:=r_1.keeps k_3
  have S3:=S9.keeps (h':=s_3.heap) λb o zw e=>ja0 k_3 _ _ (ja0 k_1 _ _ e)
  refine set_out S3 r_3.now TK λs_4 cx4 S4=>?_
  have r_4:=r_3.eff (W':=l.W) (cx4.mono (λzw h=>h) No.le) (λzw h=>h) (λzw h=>.inl h) S4.al
  refine wpAny_execs_cons (wpAny_Return_some (r_4.name hres (by decide) λv rv=>?_))
  have e1:σ.getReady.1=xs:=by unfold SS.getReady; rw [hr]; rfl
  have e2:σ.getReady.2={ { τ with ready:=some [] } with out:=τ.out+((xs.map PyData.int).length:Int) }:=by
   unfold SS.getReady
   rw [hr]
   show({ xs.foldl _ σ with ready:=some [],out:=σ.out+xs.length }:SS)=_
   rw [hτ,List.length_map,f2]
  refine q s_4 v (r_4.eff_out λzw h=>h) ?_ ?_
  ·rw [e2]; exact S4
  ·rw [e1]; exact r_4.rd_out rv
end
theorem ui9 {nodes:List Nd}(h:(nodes.map (·.id)).Nodup){j:Nat}{nd:Nd}(h2:nodes[j]?=some nd):nodes.find? (λn=>n.id==nd.id)=some nd:=by
 induction nodes generalizing j with
 | nil=>simp at h2
 | cons x xs ih =>
  simp only [List.map_cons,List.nodup_cons] at h
  rw [List.find?_cons]
  cases j with
  | zero=>simp only [List.getElem?_cons_zero,Option.some.injEq] at h2; subst h2; simp
  | succ j =>
   simp only [List.getElem?_cons_succ] at h2
   have hne:x.id≠nd.id:=λz=>h.1 (by rw [z]; exact List.mem_map.mpr ⟨nd,List.mem_of_getElem? h2,rfl⟩)
   rw [show(x.id==nd.id)=false by simpa using hne]
   exact ih h.2 h2
theorem np_of (h:(σ.nodes.map (·.id)).Nodup){j:Nat}{nd:Nd}(h2:σ.nodes[j]?=some nd):σ.npOf nd.id=nd.np:=by unfold SS.npOf; rw [ui9 h h2]; rfl
theorem uc2 (h:(σ.nodes.map (·.id)).Nodup){j:Nat}{nd:Nd}(h2:σ.nodes[j]?=some nd):σ.succOf nd.id=nd.succ:=by unfold SS.succOf; rw [ui9 h h2]; rfl
theorem ub7 {j:Nat}{nd:Nd}(h2:σ.nodes[j]?=some nd)(f:Nd->Nd):(σ.upd nd.id f).nodes[j]?=some (f nd):=by
 unfold SS.upd
 simp [h2]
noncomputable def SS.okDone:SS->List Int->Bool
 | _,[]=>true
 | σ,k::ks=>σ.has k && σ.npOf k==-1 && (σ.succOf k).all σ.has && decide ((σ.ready.getD []).length+(σ.succOf k).length < 1000) && (σ.doneOne k).okDone ks
theorem jy3 {σ:SS}:∀(ks:List Int) (i:Nat),σ.okDone ks=true->((ks.take i).foldl SS.doneOne σ).okDone (ks.drop i)=true
 | ks,0,h=>by simpa using h
 | [],i+1,h=>by simp [SS.okDone]
 | k::ks,i+1,h=>by
  unfold SS.okDone at h
  simp only [Bool.and_eq_true] at h
  simpa using jy3 ks i h.2
theorem free_has (σ:SS)(k j:Int):(σ.free k).has j=σ.has j:=by
 unfold SS.free
 dsimp only
 split
 ·exact qd9 σ k j _ (λzw=>rfl)
 ·exact qd9 σ k j _ (λzw=>rfl)
theorem qg6 (ks:List Int)(σ:SS)(j:Int):(ks.foldl SS.free σ).has j=σ.has j:=by
 induction ks generalizing σ with
 | nil=>rfl
 | cons k ks ih=>rw [List.foldl_cons,ih,free_has]
theorem qy7 (σ:SS)(k:Int){xs:List Int}(h:σ.ready=some xs):∃ys,(σ.free k).ready=some ys/\ys.length<=xs.length+1:=by
 unfold SS.free
 dsimp only
 split
 ·refine⟨_,rfl,?_⟩
  show(σ.ready.getD []++[k]).length<=_
  rw [h]; simp
 ·exact⟨xs,h,Nat.le_succ _⟩
theorem jn5 (ks:List Int)(σ:SS){xs:List Int}(h:σ.ready=some xs):∃ys,(ks.foldl SS.free σ).ready=some ys/\ys.length<=xs.length+ks.length:=by
 induction ks generalizing σ xs with
 | nil=>exact⟨xs,h,Nat.le_refl _⟩
 | cons k ks ih =>
  obtain⟨ys,h1,h2⟩:=qy7 σ k h
  obtain⟨zs,h3,h4⟩:=ih (σ.free k) h1
  exact⟨zs,h3,by simp only [List.length_cons]; grind⟩
theorem qy3 {X:Avoid}{xs:List Int}(ev:EvS g n ρ e (objD a) k)(I:Ints g.h a xs)(hXa:X a):um6 g n X ρ false e (xs.map .int):=by
 intro O M env A s E Q u rm aO aM eo hXM q
 refine ev.use u rm aO aM eo λv sa k_1 r_1 u_1 o_1 m_1 e_1=>?_
 have:=jb0 r_1; subst this
 obtain⟨vs,m,h1,h2,h3⟩:=I.keeps λo=>u_1 a o
 obtain⟨ys,e1,e2⟩:=jf5 h3
 have hlen:=h3.length
 rw [Array.length_toList] at hlen
 have k_2:Keeps sa { sa with heap:=sa.heap.push { cls:=.type "list_iterator",data:=.fields #[.ref a,.int 0 0] } }:=ja6 sa _ _
 have hne:a≠sa.heap.objs.size:=λz=>by
  have h1':=h1
  rw [z] at h1'
  exact absurd (Heap.lt_size h1') (Nat.lt_irrefl _)
 refine wpAny_pyIter_list (IsL.isList h1) (q _ _ (λb=>b=sa.heap.objs.size) (λi h=>h.IsListIter sa.heap.objs.size a i/\IsL h a vs m) (ja1 k_1 k_2) ⟨⟨⟨_,Heap.get?_push_size _ rfl,rfl,rfl⟩,ja0 k_2 _ _ h1⟩,λb hb=>by subst hb; exact⟨jc2 k_1,_,Heap.get?_push_size _ rfl⟩,λi h st b hb=>by
   subst hb
   obtain⟨o,ho,hc,hd⟩:=st.1
   exact⟨o,ho,by unfold isFS; rw [hd]⟩,λi h h' st hk=>?_,?_,?_⟩)
 ·obtain⟨⟨o,ho,hr⟩,hl⟩:=st
  exact⟨⟨o,hk _ _ (.inl o_1.new) m_1.new ⟨_,Heap.get?_push_size _ rfl⟩ ho,hr⟩,hk _ _ (.inr hXa) (hXM a hXa) ⟨_,ja0 k_2 _ _ h1⟩ hl⟩
 ·intro O' M' i d t target E' Q' wd' wd htg hd st aO' aM' q'
  obtain⟨v,hv,hr⟩:=h3.get hd
  rw [List.getElem?_map,Option.map_eq_some_iff] at hd
  obtain⟨x,hx,rfl⟩:=hd
  obtain⟨tk,rfl⟩:=ja4 hr
  refine wpAny_pyNext_list_item st.1 (IsL.isList st.2) (by rw [<- Array.getElem?_toList]; exact hv) λh' hit' hs'=>⟨_,rfl,?_⟩
  exact jd5 htg (q' _ { t with heap:=h' } ⟨⟨h',t.toks,rfl⟩,λb o hb e=>hs'.extBut b o hb e⟩ .int ⟨hit',hs'.extBut a _ hne st.2⟩)
 ·intro t E' Q' st q'
  exact wpAny_pyNext_list_end rm.handled st.1 (IsL.isList st.2) (by rw [<- hlen]; simp) λh' he'=>q' _ ⟨⟨h',t.toks,rfl⟩,λb o hb e=>he' b o hb e⟩
theorem ev_sucs {a:NdA}{nd:Nd}{p p':Pos}(N:NodeAt T g.h a nd)(TK:TopoOk g.K T)(hv:ρ.is x (objD a.info))(hd:(x==("__debug__":Str))=false):EvS g n ρ (.Attribute (.Name x p) "successors" p') (objD a.suc) k:=λO M env A s E u rm aO aM eo =>
 Attribute_Name_ ((jb8 hv hd).use u rm aO aM eo λv s_1 k_1 r_1 u_1 o_1 m_1 e_1=>by
  have:=jb0 r_1; subst this
  exact qp1 (N.keeps λb o zw=>u_1 b o) (g.X.keeps u_1) TK ⟨ja1 k_1 (ja5 _ _),.obj⟩)
theorem ev_np {a:NdA}{nd:Nd}{p p':Pos}(N:NodeAt T g.h a nd)(TK:TopoOk g.K T)(hv:ρ.is x (objD a.info))(hd:(x==("__debug__":Str))=false):EvS g n ρ (.Attribute (.Name x p) "npredecessors" p') (.int nd.np) k:=λO M env A s E u rm aO aM eo =>
 Attribute_Name_ ((jb8 hv hd).use u rm aO aM eo λv s_1 k_1 r_1 u_1 o_1 m_1 e_1=>by
  have:=jb0 r_1; subst this
  exact ui1 (N.keeps λb o zw=>u_1 b o) (g.X.keeps u_1) TK λt=>⟨ja1 k_1 (ja5 _ _),.int⟩)
theorem off_suc (h:l.all.Nodup){i j:Nat}{a a':NdA}(h1:l.ns[i]?=some a)(h2:l.ns[j]?=some a'):a'.info≠a.suc:=by
 by_cases e:j=i
 ·subst e
  rw [h1] at h2; cases h2
  exact(qs5 h h1).2.1
 ·exact λz=>(qf4 h h1 (b:=a.suc) (by simp [NdA.all])).ns j a' h2 e (by rw [<- z]; simp [NdA.all])
theorem free_eq (hid:(σ.nodes.map (·.id)).Nodup){j:Nat}{nd:Nd}(h2:σ.nodes[j]?=some nd):σ.free nd.id=if (nd.np - 1==0)=true then { σ.upd nd.id (λn=>{ n with np:=nd.np - 1 }) with ready:=some (σ.ready.getD []++[nd.id]) } else σ.upd nd.id (λn=>{ n with np:=nd.np - 1 }):=by
 unfold SS.free
 have e:σ.upd nd.id (λn=>{ n with np:=n.np - 1 })=σ.upd nd.id (λn=>{ n with np:=nd.np - 1 }):=ub6 hid h2 rfl rfl
 dsimp only
 rw [e]
 have hn:(σ.upd nd.id (λn=>{ n with np:=nd.np - 1 })).npOf nd.id=nd.np - 1:=by
  have h3:=ub7 h2 (λn=>{ n with np:=nd.np - 1 })
  have:=np_of (σ:=σ.upd nd.id (λn=>{ n with np:=nd.np - 1 })) (by rw [qm3 σ nd.id (λn=>{ n with np:=nd.np - 1 }) (λzw=>rfl)]; exact hid) h3
  exact this
 rw [hn]
 rfl
theorem uj8 {ws:List Value}{ks xs0:List Int}(at_:At g (n+2) A O M l.W F s)(TK:TopoOk g.K T)(TF:TopoFn g.K T)(N:Names g)
  (S:Srt g T s.heap l σ) (hr:σ.ready=some xs0) (rw':Rds O M s.heap 0 ws (ks.map .int)) (hz:ks.length<=1000) (hok:σ.okDone ks=true)
  (q:∀(s':Shared),Eff l.W F s l.W s'->Srt g T s'.heap l (σ.done ks)->R (.ok (.ret .none)) s') :
  codeAny g.M A (.call (.ref T.done) ⟨[.ref l.a]++ws,[]⟩) R s:=by
 obtain⟨c,fk⟩:=TF.done
 have hcap:cap=100000:=rfl
 refine uk7 (ds:=[objD l.a]) (es:=ks.map .int) at_ fk (.cons .obj .nil) rw' rfl (by simp; (exact Nat.le_trans (by assumption) (by decide))) rfl rfl λenv P O' s_2 r hc hk=>?_
 revert r
 (show let c:Fx:=_; Run c _ _ _ _ _->_)
 intro c r
 ((show let Q0:=_; wpAny _ _ _ Q0 _ _); intro Q0)
 conv in (mOf _ _).1=>whnf
 have S2:Srt g T s_2.heap l σ:=S.keeps λb o zw=>hk b o
 obtain⟨rr,hrd,hx⟩:=RdyAt.one (hr ▸ S2.rdy)
 obtain⟨to,hout⟩:=TF.out
 obtain⟨td,hdn⟩:=TF.dn
 refine wpAny_execs_cons (wpAny_If (r.test (jl2 (ka:=0) (kb:=0) (a:=objD rr) (jz4 (S2.now _) TK hrd rfl (by decide)) jh8 jf0 rfl) λs_3 k_3 r_3=>wpAny_execs_nil ?_))
 ((show let Q0:=_; let E0:=_; wpAny _ _ _ Q0 E0 _); intro Q0 E0)
 have S3:Srt g T s_3.heap l σ:=S2.keeps λb o zw=>ja0 k_3 b o
 refine wpAny_execs_cons (r_3.assignS rfl (r_3.e0 (qt5 (S3.now _) TK rfl (by decide)) λv s_6 k6 rv r6=>r6.store rfl rv λs7 c7 r7=>?_))
 have S7:Srt g T s7.heap l σ:=(S3.keeps λb o zw=>ja0 k6 b o).keeps (r6.same c7)
 refine wpAny_execs_cons (r7.forL (items:=ks.map .int) (xs:=["node"]) rfl rfl (qf9 (jb8 rfl rfl)) (λi W ρ' s'=>W=l.W/\Srt g T s'.heap l ((ks.take i).foldl SS.doneOne σ)/\(∃ys,((ks.take i).foldl SS.doneOne σ).ready=some ys)/\(∀x,ρ'.sc.lookup x=(mOf "TopologicalSorter" "done").2.1.lookup x)/\ρ'.is "self" (objD l.a)/\ρ'.is "n2i" (objD l.m)) (λzw zw zw=>False) (λzw zw zw zw zw=>False)
  ?_ ⟨rfl,S7,⟨xs0,hr⟩,λzw=>rfl,rfl,rfl⟩ ?_ ?_ ?_ (λzw zw zw zw zw zw h=>h.elim) (λzw zw zw zw zw zw zw h=>h.elim))
 ·intro i W ρ' s s' hJ k
  obtain⟨hW,S,a⟩:=hJ
  exact⟨hW,S.keeps λb o hb=>k b o (by rw [hW]; exact hb),a⟩
 ·rintro i d W' ρ' s' hd ⟨hW,S,_,hsc',_⟩
  refine⟨?_,_,rfl⟩
  have:stOk ρ' "node"=true:=by
   unfold stOk
   rw [hsc']; rfl
  simpa using this
 ·intro Z O0 t' i d O' W' ρ' ρ1 s' E' hd hbd hJ r'
  revert r'
  (show let c0:Fx:=_; Run c0 _ _ _ _ _->_)
  intro c0 r'
  refine wp_q λQ' hQ=>?_
  obtain⟨hW,S',⟨ys,hys⟩,hsc',hself,hn2i⟩:=hJ
  subst hW
  obtain⟨k,hpr,rfl⟩:∃pr,ks[i]?=some pr/\d=.int pr:=by
   rw [List.getElem?_map,Option.map_eq_some_iff] at hd
   obtain⟨pr,h,e⟩:=hd
   exact⟨pr,h,e.symm⟩
  have hbd:ρ1=ρ'.put "node" (.int k) 0:=(Option.some.inj hbd).symm
  subst hbd
  have hself:=Rho.is_ne (x:="node") (d':=.int k) (k:=0) hself rfl
  have hn2i:=Rho.is_ne (x:="node") (d':=.int k) (k:=0) hn2i rfl
  have hnode:(ρ'.put "node" (.int k) 0).is "node" (.int k):=Rho.is_put
  have hscN:∀x,(ρ'.put "node" (.int k) 0).sc.lookup x=(mOf "TopologicalSorter" "done").2.1.lookup x:=hsc'
  generalize ρ'.put "node" (.int k) 0=ρ1 at hself hn2i hnode hscN r'
  revert r'
  revert hscN
  revert hnode
  revert hn2i
  revert hself
  revert ρ1
  refine id ?_
  intro ρ1 hself hn2i hnode hscN r'
  have hsc1:∀x,stOk ⟨(mOf "TopologicalSorter" "done").2.1,[]⟩ x=true->stOk ρ1 x=true:=λx h=>by
   unfold stOk at h ⊢
   rw [hscN]; exact h
  have hdrop:=jy3 ks i hok
  obtain⟨hi,he⟩:=List.getElem?_eq_some_iff.mp hpr
  rw [List.drop_eq_getElem_cons hi,he] at hdrop
  generalize hσi:(ks.take i).foldl SS.doneOne σ=σi at S' hys hdrop
  revert hdrop
  revert hys
  revert S'
  revert hσi
  revert σi
  refine id ?_
  intro σi hσi S' hys hdrop
  unfold SS.okDone at hdrop
  simp only [Bool.and_eq_true,beq_iff_eq,List.all_eq_true,decide_eq_true_eq] at hdrop
  obtain⟨⟨⟨⟨hhas,hnp⟩,hsuc⟩,hsz⟩,_⟩:=hdrop
  obtain⟨j,a,nd,h1,h2,hid⟩:=S'.at hhas
  subst hid
  rw [np_of S'.ids h2] at hnp
  rw [uc2 S'.ids h2] at hsuc hsz
  have hv:valueAt (jf2 l.ns σi.nodes) nd.id=some (.ref a.info):=qd8 S'.len S'.ids h1 h2
  refine wpAny_execs_cons (wpAny_If (wpAny_isTrue_Compare1 (wpAny_NamedExpr (MethodCall_ (r'.name hn2i (by decide) λv rv=>?_))) rfl))
  have:=jb0 rv; subst this
  refine qs6 (g:=g) (T:=T) (l:=l) (σ:=σi) S' (callWith_builtin (ja9 rfl) (ja8 rfl (wpAny_items_cons (r'.name hnode (by decide) λv rv=>wpAny_items_nil ?_) rfl)))
  obtain⟨u,rfl⟩:=ja4 rv
  refine uf3 (g:=g) (T:=T) (l:=l) (σ:=σi) S' ?_
  rw [hv]
  have r':=r'.toks (s'.toks+1)
  refine r'.assign (d:=objD a.info) (hsc1 _ rfl) .obj λs_3 c_3 r_3=>?_
  ((show let Q0:=_; wpAny _ _ _ Q0 _ _); intro Q0)
  have S3:Srt g T s_3.heap l σi:=S'.keeps (r'.same c_3)
  refine r_3.e0 jh8 λv' s_4 k_4 rv' r_4=>jf0 (g:=g) (n:=n) O' No _ s_4 _ _ _ _ (r_4.rm.le (by show n<=n+1; (exact Nat.le_add_right _ _))) (Rd.obj (k:=0) (a:=a.info)) rv' (wpAny_truthy_bool (wpAny_execs_nil ?_))
  have S4:Srt g T s_4.heap l σi:=S3.keeps λb o zw=>ja0 k_4 b o
  have hself:=Rho.is_ne (x:="nodeinfo") (d':=objD a.info) (k:=0) hself rfl
  have hn2i:=Rho.is_ne (x:="nodeinfo") (d':=objD a.info) (k:=0) hn2i rfl
  have hinfo:(ρ1.put "nodeinfo" (objD a.info) 0).is "nodeinfo" (objD a.info):=Rho.is_put
  have hscN':(ρ1.put "nodeinfo" (objD a.info) 0).sc=ρ1.sc:=rfl
  generalize ρ1.put "nodeinfo" (objD a.info) 0=ρ2 at hself hn2i hinfo r_4 hscN'
  revert hscN'
  revert r_4
  revert hinfo
  revert hn2i
  revert hself
  revert ρ2
  refine id ?_
  intro ρ2 hself hn2i hinfo r_4 hscN'
  rw [<- hscN'] at hscN
  have hsc2:∀x,stOk ⟨(mOf "TopologicalSorter" "done").2.1,[]⟩ x=true->stOk ρ2 x=true:=λx h=>by
   unfold stOk at h ⊢
   rw [hscN]; exact h
  refine wpAny_execs_cons (r_4.assignS rfl (r_4.e0 (ev_np (g:=g.now _ _) (S4.nds j a nd h1 h2) TK hinfo (by decide)) λv s_5 k_5 rv r_5=>r_5.store (hsc2 _ rfl) rv λs_6 c6 r6=>?_))
  ((show let Q0:=_; wpAny _ _ _ Q0 _ _); intro Q0)
  have S6:Srt g T s_6.heap l σi:=(S4.keeps λb o zw=>ja0 k_5 b o).keeps (r_5.same c6)
  have hself:=Rho.is_ne (x:="stat") (d':=.int nd.np) (k:=0) hself rfl
  have hn2i:=Rho.is_ne (x:="stat") (d':=.int nd.np) (k:=0) hn2i rfl
  have hinfo:=Rho.is_ne (x:="stat") (d':=.int nd.np) (k:=0) hinfo rfl
  have hstat:(ρ2.put "stat" (.int nd.np) 0).is "stat" (.int nd.np):=Rho.is_put
  have hscN':(ρ2.put "stat" (.int nd.np) 0).sc=ρ2.sc:=rfl
  generalize ρ2.put "stat" (.int nd.np) 0=ρ3 at hself hn2i hinfo hstat r6 hscN'
  revert hscN'
  revert r6
  revert hstat
  revert hinfo
  revert hn2i
  revert hself
  revert ρ3
  refine id ?_
  intro ρ3 hself hn2i hinfo hstat r6 hscN'
  rw [<- hscN'] at hscN
  refine wpAny_execs_cons (wpAny_If (r6.test (jl2 (ka:=0) (kb:=0) (jb8 hstat rfl) (qp8 (by rw [hscN]; rfl) hout (by decide)) qd1 rfl) λs7 k7 r7=>?_))
  rw [hnp]
  refine wpAny_execs_nil ?_
  have S7:Srt g T s7.heap l σi:=S6.keeps λb o zw=>ja0 k7 b o
  refine wpAny_execs_cons (plainObj_wpAny_Assign_Attribute (r7.e0 (qp8 (by rw [hscN]; rfl) hdn (by decide)) λv s8 k8 rv r8=>r8.name hinfo (by decide) λv' rv'=>?_) (ja7 rfl _ _ _))
  obtain⟨u8,rfl⟩:=ja4 rv
  have:=jb0 rv'; subst this
  have S8:Srt g T s8.heap l σi:=S7.keeps λb o zw=>ja0 k8 b o
  refine uc9 S8 r8.now TK h1 h2 λs9 cx9 S9=>?_
  ((show let Q0:=_; wpAny _ _ _ Q0 _ _); intro Q0)
  have r9:=r8.eff (W':=l.W) (cx9.mono (λzw h=>h) No.le) (λzw h=>h) (λzw h=>.inl h) S9.al
  have h29:=ub7 h2 (λn=>{ n with np:=-2 })
  have ids9:((σi.upd nd.id (λn=>{ n with np:=-2 })).nodes.map (·.id)).Nodup:=by rw [qm3 σi nd.id (λn=>{ n with np:=-2 }) (λzw=>rfl)]; exact S'.ids
  have rdy9:(σi.upd nd.id (λn=>{ n with np:=-2 })).ready=some ys:=hys
  have has9:∀x∈nd.succ,(σi.upd nd.id (λn=>{ n with np:=-2 })).has x=true:=λx hx=>by rw [qd9 σi nd.id x (λn=>{ n with np:=-2 }) (λzw=>rfl)]; exact hsuc x hx
  generalize hσ9:σi.upd nd.id (λn=>{ n with np:=-2 })=σ9 at S9 h29 ids9 rdy9 has9
  revert has9
  revert rdy9
  revert ids9
  revert h29
  revert S9
  revert hσ9
  revert σ9
  refine id ?_
  intro σ9 hσ9 S9 h29 ids9 rdy9 has9
  ((show let Q0:=_; let E0:=_; wpAny _ _ _ Q0 E0 _); intro Q0 E0)
  have N9:=S9.nds j a _ h1 h29
  have hsW:l.W a.suc:=jy5 h1 (by simp [NdA.all])
  let W0:Avoid:=λb=>l.W b/\b≠a.suc
  have rs:=r9.subW (W':=W0) λb h=>h.1
  have hX:∀b,b=a.suc->(∃o,s9.heap.get? b=some o)/\¬P b/\¬No b/\¬W0 b/\¬(F b\/b=env.locals):=λb hb=>by
   subst hb
   have w:=r9.wp _ hsW
   exact⟨S9.al _ hsW,w.p,id,λz=>z.2 rfl,λz=>by
    rcases z with z | z
    ·exact w.f z
    ·exact w.e.1 z⟩
  refine wpAny_execs_cons (rs.forX (X:=λb=>b=a.suc) (items:=nd.succ.map .int) (xs:=["successor"]) rfl rfl hX (qy3 (k:=0) (ev_sucs (g:=g.now _ _) N9 TK hinfo (by decide)) N9.2.2 rfl)
   (λi W ρ' s'=>W=W0/\Srt g T s'.heap l ((nd.succ.take i).foldl SS.free σ9)/\(∀x,ρ'.sc.lookup x=(mOf "TopologicalSorter" "done").2.1.lookup x)/\ρ'.is "self" (objD l.a)/\ρ'.is "n2i" (objD l.m)) (λzw zw zw=>False) (λzw zw zw zw zw=>False)
   ?_ ⟨rfl,S9,hscN,hself,hn2i⟩ ?_ ?_ ?_ (λzw zw zw zw zw zw h=>h.elim) (λzw zw zw zw zw zw zw h=>h.elim))
  ·intro i W ρ' s s' hJ k
   obtain⟨hW,S,a'⟩:=hJ
   refine⟨hW,S.keeps λb o hb=>k b o ?_,a'⟩
   by_cases e:b=a.suc
   ·exact .inr e
   ·left; rw [hW]; exact⟨hb,e⟩
  ·rintro i d W' ρ' s' hd ⟨hW,S,hsc',_⟩
   refine⟨?_,_,rfl⟩
   have:stOk ρ' "successor"=true:=by
    unfold stOk
    rw [hsc']; rfl
   simpa using this
  ·intro Z' O1 t'' i' d O'' W'' ρ'' ρ4 s'' E'' hd hbd hJ r''
   revert r''
   (show let c1:Fx:=_; Run c1 _ _ _ _ _->_)
   intro c1 r''
   refine wp_q λQ'' hQ2=>?_
   ((show let Q0:=_; wpAny _ _ _ Q0 _ _); intro Q0)
   obtain⟨hW,S'',hsc'',hself,hn2i⟩:=hJ
   subst hW
   obtain⟨x,hpx,rfl⟩:∃pr,nd.succ[i']?=some pr/\d=.int pr:=by
    rw [List.getElem?_map,Option.map_eq_some_iff] at hd
    obtain⟨pr,h,e⟩:=hd
    exact⟨pr,h,e.symm⟩
   have hbd:ρ4=ρ''.put "successor" (.int x) 0:=(Option.some.inj hbd).symm
   subst hbd
   have hself:=Rho.is_ne (x:="successor") (d':=.int x) (k:=0) hself rfl
   have hn2i:=Rho.is_ne (x:="successor") (d':=.int x) (k:=0) hn2i rfl
   have hsx:(ρ''.put "successor" (.int x) 0).is "successor" (.int x):=Rho.is_put
   have hscN':(ρ''.put "successor" (.int x) 0).sc=ρ''.sc:=rfl
   generalize ρ''.put "successor" (.int x) 0=ρ5 at hself hn2i hsx r'' hscN'
   revert hscN'
   revert r''
   revert hsx
   revert hn2i
   revert hself
   revert ρ5
   refine id ?_
   intro ρ5 hself hn2i hsx r'' hscN'
   rw [<- hscN'] at hsc''
   have hhas:=has9 x (List.mem_of_getElem? hpx)
   rw [<- qg6 (nd.succ.take i')] at hhas
   obtain⟨zs,hzs,hzl⟩:=jn5 (nd.succ.take i') σ9 rdy9
   generalize hσj:(nd.succ.take i').foldl SS.free σ9=σj at S'' hhas hzs
   revert hzs
   revert hhas
   revert S''
   revert hσj
   revert σj
   refine id ?_
   intro σj hσj S'' hhas hzs
   obtain⟨j',a',nd',g1,g2,hid'⟩:=S''.at hhas
   subst hid'
   have hlt:zs.length < 1000:=by
    have:=(List.getElem?_eq_some_iff.mp hpx).1
    rw [List.length_take] at hzl
    rw [hys] at hsz
    simp only [Option.getD_some] at hsz
    omega
   refine wpAny_execs_cons (r''.assignS rfl (r''.e0 (jz6 (S''.now _) (jb8 (k:=0) hn2i rfl) (jb8 (k:=0) hsx rfl) rfl g1 g2 rfl) λv s_1 k_1 rv r_1=>r_1.store (by unfold stOk; rw [hsc'']; rfl) rv λs_2 c_2 r_2=>?_))
   ((show let Q0:=_; wpAny _ _ _ Q0 _ _); intro Q0)
   have S2:Srt g T s_2.heap l σj:=by
    have z:=S''.keeps (h':=s_1.heap) λb o zw=>ja0 k_1 b o
    refine z.keeps λb o hb e=>?_
    by_cases eb:b=a.suc
    ·exact c_2.2 b o (λq=>by
      subst eb
      rcases q with q | q
      ·exact(hX _ rfl).2.1 q
      ·exact q) e
    ·exact r_1.same c_2 b o ⟨hb,eb⟩ e
   have hself:=Rho.is_ne (x:="successor_info") (d':=objD a'.info) (k:=0) hself rfl
   have hn2i:=Rho.is_ne (x:="successor_info") (d':=objD a'.info) (k:=0) hn2i rfl
   have hsx:=Rho.is_ne (x:="successor_info") (d':=objD a'.info) (k:=0) hsx rfl
   have hsi:(ρ5.put "successor_info" (objD a'.info) 0).is "successor_info" (objD a'.info):=Rho.is_put
   have hscN':(ρ5.put "successor_info" (objD a'.info) 0).sc=ρ5.sc:=rfl
   generalize ρ5.put "successor_info" (objD a'.info) 0=ρ6 at hself hn2i hsx hsi r_2 hscN'
   revert hscN'
   revert r_2
   revert hsi
   revert hsx
   revert hn2i
   revert hself
   revert ρ6
   refine id ?_
   intro ρ6 hself hn2i hsx hsi r_2 hscN'
   rw [<- hscN'] at hsc''
   refine wpAny_execs_cons (wpAny_AugAssign_AttributeAny (r_2.name hsi (by decide) λv rv=>?_))
   ((show let Q0:=_; wpAny _ _ _ Q0 _ _); intro Q0)
   have:=jb0 rv; subst this
   refine ui1 (S2.nds j' a' nd' g1 g2) r_2.now TK λtk=>?_
   ((show let Q0:=_; wpAny _ _ _ Q0 _ _); intro Q0)
   have r_2:=r_2.toks (s_2.toks+1)
   refine r_2.e0 jn6 λv s_3 k_3 rv r_3=>?_
   ((show let Q0:=_; wpAny _ _ _ Q0 _ _); intro Q0)
   refine ql7 (g:=g) (O:=No) (M:=No) (ka:=0) (kb:=0) (a:=.int nd'.np) (b:=.int 1) rfl .int (by obtain⟨u,rfl⟩:=ja4 rv; exact .int) λv s_4 k_4 rv=>?_
   ((show let Q0:=_; wpAny _ _ _ Q0 _ _); intro Q0)
   obtain⟨u4,rfl⟩:=ja4 rv
   have r_4:=r_3.keeps k_4
   have S4:Srt g T s_4.heap l σj:=S2.keeps λb o zw e=>ja0 k_4 _ _ (ja0 k_3 _ _ e)
   refine uc8 S4 r_4.now TK g1 g2 λs_5 cx5 S5=>?_
   ((show let Q0:=_; wpAny _ _ _ Q0 _ _); intro Q0)
   have al5:Alloc W0 s_5:=λb hb=>S5.al b hb.1
   have r_5:=r_4.eff (W':=W0) (cx5.mono (λb hb=>by rw [hb]; exact⟨jy5 g1 (by simp [NdA.all]),off_suc S''.nodup h1 g1⟩) No.le) (λzw h=>h) (λzw h=>.inl h) al5
   have g2':=ub7 g2 (λn=>{ n with np:=nd'.np - 1 })
   have N5:=S5.nds j' a' _ g1 g2'
   have efree:=free_eq S''.ids g2
   have estep:(nd.succ.take (i'+1)).foldl SS.free σ9=σj.free nd'.id:=by
    rw [List.take_add_one,hpx,List.foldl_append,hσj]; rfl
   refine wpAny_execs_cons (wpAny_If (r_5.test (jl2 (ka:=0) (kb:=0) (ev_np (g:=g.now _ _) N5 TK hsi (by decide)) jn6 ju2 rfl) λs_6 k6 r6=>?_))
   have S6:=S5.keeps (h':=s_6.heap) λb o zw=>ja0 k6 b o
   by_cases hz0:(nd'.np - 1==0)=true
   ·rw [if_pos hz0]
    rw [if_pos hz0] at efree
    obtain⟨rr',hrd',hx'⟩:=RdyAt.one (by have:=S6.rdy; rw [show(σj.upd nd'.id _).ready=σj.ready from rfl,hzs] at this; exact this)
    rw [hrd] at hrd'; cases hrd'
    refine wpAny_execs_cons (wpAny_Expr_any (prog:=g.prog) (w:=g.w) (MethodCall_ (r6.e0 (jz4 (S6.now _) TK hrd hself (by decide)) λv s7 k7 rv r7=>?_)) r6.inter (ja7 rfl _ _ _))
    have:=jb0 rv; subst this
    have S7:=S6.keeps (h':=s7.heap) λb o zw=>ja0 k7 b o
    have hx7:=hx'.keeps λo=>ja0 k7 rr o
    refine jz1 (g:=g) hx7 (callWith_builtin (ja9 rfl) (ja8 rfl (wpAny_items_cons (r7.name hsx (by decide) λv rv=>wpAny_items_nil ?_) rfl)))
    obtain⟨u7,rfl⟩:=ja4 rv
    refine jp9 (g:=g) hx7 (by (exact Nat.le_trans (by assumption) (by decide))) λh_8 hs8 hx8=>wpAny_execs_nil ?_
    have S8:=S7.readyL hrd hs8 hx8
    have hrW:W0 rr:=⟨show rr∈l.all by simp [LayS.all,hrd],λz=>(qf4 S''.nodup h1 (b:=a.suc) (by simp [NdA.all])).rd (by rw [hrd,<- z]; simp)⟩
    have r8:=r7.eff (W':=W0) (s':={ s7 with heap:=h_8 }) ((jb5 (W:=W0) hs8 hrW rfl).mono (λzw h=>h) No.le) (λzw h=>h) (λzw h=>.inl h) λb hb=>S8.al b hb.1
    refine wpAny_execs_nil (hQ2 _ _ ⟨_,_,_,r8,rfl,?_,hsc'',hself,hn2i⟩)
    rw [estep,efree,hzs]
    exact S8
   ·rw [Bool.not_eq_true] at hz0
    rw [hz0]
    rw [if_neg (by rw [hz0]; decide)] at efree
    refine wpAny_execs_nil (wpAny_execs_nil (hQ2 _ _ ⟨_,_,_,r6,rfl,?_,hsc'',hself,hn2i⟩))
    rw [estep,efree]
    exact S6
  ·intro Oe We ρe se hOe re hJ
   ((show let Q0:=_; wpAny _ _ _ Q0 _ _); intro Q0)
   obtain⟨hW,Se,hsce,hself,hn2i⟩:=hJ
   subst hW
   rw [List.length_map,List.take_length] at Se
   have re:=re.addW (W':=l.W) (λb hb=>hOe b (r9.wo b hb)) r9.ww r9.wp λb hb=>(r9.zo b hb).2.2.2.1
   refine wpAny_execs_cons (wpAny_AugAssign_AttributeAny (re.name hself (by decide) λv rv=>?_))
   ((show let Q0:=_; wpAny _ _ _ Q0 _ _); intro Q0)
   have:=jb0 rv; subst this
   refine ui2 Se re.now TK λtk=>?_
   ((show let Q0:=_; wpAny _ _ _ Q0 _ _); intro Q0)
   have re:=re.toks (se.toks+1)
   refine re.e0 jn6 λv s_3 k_3 rv r_3=>?_
   ((show let Q0:=_; wpAny _ _ _ Q0 _ _); intro Q0)
   refine ql7 (g:=g) (O:=No) (M:=No) (ka:=0) (kb:=0) (a:=.int (nd.succ.foldl SS.free σ9).fin) (b:=.int 1) rfl .int (by obtain⟨u,rfl⟩:=ja4 rv; exact .int) λv s_4 k_4 rv=>?_
   obtain⟨u4,rfl⟩:=ja4 rv
   have r_4:=r_3.keeps k_4
   have S4:=Se.keeps (h':=s_4.heap) λb o zw e=>ja0 k_4 _ _ (ja0 k_3 _ _ e)
   refine set_fin S4 r_4.now TK λs_5 cx5 S5=>wpAny_execs_nil ?_
   have r_5:=r_4.eff (W':=l.W) (cx5.mono (λzw h=>h) No.le) (λzw h=>h) (λzw h=>.inl h) S5.al
   obtain⟨zs,hzs,_⟩:=jn5 nd.succ σ9 rdy9
   have e:(ks.take (i+1)).foldl SS.doneOne σ={ nd.succ.foldl SS.free σ9 with fin:=(nd.succ.foldl SS.free σ9).fin+1 }:=by
    rw [List.take_add_one,hpr,List.foldl_append,hσi]
    show σi.doneOne nd.id=_
    unfold SS.doneOne
    rw [uc2 S'.ids h2,hσ9]
   refine hQ _ _ ⟨_,_,_,r_5,rfl,?_,?_,hsce,hself,hn2i⟩
   ·rw [e]; exact S5
   ·rw [e]; exact⟨zs,hzs⟩
 ·intro O' W' ρ' s' _ r' hJ
  ((show let Q0:=_; wpAny _ _ _ Q0 _ _); intro Q0)
  obtain⟨hW,S',_⟩:=hJ
  subst hW
  rw [List.length_map,List.take_length] at S'
  exact wpAny_execs_nil (q s' (r'.eff_out λzw h=>h) S')
section
noncomputable def jj1 (it:Addr):Obj:={ cls:=.type "method-wrapper",data:=.fields #[.builtin "list_iterator.__next__",.ref it] }
theorem slot_wget:Slot "wrapper_descriptor" "__get__" "wrapper_descriptor.__get__" :=
 .of (owner:="wrapper_descriptor") (n:="__get__") (by rw [typeLookup_type,builtinLookup_eq_fast]; kernel_rfl) (by decide +kernel) (by decide +kernel) (by decide +kernel)
  (by first | exact .inl (by decide +kernel) | exact .inr (by decide +kernel)) (by rw [isSubtype_type]; kernel_rfl)
theorem qz1:entryFor table "wrapper_descriptor.__get__"=some Builtin.«wrapper_descriptor.__get__»:=entryFor_of_tree (by kernel_rfl)
theorem um0 (a b c:Value):argsOk "wrapper_descriptor.__get__" ⟨[a,b,c],[]⟩:=by unfold argsOk; kernel_rfl
theorem qh8:typeOf (.builtin "list_iterator.__next__")=pure (.type "wrapper_descriptor"):=by show builtinType _=_; rw [builtinType_eq_fast]; kernel_rfl
theorem slot_liga:Slot "list_iterator" "__getattribute__" "object.__getattribute__" :=
 .of (owner:="object") (n:="__getattribute__") (by rw [typeLookup_type,builtinLookup_eq_fast]; kernel_rfl) (by decide +kernel) (by decide +kernel) (by decide +kernel)
  (by first | exact .inl (by decide +kernel) | exact .inr (by decide +kernel)) (by rw [isSubtype_type]; kernel_rfl)
theorem uj7:entryFor table "object.__getattribute__"=some Builtin.«object.__getattribute__»:=entryFor_of_tree (by kernel_rfl)
theorem args_oga (a b:Value):argsOk "object.__getattribute__" ⟨[a,b],[]⟩:=by unfold argsOk; kernel_rfl
theorem sub_li:isSubtype (.type "list_iterator") (.type "list_iterator")=pure true:=by rw [isSubtype_type]; kernel_rfl
theorem wset:typeLookup (.type "wrapper_descriptor") "__set__"=pure none:=by rw [typeLookup_type,builtinLookup_eq_fast]; kernel_rfl
theorem wdel:typeLookup (.type "wrapper_descriptor") "__delete__"=pure none:=by rw [typeLookup_type,builtinLookup_eq_fast]; kernel_rfl
noncomputable def jh5 (l:Addr) (i:Nat):Obj:={ cls:=.type "list_iterator",dict:=none,data:=.fields #[.ref l,.int i 0],slots:=#[] }
section
open PySem.Builtin PySem.Builtin.ObjectAttr
variable {prog:Program} {w:World} {A:Around} {E:Value->Shared->Prop} {s:Shared} {it l:Addr} {i:Nat}
theorem ui8 {Q:Found->Shared->Prop}(hx:s.heap.get? it=some (jh5 l i))(q:Q (.bind (.builtin "wrapper_descriptor.__get__") (.builtin "list_iterator.__next__")) s):wpAny (model prog w) A (find (.ref it) (.type "list_iterator") "__next__") Q E s:=by
 obtain⟨hp,g,d,tk,os⟩:=s
 have f1:=slot_listiter_next.lookup
 have f2:=qh8
 have f3:=slot_wget.lookup
 have hT:(⟨hp,g,d,tk,os⟩:Shared).TypeIs (.ref it) "list_iterator":=⟨_,hx,rfl⟩
 have f4:=wset
 have f5:=wdel
 unfold find getOf specialOf
 repeat (any_goals (first | assumption | wp_step))
theorem run_wget {P:Fin->Shared->Prop}(hx:s.heap.get? it=some (jh5 l i))(h:P (.done (.ret (.ref s.heap.objs.size))) { s with heap:=s.heap.push (jj1 it) }) :
  wpAny (model prog w) A (Builtin.«wrapper_descriptor.__get__» ⟨[.builtin "list_iterator.__next__",.ref it,.type "list_iterator"],[]⟩) P E s:=by
 obtain⟨hp,g,d,tk,os⟩:=s
 have f1:=sub_li
 have hT:(⟨hp,g,d,tk,os⟩:Shared).TypeIs (.ref it) "list_iterator":=⟨_,hx,rfl⟩
 have e:".".intercalate (("list_iterator.__next__".cutAt '.').dropLast)="list_iterator":=by decide +kernel
 unfold Builtin.«wrapper_descriptor.__get__»
 repeat (any_goals (first | assumption | wp_step))
 rw [e,f1]
 refine wpAny_pure ?_
 rw [if_neg (by decide)]
 refine wpAny_pure ?_
 exact wpAny_bind (wpAny_newObj_type (wpAny_pure h))
theorem oga_next {P:Fin->Shared->Prop}{u:Tok}(hx:s.heap.get? it=some (jh5 l i))(h:P (.done (.ret (.ref s.heap.objs.size))) { s with heap:=s.heap.push (jj1 it) }) :
  wpAny (model prog w) A (Builtin.«object.__getattribute__» ⟨[.ref it,.str "__next__" u],[]⟩) P E s:=by
 have hT:s.TypeIs (.ref it) "list_iterator":=⟨_,hx,rfl⟩
 unfold Builtin.«object.__getattribute__»
 refine wpAny_bind (wpAny_of_eq (a:=(.ref it,[.str "__next__" u])) (by first | rfl | kernel_rfl) ?_)
 refine wpAny_bind (wpAny_of_eq (a:=("__next__":Str)) (by first | rfl | kernel_rfl) ?_)
 refine wpAny_bind (wpAny_typeOf hT (wpAny_bind (ui8 hx ?_)))
 show wpAny _ _ (bindTo (.builtin "wrapper_descriptor.__get__") (.builtin "list_iterator.__next__") (.ref it) (.type "list_iterator")) _ _ _
 unfold bindTo
 refine wpAny_bind (wpAny_holding (wpAny_call_entry slot_wget (s:=s) qh8 qz1 (run_wget hx ⟨_,rfl,wpAny_pure h⟩) (um0 _ _ _)))
theorem qk5 {b:Bool}(hx:s.heap.get? it=some (jh5 l i))(q:Q (.ref s.heap.objs.size) { s with heap:=s.heap.push (jj1 it),toks:=s.toks+1 }):wpAny (model prog w) A (getAttr (.ref it) "__next__" b) Q E s:=by
 have hT:∀tk,({ s with toks:=tk }:Shared).TypeIs (.ref it) "list_iterator":=λtk=>⟨_,hx,rfl⟩
 unfold getAttr getAttrBy
 refine wpAny_bind (wpAny_mkText (wpAny_holding (wpAny_bind (wpAny_typeOf (hT _) ?_))))
 refine wpAny_bind (wpAny_of_eq slot_liga.lookup ?_)
 show wpAny _ _ (getAttrByItsOwn (.ref it) (.str "__next__" s.toks) (.type "list_iterator") (.builtin "object.__getattribute__") true b) _ _ _
 unfold getAttrByItsOwn hookBefore callGetattribute boundAndCalled
 refine wpAny_bind (wpAny_of_eq (a:=(none:Option Value)) rfl ?_)
 refine wpAny_bind (wpAny_attempt (wpAny_holding ?_))
 rw [show(b && onTheHeap (.builtin "object.__getattribute__"))=false by cases b <;> rfl]
 rw [if_neg (by decide)]
 refine wpAny_bind (wpAny_of_eq (slot_liga.bind (.ref it)) ?_)
 refine wpAny_call_entry slot_liga (s:={ s with toks:=s.toks+1 }) (hT _) uj7 (oga_next (s:={ s with toks:=s.toks+1 }) hx ⟨_,rfl,?_⟩) (args_oga _ _)
 exact wpAny_pure q
theorem qw9 {as:Args}:(Code.builtin "list_iterator.__next__" as).quiet=true:=Code.quiet_builtin _ (by decide +kernel)
theorem ua0 (it:Addr):checkBoundCall "list_iterator.__next__" ⟨[.ref it],[]⟩=pure ():=by first | rfl | kernel_rfl
theorem uk6 {mw:Addr}(hm:s.heap.get? mw=some (jj1 it))
  (h:wpAny (model prog w) A.in1 (Builtin.«list_iterator.__next__» ⟨[.ref it],[]⟩) (λfin s'=>match fin with | .done f=>R (.ok f) s' | .again c'=>c'.quiet=true/\codeAny (model prog w) A c' R s') (λe s'=>R (.error e) s') s) :
  codeAny (model prog w) A (.call (.ref mw) ⟨[],[]⟩) R s:=by
 refine codeAny_of_tree ?_
 show wpAny _ A.in1 (callAny (.ref mw) ⟨[],[]⟩) _ _ s
 show wpAny _ A.in1 (load mw >>= _) _ _ s
 refine wpAny_bind (wpAny_load hm ?_)
 refine KFB.if_so (show(Value.type "method-wrapper"==Value.type "method" || Value.type "method-wrapper"==Value.type "builtin_function_or_method" || Value.type "method-wrapper"==Value.type "method-wrapper")=true by decide) ?_
 refine KFB.if_so (show(Value.type "method-wrapper" != Value.type "method")=true by decide) ?_
 refine wpAny_bind (wpAny_of_eq (a:=()) (ua0 it) ?_)
 refine wpAny_bind (wpAny_pure (wpAny_pure ⟨qw9,codeAny_builtin entry_listiter_next ?_⟩))
 rw [Around.under_plainId slot_listiter_next.plain]
 exact h
theorem uf1 {P:Fin->Shared->Prop}{items:Array Value}{m:Nat}{x:Value}(hx:s.heap.get? it=some (jh5 l i))(hl:IsL s.heap l items m)(hi:items[i]?=some x)
  (h:∀h',Heap.SameBut it s.heap h'->h'.get? it=some (jh5 l (i+1))->P (.done (.ret x)) { s with heap:=h' }):wpAny (model prog w) A (Builtin.«list_iterator.__next__» ⟨[.ref it],[]⟩) P E s:=by
 show wpAny _ _ (field (.ref it) 0 >>= _) _ _ s
 refine wpAny_bind (wpAny_field hx rfl (x:=.ref l) rfl ?_)
 show wpAny _ _ (if (Value.ref l==Value.none)=true then _ else _) _ _ s
 rw [if_neg (show ¬((Value.ref l==Value.none)=true) from Bool.false_ne_true)]
 show wpAny _ _ (field (.ref it) 1 >>= _) _ _ s
 refine wpAny_bind (wpAny_field hx rfl (x:=.int i 0) rfl ?_)
 show wpAny _ _ (seqItems? (.ref l) >>= _) _ _ s
 refine wpAny_bind (wpAny_seqItems hl rfl ?_)
 simp only [Int.toNat_natCast,hi]
 refine wpAny_bind (wpAny_setField hx rfl (by simp) (wpAny_pure (h _ (Heap.SameBut.update ..) ?_)))
 rw [Heap.get?_update_self _ hx (Obj.isFreed_of_fields (Obj.data_mapFields rfl _))]
 simp [jh5,Obj.mapFields,rawInt]
structure NewExcAt (h h':Heap) (e:Addr) (X:String):Prop where
 new:h.get? e=none
 there:∃ob vs,h'.get? e=some ob/\ob.cls=.type X/\ob.data=.fields vs/\vs[1]?=some .none
theorem next_end {P:Fin->Shared->Prop}{items:Array Value}{m:Nat}(hh:A.handled=none)(hx:s.heap.get? it=some (jh5 l i))(hl:IsL s.heap l items m)(hi:items[i]?=none)
  (h:∀h' e,Heap.ExtBut it s.heap h'->(∃o,h'.get? it=some o)->NewExcAt s.heap h' e "StopIteration"->E (.ref e) { s with heap:=h' }):wpAny (model prog w) A (Builtin.«list_iterator.__next__» ⟨[.ref it],[]⟩) P E s:=by
 show wpAny _ _ (field (.ref it) 0 >>= _) _ _ s
 refine wpAny_bind (wpAny_field hx rfl (x:=.ref l) rfl ?_)
 show wpAny _ _ (if (Value.ref l==Value.none)=true then _ else _) _ _ s
 rw [if_neg (show ¬((Value.ref l==Value.none)=true) from Bool.false_ne_true)]
 show wpAny _ _ (field (.ref it) 1 >>= _) _ _ s
 refine wpAny_bind (wpAny_field hx rfl (x:=.int i 0) rfl ?_)
 show wpAny _ _ (seqItems? (.ref l) >>= _) _ _ s
 refine wpAny_bind (wpAny_seqItems hl rfl ?_)
 simp only [Int.toNat_natCast,hi]
 refine wpAny_bind (wpAny_rule (wpAny_bind (wpAny_setField hx rfl (by simp) ?_)))
 show wpAny _ _ (newExc (.type "StopIteration") [] >>= _) _ _ _
 refine wpAny_bind ?_
 simp only [newExc,newTuple]
 refine wpAny_bind (wpAny_newObj_type ?_ (by size_fits))
 refine wpAny_bind (m:=firstArgMember _ _) (wpAny_of_eq (a:=Value.none) (by first | rfl | (simp only [firstArgMember]; rfl)) ?_)
 refine wpAny_newObj_type ?_ (by size_fits)
 unfold raiseNew
 refine wpAny_bind (wpAny_handled ?_)
 rw [hh]
 refine wpAny_bind (wpAny_pure (wpAny_throw ?_))
 refine h _ _ (((Heap.SameBut.update ..).extBut.push _).push _) ?_ ⟨?_,_,_,Heap.get?_push_size _ rfl,rfl,rfl,rfl⟩
 ·exact⟨_,Heap.get?_push_of_some _ (Heap.get?_push_of_some _ (Heap.get?_update_self _ hx (Obj.isFreed_of_fields (Obj.data_mapFields rfl _))))⟩
 ·refine je5 (ja3 s) ?_
  show @LE.le Nat _ s.heap.objs.size _
  rw [Heap.size_push,Heap.size_after_update]
  exact Nat.le_succ _
end
end
theorem ui5 (f:Frm g A F h){fs:List Env}(hfs:A.frames=some fs){e:Addr}:h.FunFrames (hideAll h (e::fs.filterMap (·.frame))) fs:=by
 obtain⟨⟨fs',h1,h2⟩,_⟩:=f
 rw [hfs] at h1; cases h1
 have:∀(l:List Env),(∀x∈l,x∈fs)->h.FunFrames (hideAll h (e::fs.filterMap (·.frame))) l:=by
  intro l
  induction l with
  | nil=>intro _; trivial
  | cons x l ih =>
   intro hl
   obtain⟨k,L,o,e1,e2,e3,e4⟩:=h2 x (hl x (by simp))
   exact⟨k,⟨L,o,e1,hideAll_none _ (List.mem_cons_of_mem _ (List.mem_filterMap.mpr ⟨x,hl x (by simp),e1⟩)),e3,e4⟩,ih λy hy=>hl y (by simp [hy])⟩
 exact this fs λzw h=>h
theorem noted {outer:List Env}{L e:Addr}{ob:Obj}{vs:Array Value}{Q:Unit->Shared->Prop}(f:Frm g A F s.heap)(hfr:A.frames=some (env::outer))(hf:env.frame=some L)
  (he:s.heap.get? e=some ob) (hd:ob.data=.fields vs) (h1:vs[1]?=some .none)
  (q:∀s',Cx (λb=>b=e) F s s'->(∃T oe vs' oT ts,s'.heap.get? e=some oe/\oe.cls=ob.cls/\oe.data=.fields vs'/\vs'[1]?=some (.ref T)/\s.heap.get? T=none/\T≠e/\s'.heap.get? T=some oT/\oT.data=.fields ts/\ts[3]?=some .none)->Q () s') :
  wpAny g.M A (noteFrame (.ref e) env) (λzw s_2=>wpAny g.M A (setFlight (.ref e) none) Q E s_2) E s:=by
 have hl:=ui5 (e:=e) f hfr
 generalize hb:hideAll s.heap (e::(env::outer).filterMap (·.frame))=base at hl
 revert hl
 revert hb
 revert base
 refine id ?_
 intro base hb hl
 have stays:base.StaysIn s.heap:=λb o hbo=>by rw [<- hb] at hbo; exact of_hideAll _ hbo
 have hen:base.get? e=none:=by rw [<- hb]; exact hideAll_none _ (by simp)
 have inF:∀b,b∈(env::outer).filterMap (·.frame)->F b:=λb hbm=>by
  obtain⟨⟨fs,e1,e2⟩,_⟩:=f
  rw [hfr] at e1; cases e1
  obtain⟨x,hx,hxf⟩:=List.mem_filterMap.mp hbm
  obtain⟨_,L',o,e3,e4,_⟩:=e2 x hx
  rw [hxf] at e3; cases e3; exact e4
 unfold noteFrame
 simp only [hf]
 refine wpAny_bind (wpAny_field he hd h1 ?_)
 rw [if_neg (by decide)]
 refine wpAny_newEntry hfr hl hf he stays hen hd (Array.getElem?_eq_some_iff.mp h1).1 λh' ⟨k1,k2,k3,k4⟩=>?_
 obtain⟨oe,vs',T,oT,ts,t1,t2,t3,t4,t5,t6,t7,t8,t9⟩:=k3
 refine q _ ⟨⟨h',s.toks,rfl⟩,λb o hbe eb=>?_⟩ ⟨T,oe,vs',oT,ts,t1,t2,t3,t4,?_,t6,t7,t8,t9⟩
 ·by_cases hbf:b∈(env::outer).filterMap (·.frame)
  ·obtain⟨_,o',eo',hnf⟩:=hl.mem hbf
   rw [eb] at eo'; cases eo'
   exact⟨k4 b o eb hnf,λhF=>absurd (inF b hbf) hF⟩
  ·have:h'.get? b=some o:=k1 b o (by rw [<- hb]; exact hideAll_get _ eb (by simp only [List.mem_cons,not_or]; exact⟨hbe,hbf⟩))
   exact⟨⟨o.slots,this⟩,λzw=>this⟩
 ·cases eT:s.heap.get? T with
  | none=>rfl
  | some o =>
   exfalso
   by_cases hbf:T∈(env::outer).filterMap (·.frame)
   ·obtain⟨_,o',eo',hnf⟩:=k2.mem hbf
    rw [t7] at eo'; cases eo'
    exact hnf ts t8
   ·have:base.get? T=some o:=by rw [<- hb]; exact hideAll_get _ eT (by simp only [List.mem_cons,not_or]; exact⟨t6,hbf⟩)
    rw [t5] at this; cases this
theorem Run.caught {W:Avoid}{Q:Flow->Shared->Prop}{e:Addr}{ob:Obj}{vs:Array Value}{X T:String}{np hp:Pos}{b0:Stmt}{suite:List Stmt}{rest:List ExceptHandler}(r:Run c O M W ρ s)
  (hW:W e) (he:s.heap.get? e=some ob) (hc:ob.cls=.type X) (hd:ob.data=.fields vs) (h1:vs[1]?=some .none)
  (hs:ρ.sc.lookup x=some .globalImplicit) (hv:nsIn c.g.K mainGlobals x=some none) (hb:bootBuiltins x=some (.type T)) (hn:x≠"__name__") (hdb:(x==("__debug__":Str))=false)
  (hexc:isSubtype (.type T) (.type "BaseException")=pure true) (hnt:isSubtype (.type ((Manifest.find? T).elim "type" λy=>y.metatype)) (.type "tuple")=pure false) (hsub:isSubtype (.type X) (.type T)=pure true)
  (k:∀s_5 E',Cx (λb=>b=e) c.Fc s s_5->Run c O M W ρ s_5->wpAny c.g.M (c.Ar.mark (some (.ref e))) (execs (b0::suite) c.env) Q E' s_5) :
  wpAny c.g.M c.Ar (noteFrame (.ref e) c.env) (λzw s_2=>wpAny c.g.M c.Ar (setFlight (.ref e) none) (λzw s_3=>wpAny c.g.M c.Ar (handleBy (.ref e) c.env (.ExceptHandler (some (.Name x np)) none (b0::suite) hp::rest)) Q E s_3) E s_2) E s:=by
 have fi:=r.frmIn
 obtain⟨⟨fs,hfs,_⟩,_⟩:=r.frm
 have hfr:c.Ar.frames=some (c.env::fs):=by show c.A.frames.map _=_; rw [hfs]; rfl
 refine noted fi hfr r.fr he hd h1 λs_3 cx3 hnn=>?_
 obtain⟨T',oe,vs',oT,ts,t1,t2,t3,t4,t5,t6,t7,t8,t9⟩:=hnn
 have al:∀s',Cx (λb=>b=e) c.Fc s s'->(∃o,s'.heap.get? e=some o)->Alloc W s':=λs' cx h b hb=>by
  by_cases hbe:b=e
  ·rw [hbe]; exact h
  ·obtain⟨o,eo⟩:=r.act.aO b (r.wo b hb)
   obtain⟨⟨sl,e'⟩,_⟩:=cx.2 b o hbe eo
   exact⟨_,e'⟩
 have run:∀s',Cx (λb=>b=e) c.Fc s s'->(∃o,s'.heap.get? e=some o)->Run c O M W ρ s':=λs' cx h=>by
  have z:=r.eff (W':=W) (cx.mono (λb hb=>by rw [hb]; exact hW) λzw h=>h) (λzw h=>h) (λzw h=>.inl h) (al s' cx h)
  exact { z with act:=z.act.impO λb h=>.inl h,pl:=r.pl,oo:=r.oo,on:=r.on,lo:=r.lo,nf:=r.nf,wo:=r.wo,oz:=r.oz,ou:=r.ou }
 have r_3:=run s_3 cx3 ⟨_,t1⟩
 have eT:isSubtype (.type X) (.type T)=pure true:=hsub
 refine wpAny_handleBy_builtin (X:=X) (T:=T) (b:=true) hexc hnt hsub (jb7 r_3.act.up r_3.act.eo hs hv hb hn hdb ⟨rfl,⟨_,t1,t2.trans hc⟩,?_⟩)
 rw [if_pos rfl]
 have hsz:3 < ts.size:=(Array.getElem?_eq_some_iff.mp t9).1
 refine wpAny_setFlight_none t1 t3 t4 t7 t8 hsz ?_
 have cx4:Cx (λb=>b=e) c.Fc s { s_3 with heap:=s_3.heap.update T' (Obj.mapFields (·.setIfInBounds 3 .none)) }:=cx3.step (W:=λb=>b=T') (F:=No) (.of_chg ⟨⟨_,s_3.toks,rfl⟩,λb o hb eb=>(Heap.get?_update_ne _ _ _ _ hb).trans eb⟩) (λb hb=>.inr (by rw [hb]; exact t5)) λzw h=>h.elim
 exact k _ _ cx4 (run _ cx4 ⟨_,(Heap.get?_update_ne _ _ _ _ t6.symm).trans t1⟩)
noncomputable def jp0:List (Int×List Int)->Option (Int×List (Int×List Int))
 | []=>none
 | (k,c::cs)::r=>some (c,(k,cs)::r)
 | (_,[])::r=>jp0 r
noncomputable def jl5 (go:List (Int×List Int)->List Int->Int->Option (List Int ⊕ List Int)) (stk:List (Int×List Int)) (seen:List Int):Option (List Int ⊕ List Int):=match jp0 stk with
 | none=>some (.inr seen)
 | some (c,stk')=>go stk' seen c
noncomputable def jm1 (succ:Int->List Int):Nat->List (Int×List Int)->List Int->Int->Option (List Int ⊕ List Int)
 | 0,_,_,_=>none
 | f+1,stk,seen,node =>
  if seen.contains node then
   if stk.any (λp=>p.1==node) then some (.inl ((stk.map (·.1)).reverse.dropWhile (λx=>x != node)++[node]))
   else jl5 (jm1 succ f) stk seen
  else jl5 (jm1 succ f) ((node,succ node)::stk) (node::seen)
noncomputable def jm7 (succ:Int->List Int) (f:Nat):List Int->List Int->Option (Option (List Int))
 | [],_=>some none
 | k::ks,seen=>if seen.contains k then jm7 succ f ks seen else match jm1 succ f [] seen k with
  | none=>none
  | some (.inl r)=>some (some r)
  | some (.inr seen')=>jm7 succ f ks seen'
noncomputable def SS.cyc (σ:SS):Option (Option (List Int)):=jm7 σ.succOf 200 (σ.nodes.map (·.id)) []
set_option backward.match.sparseCases false
section
structure Lv where
 k:Int
 mw:Addr
 it:Addr
 suc:Addr
 i:Nat
 xs:List Int
noncomputable def Lv.all (v:Lv):List Addr:=[v.mw,v.it]
noncomputable def Lv.pl (v:Lv):Int×List Int:=(v.k,v.xs.drop v.i)
structure Four where
 a1:Addr
 a2:Addr
 a3:Addr
 a4:Addr
noncomputable def Four.all (f:Four) (st:List Lv):List Addr:=f.a1::f.a2::f.a3::f.a4::st.flatMap Lv.all
theorem fm1 {f:Four}{st:List Lv}:f.a1∈f.all st:=List.Mem.head _
theorem fm2 {f:Four}{st:List Lv}:f.a2∈f.all st:=List.Mem.tail _ (List.Mem.head _)
theorem fm3 {f:Four}{st:List Lv}:f.a3∈f.all st:=List.Mem.tail _ (List.Mem.tail _ (List.Mem.head _))
theorem fm4 {f:Four}{st:List Lv}:f.a4∈f.all st:=List.Mem.tail _ (List.Mem.tail _ (List.Mem.tail _ (List.Mem.head _)))
theorem lm1 {v:Lv}:v.mw∈v.all:=List.Mem.head _
theorem lm2 {v:Lv}:v.it∈v.all:=List.Mem.tail _ (List.Mem.head _)
theorem fmL {f:Four}{st:List Lv}{b:Addr}(h:b∈st.flatMap Lv.all):b∈f.all st:=List.Mem.tail _ (List.Mem.tail _ (List.Mem.tail _ (List.Mem.tail _ h)))
noncomputable def kvL:List Lv->List Tok->List (Int×Value)
 | v::st,t::ts=>kvL st ts++[(v.k,.int st.length t)]
 | _,_=>[]
structure Sch (g:Glob) (h:Heap) (f:Four) (st:List Lv) (seen:List Int):Prop where
 stack:Ints h f.a1 (st.map (·.k)).reverse
 its:∃m,IsL h f.a2 ((st.map λv=>Value.ref v.mw).reverse.toArray) m
 set:∃S n,h.SetOf (intKind g.prog g.w) f.a3 S n/\(∀k,S k=seen.contains k)/\n<=seen.length
 dict:∃ts,ts.length=st.length/\h.DictOf (intKind g.prog g.w) f.a4 (kvL st ts)
 sub:∀v∈st,seen.contains v.k=true
 sys:(f.a4==sysModules)=false
 lv:∀v∈st,h.get? v.mw=some (jj1 v.it)/\h.get? v.it=some (jh5 v.suc v.i)
 nd:(f.all st).Nodup
 small:st.length<=1000
section
variable {g:Glob} {h h':Heap} {f:Four} {st:List Lv} {seen:List Int}
theorem Sch.keeps (x:Sch g h f st seen)(k:∀b o,b∈f.all st->h.get? b=some o->h'.get? b=some o):Sch g h' f st seen:=by
 obtain⟨m,hm⟩:=x.its
 obtain⟨S,n,hS,h1,h2⟩:=x.set
 obtain⟨ts,h3,hd⟩:=x.dict
 refine { x with stack:=x.stack.keeps λo=>k _ o (by first | exact fm1 | exact fm2 | exact fm3 | exact fm4),its:=⟨m,k _ _ (by first | exact fm1 | exact fm2 | exact fm3 | exact fm4) hm⟩,set:=⟨S,n,?_,h1,h2⟩,dict:=⟨ts,h3,?_⟩,lv:=λv hv=>?_ }
 ·obtain⟨o,es,ep,t,e,r⟩:=hS
  exact⟨o,es,ep,t,k _ _ (by first | exact fm1 | exact fm2 | exact fm3 | exact fm4) e,r⟩
 ·obtain⟨o,es,ep,e,r⟩:=hd
  exact⟨o,es,ep,k _ _ (by first | exact fm1 | exact fm2 | exact fm3 | exact fm4) e,r⟩
 ·have hm:∀b∈v.all,b∈f.all st:=λb hb=>by
   have:b∈st.flatMap Lv.all:=List.mem_flatMap.mpr ⟨v,hv,hb⟩
   simp [Four.all,this]
  exact⟨k _ _ (hm _ (by first | exact lm1 | exact lm2)) (x.lv v hv).1,k _ _ (hm _ (by first | exact lm1 | exact lm2)) (x.lv v hv).2⟩
theorem Sch.alloc (x:Sch g h f st seen):∀b∈f.all st,∃o,h.get? b=some o:=by
 intro b hb
 simp only [Four.all,List.mem_cons] at hb
 rcases hb with rfl | rfl | rfl | rfl | hb
 ·obtain⟨vs,n,e,_⟩:=x.stack; exact⟨_,e⟩
 ·obtain⟨m,e⟩:=x.its; exact⟨_,e⟩
 ·obtain⟨S,n,⟨o,es,ep,t,e,_⟩,_⟩:=x.set; exact⟨o,e⟩
 ·obtain⟨ts,_,o,es,ep,e,_⟩:=x.dict; exact⟨o,e⟩
 ·obtain⟨v,hv,hb⟩:=List.mem_flatMap.mp hb
  simp only [Lv.all,List.mem_cons,List.not_mem_nil,or_false] at hb
  rcases hb with rfl | rfl
  ·exact⟨_,(x.lv v hv).1⟩
  ·exact⟨_,(x.lv v hv).2⟩
end
theorem jw5:∀(st:List Lv) (ts:List Tok),ts.length=st.length->(kvL st ts).map (·.1)=(st.map (·.k)).reverse
 | [],[],_=>rfl
 | [],_::_,h=>by simp at h
 | _::_,[],h=>by simp at h
 | v::st,t::ts,h=>by
  simp only [kvL,List.map_append,List.map_cons,List.map_nil,List.reverse_cons]
  rw [jw5 st ts (by simpa using h)]
theorem ug7 (st:List Lv)(ts:List Tok)(h:ts.length=st.length):(kvL st ts).length=st.length:=by
 have:=congrArg List.length (jw5 st ts h)
 simpa using this
theorem qa7 (a b:List (Int×Value))(k:Int):valueAt (a++b) k=(valueAt a k).or (valueAt b k):=by
 unfold valueAt
 rw [List.find?_append]
 cases List.find? (λkv=>decide (kv.1=k)) a <;> simp
theorem qo3:∀(st:List Lv) (ts:List Tok),ts.length=st.length->∀k,(valueAt (kvL st ts) k).isSome=st.any (λv=>v.k==k)
 | [],ts,h,k=>by simp [kvL,valueAt]
 | _::_,[],h,_=>by simp at h
 | v::st,t::ts,h,k=>by
  simp only [kvL,List.any_cons]
  rw [qa7,Option.isSome_or,qo3 st ts (by simpa using h) k,Bool.or_comm]
  congr 1
  unfold valueAt
  by_cases e:v.k=k
  ·simp [e]
  ·simp [e]
theorem kvL_pop {v:Lv}{st:List Lv}{t:Tok}{ts:List Tok}(h:ts.length=st.length)(hnd:((v::st).map (·.k)).Nodup):without (kvL (v::st) (t::ts)) v.k=kvL st ts:=by
 simp only [List.map_cons,List.nodup_cons] at hnd
 unfold without
 simp only [kvL,List.filter_append]
 have e1:(kvL st ts).filter (λkv=>decide (kv.1≠v.k))=kvL st ts:=List.filter_eq_self.mpr λp hp=>by
  have:p.1∈(kvL st ts).map (·.1):=List.mem_map.mpr ⟨p,hp,rfl⟩
  rw [jw5 st ts h,List.mem_reverse] at this
  exact decide_eq_true λz=>hnd.1 (z ▸ this)
 rw [e1]
 simp
theorem kvL_push {st:List Lv}{ts:List Tok}{k:Int}{x:Value}(h:ts.length=st.length)(hk:k∉st.map (·.k)):stored (kvL st ts) k x=kvL st ts++[(k,x)]:=by
 unfold stored
 have:((kvL st ts).any λkv=>decide (kv.1=k))=false:=by
  rw [List.any_eq_false]
  intro p hp
  have:p.1∈(kvL st ts).map (·.1):=List.mem_map.mpr ⟨p,hp,rfl⟩
  rw [jw5 st ts h,List.mem_reverse] at this
  intro z
  exact hk ((of_decide_eq_true z) ▸ this)
 rw [this,if_neg (by decide)]
section
variable {g:Glob} {A:Around} {E:Value->Shared->Prop} {s:Shared}
theorem qj2 {l:List Value}{y:Value}(h1:IsL s.heap a (l++[y]).toArray n)(hz:(l++[y]).length<=cap)(q:∀h' n',Heap.SameBut a s.heap h'->IsL h' a l.toArray n'->Q y { s with heap:=h' }):wpAny g.M A (call (.builtin "list.pop") [.ref a]) Q E s:=by
 have hs:(l++[y]).toArray.size - 1=l.length:=by simp
 have up:=IsL.update h1 (λxs=>xs.eraseIdxIfInBounds ((l++[y]).toArray.size - 1))
 have e:(l++[y]).toArray.eraseIdxIfInBounds ((l++[y]).toArray.size - 1)=l.toArray:=by
  rw [hs]
  apply Array.toList_inj.mp
  rw [Array.toList_eraseIdxIfInBounds]
  show(l++[y]).eraseIdx l.length=l
  rw [List.eraseIdx_append_of_length_le (Nat.le_refl _)]
  simp
 rw [e] at up
 exact call_meets PySem.F.slot_list_pop ⟨_,h1,rfl⟩ PySem.F.entry_list_pop (PySem.F.args_list_pop_1 _) (MeetsSeq.list_pop_last a _ n y (by rw [hs]; simp) (by rw [List.size_toArray]; exact Nat.le_trans hz jc3)) ⟨h1,q _ _ (Heap.SameBut.update ..) up⟩
theorem ints_pop {xs:List Int}{x:Int}(I:Ints s.heap a (xs++[x]))(q:∀t h',Heap.SameBut a s.heap h'->Ints h' a xs->Q (.int x t) { s with heap:=h' }):wpAny g.M A (call (.builtin "list.pop") [.ref a]) Q E s:=by
 obtain⟨vs,n,h1,h2,h3⟩:=I
 obtain⟨ys,e1,e2⟩:=jf5 h3
 obtain⟨ys',p,rfl,e3,e4⟩:∃ys' p,ys=ys'++[p]/\ys'.map (·.1)=xs/\p.1=x:=by
  have:=List.map_eq_append_iff.mp e2
  obtain⟨l1,l2,rfl,h1,h2⟩:=this
  obtain⟨p,hp,rfl⟩:∃p,p.1=x/\l2=[p]:=by
   cases l2 with
   | nil=>simp at h2
   | cons p r=>cases r with
    | nil=>simp at h2; exact⟨p,h2,rfl⟩
    | cons _ _=>simp at h2
  exact⟨l1,p,rfl,h1,hp⟩
 subst e3; subst e4
 have hv:vs=(List.map (λ(p:Int×Tok)=>Value.int p.1 p.2) ys'++[Value.int p.1 p.2]).toArray:=by
  apply Array.toList_inj.mp
  rw [e1]; simp
 subst hv
 refine qj2 (g:=g) h1 (by rw [List.size_toArray] at h2; exact h2) λh' n' hs hI=>q _ h' hs ⟨_,_,hI,?_,?_⟩
 ·rw [List.size_toArray] at h2 ⊢
  simp at h2 ⊢; (exact Nat.le_of_lt (by assumption))
 ·exact jd2 ys'
theorem jy9 {vs:Array Value}{name:Str}{id:String}{pl:Sem Bool}{Q:Value×List Value->Shared->Prop}(h1:IsL s.heap a vs n)(sl:Slot "list" name id)(ty:typeOf (.builtin id)=pure (.type "method_descriptor"))(q:Q (.builtin id,[.ref a]) s) :
  wpAny g.M A (getMethod (.ref a) name pl) Q E s :=
 getMethod_builtin (T:="list") ⟨_,h1,rfl⟩ PySem.F.plainAttrs_list sl ty (λb hb=>⟨_,by cases hb; exact h1,rfl⟩) q
theorem uj9 {d:Addr}{kvs:List (Int×Value)}{k:Int}{t:Tok}{Q:Unit->Shared->Prop}(hD:s.heap.DictOf (intKind g.prog g.w) d kvs)(hl:(valueAt kvs k).isSome=true)(hz:kvs.length<=sizeLine)(q:∀h',Heap.SameBut d s.heap h'->h'.DictOf (intKind g.prog g.w) d (without kvs k)->Q () { s with heap:=h',toks:=s.toks+1 }) :
  wpAny g.M A (delItem (.ref d) (.int k t)) Q E s:=by
 unfold delItem
 try with_reducible refine wpAny_holding ?_
 refine wpAny_bind (wpAny_sequenceKey hD.typeIs (by decide) ?_)
 exact wpAny_bind (wpAny_callSpecial?_slot (name:=Str.ofString "__delitem__") hD.typeIs PySem.F.slot_dict_delitem
  (call_meetsIn PySem.F.slot_dict_delitem hD.typeIs PySem.F.entry_dict_delitem (PySem.F.args_dict_delitem_2 _ _) (meets_dict_delitem_pairs (intKind g.prog g.w) d (intKind_is g.prog g.w k t)) ⟨kvs,hD,hz,hl,λh' hmm hs=>wpAny_pure (q h' hs hmm)⟩))
theorem ql5 {vs:Array Value}(h1:IsL s.heap a vs n)(q:Q (.ref s.heap.objs.size) { s with heap:=s.heap.push (jh5 a 0) }):wpAny g.M A (call (.builtin "iter") [.ref a]) Q E s:=by
 refine call_function_entry (prog:=g.prog) (w:=g.w) (by decide +kernel) (by decide +kernel) kdk_entry_iter (kdk_args_iter _) ?_
 unfold Builtin.«iter»
 refine wpAny_bind (m:=someArgs "iter" 1 2 _) (wpAny_of_eq (a:=[Value.ref a]) (by first | rfl | kernel_rfl!) ?_)
 show wpAny _ _ (pyIter (.ref a) >>= _) _ _ _
 exact wpAny_bind (wpAny_pyIter_list (IsL.isList h1) (wpAny_pure ⟨_,rfl,q⟩))
end
end
noncomputable def qb6 (s:Stmt):List Stmt :=
 if h:s.ctorIdx=9 then Stmt.For.elim (motive_2:=λzw=>List Stmt) s h λzw zw b zw zw=>b
 else if h:s.ctorIdx=11 then Stmt.While.elim (motive_2:=λzw=>List Stmt) s h λzw b zw zw=>b
 else if h:s.ctorIdx=12 then Stmt.If.elim (motive_2:=λzw=>List Stmt) s h λzw b zw zw=>b
 else if h:s.ctorIdx=17 then Stmt.Try.elim (motive_2:=λzw=>List Stmt) s h λb zw zw zw zw=>b else []
noncomputable def stElse (s:Stmt):List Stmt:=if h:s.ctorIdx=12 then Stmt.If.elim (motive_2:=λzw=>List Stmt) s h λzw zw o zw=>o else []
noncomputable def cycB:List Stmt:=(mOf "TopologicalSorter" "_find_cycle").1
noncomputable def cycN:List (Str×NameKind):=(mOf "TopologicalSorter" "_find_cycle").2.1
noncomputable def noSt:Stmt:=.Pass default
noncomputable def qs1:Stmt:=(qb6 (cycB.getD 5 noSt)).getD 1 noSt
noncomputable def uh2:Stmt:=(qb6 qs1).getD 1 noSt
structure CycX (c:Fx) (T:Topo) (l:LayS) (σ:SS):Prop where
 S:Srt c.g T c.s.heap l σ
 w0:∀b,¬c.W b
 off:∀b,l.W b->¬c.F b
 suc:∀nd∈σ.nodes,∀x∈nd.succ,σ.has x=true
 stop:nsIn c.g.K mainGlobals "StopIteration"=some none
theorem CycX.now (x:CycX c T l σ){W:Avoid}(r:Run c O M W ρ s):Srt c.g T s.heap l σ:=x.S.keeps λb o hb e=>(r.cx.2 b o (x.w0 b) e).2 (x.off b hb)
structure CycN (f:Four) (l:LayS) (ρ:Rho):Prop where
 sc:∀x,ρ.sc.lookup x=cycN.lookup x
 n2i:ρ.is "n2i" (objD l.m)
 stack:ρ.is "stack" (objD f.a1)
 its:ρ.is "itstack" (objD f.a2)
 seen:ρ.is "seen" (objD f.a3)
 n2s:ρ.is "node2stacki" (objD f.a4)
theorem CycN.node {f:Four}(n:CycN f l ρ)(d:D):CycN f l (ρ.put "node" d 0):=⟨n.sc,Rho.is_ne n.n2i rfl,Rho.is_ne n.stack rfl,Rho.is_ne n.its rfl,Rho.is_ne n.seen rfl,Rho.is_ne n.n2s rfl⟩
theorem CycN.st {f:Four}(n:CycN f l ρ)(h:stOk ⟨cycN,[]⟩ x=true):stOk ρ x=true:=by
 unfold stOk at h ⊢
 rw [n.sc]; exact h
structure CycW (g:Glob) (l:LayS) (σ:SS) (f:Four) (st:List Lv) (seen:List Int) (W:Avoid) (h:Heap):Prop where
 sch:Sch g h f st seen
 sub:∀b∈f.all st,W b
 lean:∀v∈st,∃(j:Nat) (a:NdA) (nd:Nd),l.ns[j]?=some a/\σ.nodes[j]?=some nd/\v.suc=a.suc/\v.xs=nd.succ/\v.k=nd.id
 ks:(st.map (·.k)).Nodup
theorem Run.nameA {W:Avoid}{p:Pos}(r:Run c O M W ρ s)(h:ρ.is x (objD a))(hd:(x==("__debug__":Str))=false)(q:Q (.ref a) s):wpAny c.g.M A (eval (.Name x p) c.env) Q E s:=by
 obtain⟨v,hv,hr,_⟩:=r.act.eo.vars x _ 0 h
 have:=jb0 hr; subst this
 exact wpAny_Name (jw8 r.act.eo.kind hv q) hd
theorem Run.back {W:Avoid}(w:∀b,W b->O b)(r:Run c (λb=>O b\/W b) M W ρ s):Run c O M W ρ s:=(show(λb=>O b\/W b)=O from funext λb=>propext ⟨λh=>h.elim id (w b),.inl⟩) ▸ r
theorem jk1 {W:Avoid}(r:Run c O M W ρ s){tk:Nat}{x:Addr}(hs:Heap.SameBut x s.heap h')(hx:W x)(ho:∃o,h'.get? x=some o):Run c O M W ρ { s with heap:=h',toks:=tk }:=by
 refine Run.back r.wo (r.eff (W':=W) (s':={ s with heap:=h',toks:=tk }) ((jb5 (W:=W) hs hx rfl).mono (λzw h=>h) No.le) (λzw h=>h) (λzw h=>.inl h) λb hb=>?_)
 by_cases e:b=x
 ·rw [e]; exact ho
 ·obtain⟨o,eo⟩:=r.act.aO b (r.wo b hb)
  exact⟨o,(hs.2 b e).trans eo⟩
theorem all_cons {f:Four}{v:Lv}{st:List Lv}:∀b,b∈f.all (v::st)↔(b∈f.all st\/b∈v.all):=λb=>by
 simp only [Four.all,List.flatMap_cons,List.mem_cons,List.mem_append]
 constructor
 ·rintro(h | h | h | h | h | h)
  ·exact .inl (.inl h)
  ·exact .inl (.inr (.inl h))
  ·exact .inl (.inr (.inr (.inl h)))
  ·exact .inl (.inr (.inr (.inr (.inl h))))
  ·exact .inr h
  ·exact .inl (.inr (.inr (.inr (.inr h))))
 ·rintro((h | h | h | h | h) | h)
  ·exact .inl h
  ·exact .inr (.inl h)
  ·exact .inr (.inr (.inl h))
  ·exact .inr (.inr (.inr (.inl h)))
  ·exact .inr (.inr (.inr (.inr (.inr h))))
  ·exact .inr (.inr (.inr (.inr (.inl h))))
theorem nd_tail {f:Four}{v:Lv}{st:List Lv}(h:(f.all (v::st)).Nodup):(f.all st).Nodup/\(∀b∈v.all,b∉f.all st)/\v.mw≠v.it:=by
 simp only [Four.all,List.flatMap_cons,List.nodup_cons,List.mem_cons,List.mem_append,not_or,List.nodup_append,Lv.all,List.not_mem_nil,or_false] at h ⊢
 obtain⟨⟨h1,h2,h3,h4,h5⟩,⟨h6,h7,h8,h9⟩,⟨h10,h11,h12⟩,⟨h13,h14⟩,⟨h15,_⟩,h16,h17⟩:=h
 refine⟨⟨⟨h1,h2,h3,h5⟩,⟨h6,h7,h9⟩,⟨h10,h12⟩,h14,h16⟩,λb hb=>?_,h15⟩
 rcases hb with rfl | rfl
 ·exact⟨λz=>h4.1 z.symm,λz=>h8.1 z.symm,λz=>h11.1 z.symm,λz=>h13.1 z.symm,λz=>h17 _ (.inl rfl) _ z rfl⟩
 ·exact⟨λz=>h4.2 z.symm,λz=>h8.2 z.symm,λz=>h11.2 z.symm,λz=>h13.2 z.symm,λz=>h17 _ (.inr rfl) _ z rfl⟩
set_option backward.match.sparseCases true
theorem CycW.keeps {f:Four}{st:List Lv}{seen:List Int}{W:Avoid}(x:CycW g l σ f st seen W h)(k:∀b o,W b->h.get? b=some o->h'.get? b=some o):CycW g l σ f st seen W h' :=
 { x with sch:=x.sch.keeps λb o hb=>k b o (x.sub b hb) }
theorem sucs_of {W W':Avoid}{f:Four}{st:List Lv}{seen:List Int}(X:CycX c T l σ)(r:Run c O M W ρ s)(w:CycW c.g l σ f st seen W' s.heap){v:Lv}(hv:v∈st):Ints s.heap v.suc v.xs/\(∀x∈v.xs,σ.has x=true):=by
 obtain⟨j,a,nd,h1,h2,e1,e2,_⟩:=w.lean v hv
 rw [e1,e2]
 exact⟨((X.now r).nds j a nd h1 h2).2.2,X.suc nd (List.mem_of_getElem? h2)⟩
theorem qy5 {W:Avoid}{f:Four}{st:List Lv}{seen:List Int}{Q:Flow->Shared->Prop}(r:Run c O No W ρ s)(X:CycX c T l σ)(nm:CycN f l ρ)(w:CycW c.g l σ f st seen W s.heap)
  (q1:∀(x:Int) (st':List Lv) O' W' ρ' s',jp0 (st.map Lv.pl)=some (x,st'.map Lv.pl)->σ.has x=true->Run c O' No W' ρ' s'->CycN f l ρ'->ρ'.is "node" (.int x)->CycW c.g l σ f st' seen W' s'.heap->Q .next s')
  (q2:∀O' W' ρ' s',jp0 (st.map Lv.pl)=none->Run c O' No W' ρ' s'->CycN f l ρ'->CycW c.g l σ f [] seen W' s'.heap->Q .brk s') :
  wpAny c.g.M c.Ar (exec uh2 c.env) Q E s:=by
 conv in uh2=>whnf
 refine r.whileL (λn W ρ s=>∃st',n=st'.length/\jp0 (st'.map Lv.pl)=jp0 (st.map Lv.pl)/\CycN f l ρ/\CycW c.g l σ f st' seen W s.heap) st.length ⟨st,rfl,rfl,nm,w⟩ ?_
 intro i O' W' ρ' s' E' hJ r
 obtain⟨st',rfl,hu,nm,w⟩:=hJ
 obtain⟨vs,m,h1,h2,h3⟩:=w.sch.stack
 have hc:cap=100000:=rfl
 have hl:=h3.length
 rw [Array.length_toList,List.length_map,List.length_reverse,List.length_map] at hl
 refine wpAny_isTrue_value (r.nameA nm.stack (by decide) (wpAny_truthy_list (IsL.isList h1) (by grind) ?_)) rfl
 cases st' with
 | nil =>
  have e:vs.isEmpty=true:=by unfold Array.isEmpty; rw [hl]; rfl
  rw [e]
  exact wpAny_execs_cons (wpAny_Break (q2 _ _ _ _ hu.symm (r.toks _) nm w))
 | cons v st' =>
  have e:vs.isEmpty=false:=by unfold Array.isEmpty; rw [hl]; rfl
  rw [e,if_pos (by decide)]
  refine wp_q λQ' hQ=>?_
  (show let Q0:=_; let s_0:Shared:=_; wpAny _ _ _ Q0 _ s_0); intro Q0 s_0
  have r:Run _ _ _ _ _ s_0:=r.toks (s'.toks+1+1)
  obtain⟨hmw,hit⟩:=w.sch.lv v (by simp)
  obtain⟨hint,hhas⟩:=sucs_of X r w (v:=v) (by simp)
  obtain⟨us,m',g1,g2,g3⟩:=hint
  obtain⟨mi,hits⟩:=w.sch.its
  have hsm:=w.sch.small
  have hitW:W' v.it:=w.sub _ ((all_cons _).mpr (.inr (by first | exact lm1 | exact lm2)))
  obtain⟨nd1,nd2,nd3⟩:=nd_tail w.sch.nd
  refine wpAny_execs_cons (wpAny_Try_except ?_)
  ((show let Q0:=_; let E0:=_; wpAny _ _ _ Q0 E0 _); intro Q0 E0)
  refine wp_qe λQ2 E2 hQ2 hE2=>?_
  refine wpAny_execs_cons (r.assignS rfl (Call_ (Subscript_ (r.nameA nm.its (by decide) (r.e0 (ev_neg (ka:=0) jn6) λvi s_1 k_1 rvi r_1=>?_)))))
  ((show let Q0:=_; wpAny _ _ _ Q0 _ _); intro Q0)
  obtain⟨ti,rfl⟩:=ja4 rvi
  have hits1:=ja0 k_1 _ _ hits
  have hlast:((((v::st').map λv=>Value.ref v.mw).reverse.toArray)[(-1+((((v::st').map λv=>Value.ref v.mw).reverse.toArray).size:Int)).toNat]?:Option Value)=some (.ref v.mw):=by
   have:(-1+((((v::st').map λv=>Value.ref v.mw).reverse.toArray).size:Int)).toNat=st'.length:=by simp; (simp +arith)
   rw [this]
   simp
  refine tail_any (T:="list") ⟨_,hits1,rfl⟩ slot_list_getitem.lookup (wpAny_getItem_list_neg (IsL.isList hits1) (by decide) (by simp; (simp +arith)) (by simp) hlast ?_) (jc4 rfl _ _)
  refine callWith_of (P:=λh=>h.get? v.mw=some (jj1 v.it)) rfl (λh hP=>⟨.machine,.inr (.inl rfl),(Looks.ld (part:=none) hP).andThen .now⟩) (evalArgs_nil3 ⟨ja0 k_1 _ _ hmw,wpAny_call (uk6 (ja0 k_1 _ _ hmw) ?_)⟩)
  ((show let Q0:=_; let E0:=_; wpAny _ _ _ Q0 E0 _); intro Q0 E0)
  have hit1:=ja0 k_1 _ _ hit
  have g1_1:=ja0 k_1 _ _ g1
  have w_1:CycW c.g l σ f (v::st') seen W' s_1.heap:=w.keeps λb o zw=>ja0 k_1 b o
  have glen:=g3.length
  rw [Array.length_toList,List.length_map] at glen
  by_cases hi:v.i < v.xs.length
  ·
   obtain⟨x,hx⟩:∃x,v.xs[v.i]?=some x:=⟨_,List.getElem?_eq_getElem hi⟩
   obtain⟨vx,hvx,hrx⟩:=g3.get (i:=v.i) (d:=.int x) (by simp [hx])
   obtain⟨tx,rfl⟩:=ja4 hrx
   refine uf1 hit1 g1_1 (by rw [<- Array.getElem?_toList]; exact hvx) λh_2 hs2 hit2=>?_
   (show let Q0:=_; let s_2:Shared:=_; wpAny _ _ _ Q0 _ s_2); intro Q0 s_2
   have r_2:Run _ _ _ _ _ s_2:=jk1 (tk:=s_1.toks) r_1 hs2 hitW ⟨_,hit2⟩
   refine r_2.store (d:=.int x) (nm.st rfl) .int λs_3 c_3 r_3=>?_
   refine wpAny_execs_cons (wpAny_Break ?_)
   refine hQ2 _ _ ?_
   let v':Lv:={ v with i:=v.i+1 }
   have eall:∀b,b∈f.all (v'::st')↔b∈f.all (v::st'):=λb=>by rw [all_cons,all_cons]; rfl
   have sch2:Sch c.g h_2 f (v'::st') seen:=by
    have off:∀b,b∈f.all st'->b≠v.it:=λb hb z=>nd2 v.it (by first | exact lm1 | exact lm2) (z ▸ hb)
    have o1:f.a1≠v.it:=off _ (by first | exact fm1 | exact fm2 | exact fm3 | exact fm4)
    have o2:f.a2≠v.it:=off _ (by first | exact fm1 | exact fm2 | exact fm3 | exact fm4)
    have o3:f.a3≠v.it:=off _ (by first | exact fm1 | exact fm2 | exact fm3 | exact fm4)
    have o4:f.a4≠v.it:=off _ (by first | exact fm1 | exact fm2 | exact fm3 | exact fm4)
    obtain⟨S,n,hS,q1',q2'⟩:=w_1.sch.set
    obtain⟨ts,q3,hd⟩:=w_1.sch.dict
    refine⟨w_1.sch.stack.keeps λo e=>(hs2.2 _ o1).trans e,⟨mi,(hs2.2 _ o2).trans hits1⟩,⟨S,n,?_,q1',q2'⟩,⟨ts,q3,?_⟩,λu hu=>?_,w.sch.sys,λu hu=>?_,?_,hsm⟩
    ·obtain⟨o,es,ep,t,e,rr⟩:=hS
     exact⟨o,es,ep,t,(hs2.2 _ o3).trans e,rr⟩
    ·have ek:kvL (v'::st') ts=kvL (v::st') ts:=by cases ts <;> rfl
     rw [ek]; exact hd.sameBut hs2 o4
    ·rcases List.mem_cons.mp hu with rfl | hu
     ·exact w.sch.sub v (by simp)
     ·exact w.sch.sub u (by simp [hu])
    ·rcases List.mem_cons.mp hu with rfl | hu
     ·exact⟨(hs2.2 _ nd3).trans (ja0 k_1 _ _ hmw),hit2⟩
     ·have hm:∀b∈u.all,b∈f.all st':=λb hb=>by
       have:b∈st'.flatMap Lv.all:=List.mem_flatMap.mpr ⟨u,hu,hb⟩
       exact fmL this
      have:=w_1.sch.lv u (by simp [hu])
      exact⟨(hs2.2 _ (off _ (hm _ (by first | exact lm1 | exact lm2)))).trans this.1,(hs2.2 _ (off _ (hm _ (by first | exact lm1 | exact lm2)))).trans this.2⟩
    ·exact w.sch.nd
   have sch3:Sch c.g s_3.heap f (v'::st') seen:=sch2.keeps λb o hb e=>r_2.same c_3 b o (w.sub b ((eall b).mp hb)) e
   have hdrop:v.xs.drop v.i=x::v.xs.drop (v.i+1):=by
    rw [List.drop_eq_getElem_cons hi]
    have:=(List.getElem?_eq_some_iff.mp hx).2
    rw [this]
   refine hQ _ _ ?_
   refine q1 x (v'::st') _ _ _ s_3 ?_ (hhas x (List.mem_of_getElem? hx)) r_3 (nm.node _) Rho.is_put ⟨sch3,λb hb=>w.sub b ((eall b).mp hb),λu hu=>?_,w.ks⟩
   ·rw [<- hu]
    show jp0 ((v.k,v.xs.drop v.i)::st'.map Lv.pl)=_
    rw [hdrop]; rfl
   ·rcases List.mem_cons.mp hu with rfl | hu
    ·exact w.lean v (by simp)
    ·exact w.lean u (by simp [hu])
  ·
   have hnone:us[v.i]?=none:=Array.getElem?_eq_none (by grind)
   refine next_end (by rw [show(c.Ar.in1).handled=c.Ar.handled from rfl]; exact r.rm.handled) hit1 g1_1 hnone λh_2 e hx2 hito hne=>?_
   let s_2:Shared:={ s_1 with heap:=h_2 }
   obtain⟨en,ob,evs,e1,e2,e3,e4⟩:=hne
   let W_2:Avoid:=λb=>W' b\/b=e
   have cx2:Cx W' c.Fc s_1 s_2:=(Cx.of_chg ⟨⟨h_2,s_1.toks,rfl⟩,λb o hb eb=>hx2 b o (λz=>hb (z ▸ hitW)) eb⟩)
   have off2:∀b o,b≠v.it->s_1.heap.get? b=some o->h_2.get? b=some o:=λb o hb eb=>hx2 b o hb eb
   have r_2:Run c _ No W_2 ρ' s_2:=r_1.eff (W':=W_2) cx2 (λzw h=>.inl h) (λb hb=>by
    rcases hb with hb | hb
    ·exact .inl hb
    ·exact .inr (by rw [hb]; exact en)) λb hb=>by
     rcases hb with hb | hb
     ·by_cases ebi:b=v.it
      ·rw [ebi]; exact hito
      ·obtain⟨o,eo⟩:=r_1.act.aO b (r_1.wo b hb)
       exact⟨o,off2 b o ebi eo⟩
     ·rw [hb]; exact⟨_,e1⟩
   refine hE2 _ _ ?_
   refine r_2.caught (X:="StopIteration") (T:="StopIteration") (.inr rfl) e1 e2 e3 e4 (by rw [nm.sc]; rfl) X.stop (by decide +kernel) (by decide) (by decide) (isSubtype_of_subB (by decide +kernel)) (isSubtype_of_subB (by decide +kernel)) (isSubtype_of_subB (by decide +kernel)) λs_3 E3 cx3 r_3=>?_
   ((show let Q0:=_; wpAny _ _ _ Q0 _ _); intro Q0)
   have hee:∀b∈f.all (v::st'),b≠e:=λb hb z=>by
    obtain⟨o,eo⟩:=w_1.sch.alloc b hb
    rw [z,en] at eo; cases eo
   have keep:∀b o,b∈f.all st'->s_1.heap.get? b=some o->s_3.heap.get? b=some o:=λb o hb eb=>by
    have hb':b∈f.all (v::st'):=(all_cons b).mpr (.inl hb)
    have h:=off2 b o (λz=>nd2 v.it (by first | exact lm1 | exact lm2) (z ▸ hb)) eb
    have hWb:=w.sub b hb'
    exact(cx3.2 b o (hee b hb') h).2 (r.at.wf b hWb)
   have s1:Ints s_3.heap f.a1 ((st'.map (·.k)).reverse++[v.k]):=by
    have:=w_1.sch.stack.keeps (h':=s_3.heap) λo=>keep _ o (by first | exact fm1 | exact fm2 | exact fm3 | exact fm4)
    simpa using this
   have s2:IsL s_3.heap f.a2 (List.reverse (List.map (λ(v:Lv)=>Value.ref v.mw) st')++[Value.ref v.mw]).toArray mi:=by
    have:=keep _ _ (by first | exact fm1 | exact fm2 | exact fm3 | exact fm4) hits1
    simpa using this
   obtain⟨ts,q3,hd⟩:=w_1.sch.dict
   obtain⟨t0,ts,rfl⟩:∃t0 ts',ts=t0::ts':=by
    cases ts with
    | nil=>simp at q3
    | cons a b=>exact⟨a,b,rfl⟩
   have q3:ts.length=st'.length:=by simpa using q3
   have s4:s_3.heap.DictOf (intKind c.g.prog c.g.w) f.a4 (kvL (v::st') (t0::ts)):=by
    obtain⟨o,es,ep,eo,rr⟩:=hd
    exact⟨o,es,ep,keep _ _ (by first | exact fm1 | exact fm2 | exact fm3 | exact fm4) eo,rr⟩
   have W1:W_2 f.a1:=.inl (w.sub _ (by first | exact fm1 | exact fm2 | exact fm3 | exact fm4))
   have W2:W_2 f.a2:=.inl (w.sub _ (by first | exact fm1 | exact fm2 | exact fm3 | exact fm4))
   have W4:W_2 f.a4:=.inl (w.sub _ (by first | exact fm1 | exact fm2 | exact fm3 | exact fm4))
   have ndf:=nd1
   simp only [Four.all,List.nodup_cons,List.mem_cons,not_or] at ndf
   obtain⟨⟨n12,n13,n14,n1f⟩,⟨n23,n24,n2f⟩,⟨n34,n3f⟩,n4f,_⟩:=ndf
   refine wpAny_execs_cons (wpAny_Delete (wpAny_deleteEach_cons (delete_Subscript (r_3.nameA nm.n2s (by decide) (MethodCall_ (r_3.nameA nm.stack (by decide) ?_))))))
   ((show let Q0:=_; wpAny _ _ _ Q0 _ _); intro Q0)
   obtain⟨vs3,m3,i1,i2,i3⟩:=s1
   refine jy9 (g:=c.g) i1 PySem.F.slot_list_pop PySem.F.type_list_pop (callWith_builtin (ja9 rfl) (ja8 rfl (wpAny_items_nil (ints_pop (g:=c.g) ⟨vs3,m3,i1,i2,i3⟩ λtk h_4 hs4 hx4=>?_))))
   (show let Q0:=_; let s_4:Shared:=_; wpAny _ _ _ Q0 _ s_4); intro Q0 s_4
   have r_4:Run _ _ _ _ _ s_4:=jk1 (tk:=s_3.toks) r_3 hs4 W1 (by obtain⟨vs,n,hh,_⟩:=hx4; exact⟨_,hh⟩)
   have s4':=s4.sameBut hs4 (λz=>n14 z.symm)
   have hval:(valueAt (kvL (v::st') (t0::ts)) v.k).isSome=true:=by
    rw [qo3 _ _ (by simp [q3])]; simp
   have hkl:(kvL (v::st') (t0::ts)).length<=sizeLine:=by
    rw [ug7 _ _ (by simp [q3])]
    exact Nat.le_trans hsm (by decide)
   refine uj9 (g:=c.g) s4' hval hkl λh_5 hs5 hd5=>wpAny_deleteEach_nil ?_
   let s_5:Shared:={ s_3 with heap:=h_5,toks:=s_3.toks+1 }
   rw [kvL_pop q3 w.ks] at hd5
   have r_5:Run _ _ _ _ _ s_5:=jk1 (tk:=s_3.toks+1) r_4 hs5 W4 (by obtain⟨o,_,_,hh,_⟩:=hd5; exact⟨o,hh⟩)
   have hx5:Ints h_5 f.a1 (st'.map (·.k)).reverse:=hx4.keeps λo eo=>(hs5.2 _ n14).trans eo
   have s2':IsL h_5 f.a2 (List.reverse (List.map (λ(v:Lv)=>Value.ref v.mw) st')++[Value.ref v.mw]).toArray mi:=(hs5.2 _ n24).trans ((hs4.2 _ (λz=>n12 z.symm)).trans s2)
   refine wpAny_execs_cons (wpAny_Expr_any (prog:=c.g.prog) (w:=c.g.w) (MethodCall_ (r_5.nameA nm.its (by decide) ?_)) r_5.inter (ja7 rfl _ _ _))
   refine jy9 (g:=c.g) s2' PySem.F.slot_list_pop PySem.F.type_list_pop (callWith_builtin (ja9 rfl) (ja8 rfl (wpAny_items_nil (qj2 (g:=c.g) s2' (by simp at hsm ⊢; grind) λh_6 n_6 hs_6 hI6=>?_))))
   (show let Q0:=_; let s_6:Shared:=_; wpAny _ _ _ Q0 _ s_6); intro Q0 s_6
   have r6:Run _ _ _ _ _ s_6:=jk1 (tk:=s_3.toks+1) r_5 hs_6 W2 ⟨_,hI6⟩
   have through:∀b o,b∈f.all st'->b≠f.a1->b≠f.a2->b≠f.a4->s_1.heap.get? b=some o->h_6.get? b=some o:=λb o hb h1 h2 h4 eb=>(hs_6.2 _ h2).trans ((hs5.2 _ h4).trans ((hs4.2 _ h1).trans (keep b o hb eb)))
   refine wpAny_execs_nil (wpAny_execs_nil (hQ _ _ ⟨st'.length,by simp,_,_,_,r6,st',rfl,?_,nm,⟨⟨hx5.keeps λo eo=>(hs_6.2 _ n12).trans eo,⟨n_6,hI6⟩,?_,⟨ts,q3,hd5.sameBut hs_6 (λz=>n24 z.symm)⟩,λu hu=>w.sch.sub u (by simp [hu]),w.sch.sys,λu hu=>?_,nd1,by simp at hsm; (exact Nat.le_succ_of_le (by assumption))⟩,λb hb=>.inl (w.sub b ((all_cons b).mpr (.inl hb))),λu hu=>w.lean u (by simp [hu]),?_⟩⟩))
   ·rw [<- hu]
    show _=jp0 ((v.k,v.xs.drop v.i)::st'.map Lv.pl)
    rw [List.drop_eq_nil_of_le (by grind)]; rfl
   ·obtain⟨S,n,⟨o,es,ep,t,eo,rr⟩,q1',q2'⟩:=w_1.sch.set
    exact⟨S,n,⟨o,es,ep,t,through _ _ (by first | exact fm1 | exact fm2 | exact fm3 | exact fm4) (λz=>n13 z.symm) (λz=>n23 z.symm) n34 eo,rr⟩,q1',q2'⟩
   ·have hm:∀b∈u.all,b∈st'.flatMap Lv.all:=λb hb=>List.mem_flatMap.mpr ⟨u,hu,hb⟩
    have thr:∀b∈u.all,∀o,s_1.heap.get? b=some o->h_6.get? b=some o:=λb hb o=>through b o (fmL (hm b hb)) (λz=>n1f (z ▸ hm b hb)) (λz=>n2f (z ▸ hm b hb)) (λz=>n4f (z ▸ hm b hb))
    have:=w_1.sch.lv u (by simp [hu])
    exact⟨thr _ (by first | exact lm1 | exact lm2) _ this.1,thr _ (by first | exact lm1 | exact lm2) _ this.2⟩
   ·have:=w.ks
    simp only [List.map_cons,List.nodup_cons] at this
    exact this.2
set_option backward.match.sparseCases false
theorem jy4:∀{l m:List Int},l.Nodup->(∀x∈l,x∈m)->l.length<=m.length
 | [],_,_,_=>Nat.zero_le _
 | x::l,m,h,hs=>by
  have hx:=hs x (by simp)
  simp only [List.nodup_cons] at h
  have:=jy4 (l:=l) (m:=m.erase x) h.2 λy hy=>(List.mem_erase_of_ne (λz=>h.1 (by rw [<- z]; exact hy))).mpr (hs y (by simp [hy]))
  rw [List.length_erase_of_mem hx] at this
  have hp:=List.length_pos_of_mem hx
  simp only [List.length_cons]
  grind
structure SeenOk (σ:SS) (seen:List Int):Prop where
 nd:seen.Nodup
 has:∀x∈seen,σ.has x=true
theorem has_mem {x:Int}(h:σ.has x=true):x∈σ.nodes.map (·.id):=by
 obtain⟨i,nd,h1,h2⟩:=has_iff.mp h
 exact List.mem_map.mpr ⟨nd,List.mem_of_getElem? h1,h2⟩
theorem SeenOk.len {seen:List Int}(x:SeenOk σ seen)(hb:σ.nodes.length<=1000):seen.length<=1000:=by
 have:=jy4 x.nd λy hy=>has_mem (x.has y hy)
 rw [List.length_map] at this
 (exact Nat.le_trans (by assumption) (by assumption))
noncomputable def pushB:List Stmt:=stElse ((qb6 qs1).getD 0 (.Break default))
theorem qx0 {W:Avoid}{f:Four}{st:List Lv}{seen:List Int}{x:Int}{Q:Flow->Shared->Prop}(r:Run c O No W ρ s)(X:CycX c T l σ)(TK:TopoOk c.g.K T)(N:Names c.g)(hiter:Callee c.g "iter" (.builtin "iter"))(nm:CycN f l ρ)(w:CycW c.g l σ f st seen W s.heap)(so:SeenOk σ seen)(hnode:ρ.is "node" (.int x))(hx:σ.has x=true)(hns:seen.contains x=false)
  (q:∀(v:Lv) O' W' s',v.pl=(x,σ.succOf x)->Run c O' No W' ρ s'->CycW c.g l σ f (v::st) (x::seen) W' s'.heap->SeenOk σ (x::seen)->Q .next s') :
  wpAny c.g.M c.Ar (execs pushB c.env) Q E s:=by
 conv in pushB=>whnf
 have ndf:=w.sch.nd
 simp only [Four.all,List.nodup_cons,List.mem_cons,not_or] at ndf
 obtain⟨⟨n12,n13,n14,n1f⟩,⟨n23,n24,n2f⟩,⟨n34,n3f⟩,n4f,nff⟩:=ndf
 have W1:W f.a1:=w.sub _ (by first | exact fm1 | exact fm2 | exact fm3 | exact fm4)
 have W2:W f.a2:=w.sub _ (by first | exact fm1 | exact fm2 | exact fm3 | exact fm4)
 have W3:W f.a3:=w.sub _ (by first | exact fm1 | exact fm2 | exact fm3 | exact fm4)
 have W4:W f.a4:=w.sub _ (by first | exact fm1 | exact fm2 | exact fm3 | exact fm4)
 have S:=X.now r
 have so':SeenOk σ (x::seen):=⟨List.nodup_cons.mpr ⟨λh=>(by rw [List.contains_iff_mem.mpr h] at hns; cases hns),so.nd⟩,λy hy=>by
  rcases List.mem_cons.mp hy with rfl | hy
  ·exact hx
  ·exact so.has y hy⟩
 have slen':=so'.len S.big
 rw [List.length_cons] at slen'
 have slen:=so.len S.big
 have hlen:st.length<=seen.length:=by
  have:=jy4 w.ks (m:=seen) λy hy=>by
   obtain⟨v,hv,e⟩:=List.mem_map.mp hy
   have:=w.sch.sub v hv
   rw [e] at this
   simpa using this
  simpa using this
 have hxs:x∉st.map (·.k):=λhm=>by
  obtain⟨v,hv,e⟩:=List.mem_map.mp hm
  have:=w.sch.sub v hv
  rw [e,hns] at this; cases this
 obtain⟨jn,a,nd,g1,g2,hid⟩:=S.at hx
 obtain⟨SS0,n0,hS,hS1,hS2⟩:=w.sch.set
 refine wpAny_execs_cons (wpAny_Expr_any (prog:=c.g.prog) (w:=c.g.w) (MethodCall_ (r.nameA nm.seen (by decide) (getMethod_set_add hS (callWith_builtin (ja9 rfl) (ja8 rfl (wpAny_items_cons (r.name hnode (by decide) λv rv=>wpAny_items_nil ?_) rfl)))))) r.inter (ja7 rfl _ _ _))
 obtain⟨t1,rfl⟩:=ja4 rv
 refine call_set_add (intKind_is c.g.prog c.g.w x t1) rfl hS (by have:scanBound=4096:=rfl; grind) λh_1 hs1 hS_1=>?_
 (show let Q0:=_; let s_1:Shared:=_; wpAny _ _ _ Q0 _ s_1); intro Q0 s_1
 have r_1:Run _ _ _ _ _ s_1:=jk1 (tk:=s.toks+1) r hs1 W3 (by obtain⟨o,_,_,_,e,_⟩:=hS_1; exact⟨o,e⟩)
 have S1:=X.now r_1
 have hset:(SS0 x)=false:=by rw [hS1]; exact hns
 rw [hset,if_neg (by decide)] at hS_1
 obtain⟨mi,hits⟩:=w.sch.its
 have hits1:IsL h_1 f.a2 _ mi:=(hs1.2 _ n23).trans hits
 refine wpAny_execs_cons (wpAny_Expr_any (prog:=c.g.prog) (w:=c.g.w) (MethodCall_ (r_1.nameA nm.its (by decide) (jy9 (g:=c.g) hits1 PySem.F.slot_list_append PySem.F.type_list_append (callWith_builtin (ja9 rfl) (ja8 rfl (wpAny_items_cons ?_ rfl)))))) r_1.inter (ja7 rfl _ _ _))
 cases hiter with
 | bt b1 b2 b3 =>
 refine Attribute_any_ (Call_ (jb7 r_1.act.up r_1.act.eo (by rw [nm.sc]; rfl) b1 b2 b3 (by decide) (callWith_builtin (ja9 rfl) (ja8 rfl (wpAny_items_cons (Attribute_any_ (r_1.e0 (jz6 (S1.now _) (jb8 (k:=0) nm.n2i rfl) (jb8 (k:=0) hnode rfl) rfl g1 g2 hid) λv s_2 k_2 rv r_2=>?_)) rfl)))))
 have:=jb0 rv; subst this
 have S2:=X.now r_2
 have N2:=S2.nds jn a nd g1 g2
 refine qp1 N2 r_2.now TK (wpAny_items_nil ?_)
 ((show let Q0:=_; wpAny _ _ _ Q0 _ _); intro Q0)
 obtain⟨us,m',i1,i2,i3⟩:=N2.2.2
 refine ql5 (g:=c.g) (s:={ s_2 with toks:=s_2.toks+1 }) i1 ?_
 have hsz3:(s_2.heap.push (jh5 a.suc 0)).objs.size=s_2.heap.objs.size+1:=Heap.size_push ..
 refine qk5 (l:=a.suc) (i:=0) (Heap.get?_push_size _ rfl) (wpAny_items_nil ?_)
 have k_4:Keeps s_2 { s_2 with heap:=(s_2.heap.push (jh5 a.suc 0)).push (jj1 s_2.heap.objs.size),toks:=s_2.toks+1+1 }:=⟨_,_,rfl,λb o e=>Heap.get?_push_of_some _ (Heap.get?_push_of_some _ e)⟩
 have hit4:((s_2.heap.push (jh5 a.suc 0)).push (jj1 s_2.heap.objs.size)).get? s_2.heap.objs.size=some (jh5 a.suc 0):=Heap.get?_push_of_some _ (Heap.get?_push_size _ rfl)
 have hmw4:((s_2.heap.push (jh5 a.suc 0)).push (jj1 s_2.heap.objs.size)).get? (s_2.heap.push (jh5 a.suc 0)).objs.size=some (jj1 s_2.heap.objs.size):=Heap.get?_push_size _ rfl
 have new1:s_2.heap.get? s_2.heap.objs.size=none:=jc2 (ja3 s_2)
 have new2:s_2.heap.get? (s_2.heap.push (jh5 a.suc 0)).objs.size=none:=je5 (ja3 s_2) (by rw [hsz3]; exact Nat.le_succ _)
 have nit:(s_2.heap.push (jh5 a.suc 0)).objs.size≠s_2.heap.objs.size:=by rw [hsz3]; exact Nat.succ_ne_self _
 generalize (s_2.heap.push (jh5 a.suc 0)).objs.size=mw at hmw4 new2 nit ⊢
 generalize s_2.heap.objs.size=it at hit4 hmw4 new1 nit k_4 ⊢
 generalize (s_2.heap.push (jh5 a.suc 0)).push (jj1 it)=h4 at hit4 hmw4 k_4 ⊢
 revert k_4
 revert hmw4
 revert hit4
 revert nit
 revert new2
 revert new1
 revert h4
 revert it
 revert mw
 refine id ?_
 intro mw it h4 new1 new2 nit hit4 hmw4 k_4
 (show let Q0:=_; let s_4:Shared:=_; wpAny _ _ _ Q0 _ s_4); intro Q0 s_4
 have hits4:IsL h4 f.a2 _ mi:=ja0 k_4 _ _ (ja0 k_2 _ _ hits1)
 let W':Avoid:=λb=>W b\/b=it\/b=mw
 have r_4:Run c _ No W' ρ s_4:=r_2.eff (W':=W') (.of_keeps k_4) (λzw h=>.inl h) (λb hb=>by
  rcases hb with hb | rfl | rfl
  ·exact .inl hb
  ·exact .inr new1
  ·exact .inr new2) λb hb=>by
   rcases hb with hb | rfl | rfl
   ·obtain⟨o,e⟩:=r_2.act.aO b (r_2.wo b hb); exact⟨o,ja0 k_4 _ _ e⟩
   ·exact⟨_,hit4⟩
   ·exact⟨_,hmw4⟩
 refine append_at (prog:=c.g.prog) (w:=c.g.w) (s:=s_4) hits4 (λh_5 hs5 he5=>?_) (by
  rw [List.size_toArray,List.length_reverse,List.length_map]
  exact Nat.le_trans (show st.length<=1000 by (exact Nat.le_trans (by assumption) (by assumption))) (by decide))
 (show let Q0:=_; let s_5:Shared:=_; wpAny _ _ _ Q0 _ s_5); intro Q0 s_5
 have r_5:Run _ _ _ _ _ s_5:=jk1 (tk:=s_2.toks+1+1) r_4 hs5 (.inl W2) ⟨_,he5⟩
 have old:∀b o,W b->s_2.heap.get? b=some o->b≠it/\b≠mw:=λb o zw e=>⟨λz=>(by rw [z,new1] at e; cases e),λz=>(by rw [z,new2] at e; cases e)⟩
 have ne_of:∀b,W b->b≠it/\b≠mw:=λb hb=>by
  obtain⟨o,e⟩:=r_2.act.aO b (r_2.wo b hb)
  exact old b o hb e
 have st5:Ints h_5 f.a1 (st.map (·.k)).reverse:=w.sch.stack.keeps λo p1=>(hs5.2 _ n12).trans (ja0 k_4 _ _ (ja0 k_2 _ _ ((hs1.2 _ n13).trans p1)))
 obtain⟨vs5,m5,y1,y2,y3⟩:=st5
 have hc:cap=100000:=rfl
 have l5:=y3.length
 rw [Array.length_toList,List.length_map,List.length_reverse,List.length_map] at l5
 cases N.len with
 | bt c1 c2 c3 =>
 refine wpAny_execs_cons (wpAny_Assign_Subscript (Call_ (jb7 r_5.act.up r_5.act.eo (by rw [nm.sc]; rfl) c1 c2 c3 (by decide) (callWith_builtin (ja9 rfl) (ja8 rfl (wpAny_items_cons (r_5.nameA nm.stack (by decide) (wpAny_items_nil (call_len_list (IsL.isList y1) (by grind) ?_))) rfl))))) (ja7 rfl _ _ _))
 rw [l5]
 (show let Q0:=_; let s_6:Shared:=_; wpAny _ _ _ Q0 _ s_6); intro Q0 s_6
 have r_5:Run _ _ _ _ _ s_6:=r_5.toks (s_2.toks+1+1+1+1)
 obtain⟨ts,q3,hd⟩:=w.sch.dict
 have hd5:Heap.DictOf (intKind c.g.prog c.g.w) h_5 f.a4 (kvL st ts):=(((hd.sameBut hs1 (λz=>n34 z.symm)).keep (ja0 k_2)).keep (ja0 k_4)).sameBut hs5 (λz=>n24 z.symm)
 refine r_5.nameA nm.n2s (by decide) (r_5.name hnode (by decide) λv rv=>?_)
 ((show let Q0:=_; wpAny _ _ _ Q0 _ _); intro Q0)
 obtain⟨t6,rfl⟩:=ja4 rv
 refine wpAny_setItem_pairs (intKind_is c.g.prog c.g.w x t6) hd5 (λh_6 hd6 hs_6=>?_) (by rw [ug7 _ _ q3]; exact Nat.le_trans (show st.length<=1000 by (exact Nat.le_trans (by assumption) (by assumption))) (by decide))
 rw [kvL_push q3 hxs] at hd6
 (show let Q0:=_; let s7:Shared:=_; wpAny _ _ _ Q0 _ s7); intro Q0 s7
 have r6:Run _ _ _ _ _ s7:=jk1 (tk:=s_2.toks+1+1+1+1+1) r_5 hs_6 (.inl W4) (by obtain⟨o,_,_,e,_⟩:=hd6; exact⟨o,e⟩)
 have st6:Ints h_6 f.a1 (st.map (·.k)).reverse:=Ints.keeps ⟨vs5,m5,y1,y2,y3⟩ λo e=>(hs_6.2 _ n14).trans e
 refine wpAny_execs_cons (wpAny_Expr_any (prog:=c.g.prog) (w:=c.g.w) (MethodCall_ (r6.nameA nm.stack (by decide) (jz1 (g:=c.g) st6 (callWith_builtin (ja9 rfl) (ja8 rfl (wpAny_items_cons (r6.name hnode (by decide) λv rv=>wpAny_items_nil ?_) rfl)))))) r6.inter (ja7 rfl _ _ _))
 obtain⟨t7,rfl⟩:=ja4 rv
 refine jp9 (g:=c.g) st6 (by simp; grind) λh_7 hs7 hx7=>wpAny_execs_nil ?_
 (show let s8:Shared:=_; Q .next s8); intro s8
 have r7:Run _ _ _ _ _ s8:=jk1 (tk:=s_2.toks+1+1+1+1+1) r6 hs7 (.inl W1) (by obtain⟨_,_,e,_⟩:=hx7; exact⟨_,e⟩)
 let v:Lv:=⟨x,mw,it,a.suc,0,nd.succ⟩
 have fin:∀b o,b≠f.a1->b≠f.a2->b≠f.a4->h4.get? b=some o->h_7.get? b=some o:=λb o h1 h2 h4' e=>(hs7.2 _ h1).trans ((hs_6.2 _ h4').trans ((hs5.2 _ h2).trans e))
 have four:∀b,W b->b≠it/\b≠mw:=ne_of
 refine q v _ _ _ ?_ r7 ⟨⟨?_,⟨mi+1,?_⟩,?_,⟨(s_2.toks+1+1+1)::ts,by simp [q3],?_⟩,?_,w.sch.sys,?_,?_,by simp; grind⟩,?_,?_,?_⟩ so'
 ·show(x,nd.succ.drop 0)=_
  rw [List.drop_zero,<- hid,uc2 S.ids g2]
 ·simpa using hx7
 ·have:IsL h_7 f.a2 _ _:=(hs7.2 _ (λz=>n12 z.symm)).trans ((hs_6.2 _ n24).trans he5)
  simpa using this
 ·refine⟨λk'=>SS0 k' || decide (k'=x),n0+1,?_,λk'=>?_,?_⟩
  ·obtain⟨o,es,ep,t,e,rr⟩:=hS_1
   exact⟨o,es,ep,t,fin _ _ (λz=>n13 z.symm) (λz=>n23 z.symm) n34 (ja0 k_4 _ _ (ja0 k_2 _ _ e)),rr⟩
  ·show(SS0 k' || decide (k'=x))=_
   rw [hS1,List.contains_cons,Bool.or_comm]
   rfl
  ·show n0+1<=(x::seen).length
   simp; assumption
 ·show Heap.DictOf _ h_7 f.a4 (kvL st ts++[(x,.int st.length _)])
  exact hd6.sameBut hs7 (λz=>n14 z.symm)
 ·intro u hu
  rcases List.mem_cons.mp hu with rfl | hu
  ·simp [v]
  ·rw [List.contains_cons,w.sch.sub u hu,Bool.or_true]
 ·intro u hu
  rcases List.mem_cons.mp hu with rfl | hu
  ·exact⟨fin _ _ (λz=>(four _ W1).2 z.symm) (λz=>(four _ W2).2 z.symm) (λz=>(four _ W4).2 z.symm) hmw4,fin _ _ (λz=>(four _ W1).1 z.symm) (λz=>(four _ W2).1 z.symm) (λz=>(four _ W4).1 z.symm) hit4⟩
  ·have hm:∀b∈u.all,b∈st.flatMap Lv.all:=λb hb=>List.mem_flatMap.mpr ⟨u,hu,hb⟩
   have thr:∀b∈u.all,∀o,s.heap.get? b=some o->h_7.get? b=some o:=λb hb o e=>fin b o (λz=>n1f (z ▸ hm b hb)) (λz=>n2f (z ▸ hm b hb)) (λz=>n4f (z ▸ hm b hb)) (ja0 k_4 _ _ (ja0 k_2 _ _ ((hs1.2 _ (λz=>n3f (z ▸ hm b hb))).trans e)))
   have:=w.sch.lv u hu
   exact⟨thr _ (by first | exact lm1 | exact lm2) _ this.1,thr _ (by first | exact lm1 | exact lm2) _ this.2⟩
 ·have hin:∀b∈st.flatMap Lv.all,W b:=λb hb=>w.sub b (by simp [Four.all,hb])
  simp only [Four.all,List.flatMap_cons,List.nodup_cons,List.mem_cons,List.mem_append,not_or,Lv.all,List.not_mem_nil,or_false,List.cons_append,List.nil_append]
  refine⟨⟨n12,n13,n14,(four _ W1).2,(four _ W1).1,n1f⟩,⟨n23,n24,(four _ W2).2,(four _ W2).1,n2f⟩,⟨n34,(four _ W3).2,(four _ W3).1,n3f⟩,⟨(four _ W4).2,(four _ W4).1,n4f⟩,⟨nit,λz=>(four _ (hin _ z)).2 rfl⟩,λz=>(four _ (hin _ z)).1 rfl,nff⟩
 ·intro b hb
  rcases(all_cons b).mp hb with hb | hb
  ·exact .inl (w.sub b hb)
  ·simp only [Lv.all,List.mem_cons,List.not_mem_nil,or_false] at hb
   rcases hb with rfl | rfl
   ·exact .inr (.inr rfl)
   ·exact .inr (.inl rfl)
 ·intro u hu
  rcases List.mem_cons.mp hu with rfl | hu
  ·exact⟨jn,a,nd,g1,g2,rfl,rfl,hid.symm⟩
  ·exact w.lean u hu
 ·simp only [List.map_cons,List.nodup_cons]
  exact⟨hxs,w.ks⟩
set_option backward.match.sparseCases true
section
theorem ue0 {α:Type}(l:List α):∀(n a:Nat),a+n<=l.length->((List.range n).map (λk=>a+k)).filterMap (l[·]?)=(l.drop a).take n
 | 0,a,h=>by simp
 | n+1,a,h=>by
  rw [List.range_succ,List.map_append,List.filterMap_append,ue0 l n a (by (exact Nat.le_of_lt (by assumption))),List.take_add_one,List.getElem?_drop]
  have:a+n < l.length:=by assumption
  simp [this]
theorem jp5 (xs:List D)(j:Nat)(h:j<=xs.length):jp1 xs (some j) none none=xs.drop j:=by
 unfold jp1
 rw [sliceBounds_plain]
 have e:clipAt xs.length (j:Int)=j:=by
  have:=clipAt_cast xs.length (j:Int)
  rw [if_neg (by (simp +arith))] at this
  grind
 show((sliceRange ((clipAt xs.length (j:Int):Nat):Int) ((xs.length:Nat):Int) 1).filterMap (xs[·]?))=_
 rw [e,sliceRange_one,ue0 xs _ _ (by grind)]
 exact List.take_of_length_le (by simp)
section
variable {g:Glob} {n:Nat} {ρ:Rho}
end
end
theorem pl_any (st:List Lv)(x:Int):(st.map Lv.pl).any (λp=>p.1==x)=st.any (λv=>v.k==x):=by
 rw [List.any_map]; rfl
theorem qn1 {go:List (Int×List Int)->List Int->Int->Option (List Int ⊕ List Int)}{stk:List (Int×List Int)}{seen:List Int}{res:List Int ⊕ List Int}(h:jl5 go stk seen=some res):(∀x st',jp0 stk=some (x,st')->go st' seen x=some res)/\(jp0 stk=none->res=.inr seen):=by
 unfold jl5 at h
 exact⟨λx st' e=>by rw [e] at h; exact h,λe=>by rw [e] at h; exact(Option.some.inj h).symm⟩
theorem ud6 {succ:Int->List Int}{st:List Lv}{seen:List Int}{x:Int}{res:List Int ⊕ List Int}(h:jm1 succ n (st.map Lv.pl) seen x=some res)(q1:∀rr,res≠.inl rr) :
  ∃i,n=i+1/\(seen.contains x=false->jl5 (jm1 succ i) ((x,succ x)::st.map Lv.pl) (x::seen)=some res)/\(seen.contains x=true->(st.any λv=>v.k==x)=false/\jl5 (jm1 succ i) (st.map Lv.pl) seen=some res):=by
 cases n with
 | zero=>cases h
 | succ i =>
 unfold jm1 at h
 refine⟨i,rfl,λe=>?_,λe=>?_⟩
 ·rw [e,if_neg (by decide)] at h; exact h
 ·rw [e,if_pos rfl,pl_any] at h
  cases e2:st.any λv=>v.k==x with
  | false=>rw [e2,if_neg (by decide)] at h; exact⟨rfl,h⟩
  | true=>rw [e2,if_pos rfl] at h; exact absurd (Option.some.inj h).symm (q1 _)
theorem qx2 {W:Avoid}{f:Four}{st:List Lv}{seen:List Int}{x:Int}{res:List Int ⊕ List Int}{Q:Flow->Shared->Prop}(r:Run c O No W ρ s)(X:CycX c T l σ)(TK:TopoOk c.g.K T)(N:Names c.g)(hiter:Callee c.g "iter" (.builtin "iter"))(nm:CycN f l ρ)(w:CycW c.g l σ f st seen W s.heap)(so:SeenOk σ seen)(hnode:ρ.is "node" (.int x))(hx:σ.has x=true)
  (hgo:jm1 σ.succOf n (st.map Lv.pl) seen x=some res)
  (q1:∀rr,res≠.inl rr)
  (q2:∀seen' O' W' ρ' s',res=.inr seen'->Run c O' No W' ρ' s'->CycN f l ρ'->CycW c.g l σ f [] seen' W' s'.heap->SeenOk σ seen'->Q .next s') :
  wpAny c.g.M c.Ar (exec qs1 c.env) Q E s:=by
 conv in qs1=>whnf
 refine r.whileL (λn W ρ s=>∃st seen x,jm1 σ.succOf n (st.map Lv.pl) seen x=some res/\CycN f l ρ/\CycW c.g l σ f st seen W s.heap/\SeenOk σ seen/\ρ.is "node" (.int x)/\σ.has x=true) n ⟨st,seen,x,hgo,nm,w,so,hnode,hx⟩ ?_
 clear hgo nm w so hnode hx r
 intro i O' W' ρ' s' E' hJ r
 refine r.test (b:=true) (jt0 (d:=.bool true) (k:=0) uj4 rfl rfl) λs_1 k_1 r_1=>?_
 refine(if_pos rfl).mpr (wp_q λQ' hQ=>?_)
 ((show let Q0:=_; wpAny _ _ _ Q0 _ _); intro Q0)
 obtain⟨st,seen,x,hgo,nm,w,so,hnode,hx⟩:=hJ
 obtain⟨i,rfl,hpush,hstay⟩:=ud6 hgo q1
 have w_1:CycW c.g l σ f st seen W' s_1.heap:=w.keeps λb o zw=>ja0 k_1 b o
 have fin:∀{st':List Lv} {seen':List Int} {O'' W'':Avoid} {s_2:Shared},Run c O'' No W'' ρ' s_2->CycW c.g l σ f st' seen' W'' s_2.heap->SeenOk σ seen'->jl5 (jm1 σ.succOf i) (st'.map Lv.pl) seen'=some res->wpAny c.g.M c.Ar (execs [uh2] c.env) Q' E' s_2:=λ{st' seen' O'' W'' s_2} r_2 w_2 so2 hn=>by
  obtain⟨hn1,hn2⟩:=qn1 hn
  refine wpAny_execs_cons (qy5 r_2 X nm w_2 (λx' st'' O3 W_3 ρ3 s_3 hu hh r_3 nm3 hnode3 w_3=>?_) λO3 W_3 ρ3 s_3 hu r_3 nm3 w_3=>?_)
  ·exact wpAny_execs_nil (hQ _ _ ⟨i,by (exact Nat.lt_succ_self _),_,_,_,r_3,st'',seen',x',hn1 _ _ hu,nm3,w_3,so2,hnode3,hh⟩)
  ·exact hQ _ _ (q2 _ _ _ _ _ (hn2 hu) r_3 nm3 w_3 so2)
 obtain⟨SS0,n0,hS,hS1,hS2⟩:=w_1.sch.set
 refine wpAny_execs_cons (wpAny_If (wpAny_isTrue_Compare1 (r_1.name hnode (by decide) λv rv=>r_1.nameA nm.seen (by decide) ?_) rfl))
 ((show let Q0:=_; wpAny _ _ _ Q0 _ _); intro Q0)
 obtain⟨t1,rfl⟩:=ja4 rv
 refine wpAny_inSet_of (intKind_is c.g.prog c.g.w x t1) rfl hS (wpAny_truthy_bool ?_)
 rw [hS1]
 have r_2:=r_1.toks (s_1.toks+1)
 cases hsn:seen.contains x with
 | false =>
  refine(if_neg (by decide)).mpr ?_
  exact qx0 r_2 X TK N hiter nm w_1 so hnode hx hsn λv O3 W_3 s_3 hv r_3 w_3 so3=>fin r_3 w_3 so3 (by rw [List.map_cons,hv]; exact hpush hsn)
 | true =>
  refine(if_pos rfl).mpr ?_
  obtain⟨hst,hgo⟩:=hstay hsn
  obtain⟨ts,q3,hd⟩:=w_1.sch.dict
  refine wpAny_execs_cons (wpAny_If (wpAny_isTrue_Compare1 (r_2.name hnode (by decide) λv rv=>r_2.nameA nm.n2s (by decide) ?_) rfl))
  ((show let Q0:=_; wpAny _ _ _ Q0 _ _); intro Q0)
  obtain⟨t2,rfl⟩:=ja4 rv
  refine wpAny_in_of (intKind_is c.g.prog c.g.w x t2) w_1.sch.sys hd.mapOf (wpAny_truthy_bool ?_)
  rw [qo3 _ _ q3,hst]
  have r_3:=r_2.toks (s_1.toks+1+1)
  refine(if_neg (by decide)).mpr ?_
  exact wpAny_execs_nil (wpAny_execs_nil (fin r_3 w_1 so hgo))
theorem qy2 {X:Avoid}{kvs:List (Int×Value)}(ev:EvS g n ρ e (objD a) k)(hsys:(a==sysModules)=false)(I:g.h.DictOf (intKind g.prog g.w) a kvs)(hXa:X a):um6 g n X ρ false e ((kvs.map (·.1)).map .int):=by
 intro O M env A s E Q u rm aO aM eo hXM q
 refine ev.use u rm aO aM eo λv sa k_1 r_1 u_1 o_1 m_1 e_1=>?_
 have:=jb0 r_1; subst this
 obtain⟨ep,D0⟩:=I.dictAt
 have D1:=D0.keep (h':=sa.heap) λb o=>u_1 b o
 have k_2:Keeps sa { sa with heap:=sa.heap.push { cls:=.type "dict_keyiterator",data:=.fields #[.ref a,.int 0 0,.int kvs.length 0,.int ep 0] } }:=ja6 sa _ _
 have hne:a≠sa.heap.objs.size:=λz=>by
  have:=D1.lt_size
  rw [<- z] at this
  exact absurd this (Nat.lt_irrefl _)
 refine wpAny_pyIter_dict hsys D1 (q _ _ (λb=>b=sa.heap.objs.size) (λi h=>h.IsKeyIter sa.heap.objs.size a i kvs.length ep/\h.DictAt (intKind g.prog g.w) a kvs ep) (ja1 k_1 k_2) ⟨⟨⟨_,Heap.get?_push_size _ rfl,rfl,rfl⟩,D1.keep (ja0 k_2)⟩,λb hb=>by subst hb; exact⟨jc2 k_1,_,Heap.get?_push_size _ rfl⟩,λi h st b hb=>by
   subst hb
   obtain⟨o,ho,hc,hd⟩:=st.1
   exact⟨o,ho,by unfold isFS; rw [hd]⟩,λi h h' st hk=>?_,?_,?_⟩)
 ·obtain⟨⟨o,ho,hr⟩,⟨od,es,hod,rr⟩⟩:=st
  have ha:∃o',(sa.heap.push { cls:=.type "dict_keyiterator",data:=.fields #[.ref a,.int 0 0,.int kvs.length 0,.int ep 0] }).get? a=some o':=by
   obtain⟨o',_,h',_⟩:=D1.keep (ja0 k_2)
   exact⟨o',h'⟩
  exact⟨⟨o,hk _ _ (.inl o_1.new) m_1.new ⟨_,Heap.get?_push_size _ rfl⟩ ho,hr⟩,⟨od,es,hk _ _ (.inr hXa) (hXM a hXa) ha hod,rr⟩⟩
 ·intro O' M' i d t target E' Q' wd' wd htg hd st aO' aM' q'
  rw [List.getElem?_map,Option.map_eq_some_iff] at hd
  obtain⟨x,hx,rfl⟩:=hd
  rw [List.getElem?_map,Option.map_eq_some_iff] at hx
  obtain⟨⟨x',v⟩,hx,rfl⟩:=hx
  refine wpAny_pyNext_dict_item st.1 st.2 hx λkey h' hkey hit' hs'=>⟨_,rfl,?_⟩
  obtain⟨tk,rfl⟩:=Value.isInt_shape hkey
  exact jd5 htg (q' _ { t with heap:=h' } ⟨⟨h',t.toks,rfl⟩,λb o hb e=>hs'.extBut b o hb e⟩ .int ⟨hit',st.2.extBut hs'.extBut hne⟩)
 ·intro t E' Q' st q'
  exact wpAny_pyNext_dict_end rm.handled st.1 st.2 (by simp) λh' he'=>q' _ ⟨⟨h',t.toks,rfl⟩,λb o hb e=>he' b o hb e⟩
theorem Run.grow {W:Avoid}(r:Run c O M W ρ s)(k:Keeps s s')(hn:s.heap.get? a=none)(ha:∃o,s'.heap.get? a=some o):Run c (λb=>O b\/(W b\/b=a)) M (λb=>W b\/b=a) ρ s' :=
 r.eff (W':=λb=>W b\/b=a) (.of_keeps k) (λzw h=>.inl h) (λb hb=>by
  rcases hb with hb | rfl
  ·exact .inl hb
  ·exact .inr hn) λb hb=>by
   rcases hb with hb | rfl
   ·obtain⟨o,e⟩:=r.act.aO b (r.wo b hb); exact⟨o,ja0 k _ _ e⟩
   ·exact ha
theorem qy0:∀{ns:List NdA} {nodes:List Nd},ns.length=nodes.length->(jf2 ns nodes).map (·.1)=nodes.map (·.id):=by
 intro ns
 induction ns with
 | nil=>intro nodes h; cases nodes with
  | nil=>rfl
  | cons _ _=>simp at h
 | cons a ns ih=>intro nodes h; cases nodes with
  | nil=>simp at h
  | cons nd nodes =>
   have:=ih (nodes:=nodes) (by simpa using h)
   unfold jf2 at this ⊢
   simp only [List.zipWith_cons_cons,List.zip_cons_cons,List.map_cons] at this ⊢
   rw [this]
theorem rd_nil (x:Rd O M h k (.ref a) (.list [])):∃n,IsL h a #[] n:=by
 obtain⟨a',vs,m,e,h1,h2,h3,_⟩:=jc5 x
 cases e
 have:=h3.length
 rw [Array.length_toList] at this
 have:vs=#[]:=Array.eq_empty_of_size_eq_zero this
 exact⟨m,this ▸ h2⟩
theorem CycX.prot (X:CycX c T l σ){Z O0:Avoid}{t:Shared}:CycX (c.prot Z O0 t) T l σ:=⟨X.S,X.w0,X.off,X.suc,X.stop⟩
theorem qw4 {succ:Int->List Int}{x:Int}{ks seen:List Int}(h:jm7 succ n (x::ks) seen=some none):(seen.contains x=true->jm7 succ n ks seen=some none)/\(seen.contains x=false->∃rs,jm1 succ n [] seen x=some rs/\(∀rr,rs≠.inl rr)/\∀s',rs=.inr s'->jm7 succ n ks s'=some none):=by
 unfold jm7 at h
 refine⟨λe=>by rw [e,if_pos rfl] at h; exact h,λe=>?_⟩
 rw [e,if_neg (by decide)] at h
 cases hg:jm1 succ n [] seen x with
 | none=>rw [hg] at h; cases h
 | some rs =>
  rw [hg] at h
  exact⟨rs,rfl,λrr e=>(by subst e; cases h),λs' e=>(by subst e; exact h)⟩
theorem cyc_body {W:Avoid}{Q:Flow->Shared->Prop}(r:Run c O No W ρ s)(X:CycX c T l σ)(TK:TopoOk c.g.K T)(N:Names c.g)(hset:Callee c.g "set" (.type "set"))(hiter:Callee c.g "iter" (.builtin "iter"))
  (hsc:ρ.sc=cycN) (hself:ρ.is "self" (objD l.a)) (hres:σ.cyc=some none)
  (q2:∀O' W' ρ' s',Run c O' No W' ρ' s'->Q (.ret .none) s') :
  wpAny c.g.M c.Ar (execs cycB c.env) Q E s:=by
 conv in cycB=>whnf
 have st0:∀x,stOk ⟨cycN,[]⟩ x=true->stOk ρ x=true:=λx=>jj9 hsc
 refine wpAny_execs_cons (r.assignS rfl (r.e0 (qt5 ((X.now r).now _) TK hself (by decide)) λv s_1 k_1 rv r_1=>r_1.store (st0 _ rfl) rv λs_2 c_2 r_2=>?_))
 have hn2i:=Rho.is_put (ρ:=ρ) (x:="n2i") (d:=objD l.m)
 have hsc2:(ρ.put "n2i" (objD l.m) 0).sc=cycN:=hsc
 generalize ρ.put "n2i" (objD l.m) 0=ρ2 at hn2i r_2 hsc2
 revert hsc2
 revert r_2
 revert hn2i
 revert ρ2
 refine id ?_
 intro ρ2 hn2i r_2 hsc2
 refine wpAny_execs_cons (r_2.assignS rfl (r_2.newL (jz5 jj2 (by decide)) λa1 s_3 k_3 hn3 rl3 zw=>?_))
 ((show let Q0:=_; wpAny _ _ _ Q0 _ _); intro Q0)
 obtain⟨m1,hl1⟩:=rd_nil rl3
 have r_3:=r_2.grow k_3 hn3 ⟨_,hl1⟩
 refine r_3.store (d:=objD a1) (jj9 hsc2 rfl) .obj λs_4 c_4 r_4=>?_
 ((show let Q0:=_; wpAny _ _ _ Q0 _ _); intro Q0)
 have hl14:IsL s_4.heap a1 #[] m1:=r_3.same c_4 _ _ (.inr rfl) hl1
 have hn2i:=Rho.is_ne (x:="stack") (d':=objD a1) (k:=0) hn2i rfl
 have hst:=Rho.is_put (ρ:=ρ2) (x:="stack") (d:=objD a1)
 have hsc4:(ρ2.put "stack" (objD a1) 0).sc=cycN:=hsc2
 generalize ρ2.put "stack" (objD a1) 0=ρ4 at hn2i hst r_4 hsc4
 revert hsc4
 revert r_4
 revert hst
 revert hn2i
 revert ρ4
 refine id ?_
 intro ρ4 hn2i hst r_4 hsc4
 refine wpAny_execs_cons (r_4.assignS rfl (r_4.newL (jz5 jj2 (by decide)) λa2 s_5 k_5 hn5 rl5 zw=>?_))
 ((show let Q0:=_; wpAny _ _ _ Q0 _ _); intro Q0)
 obtain⟨m2,hl2⟩:=rd_nil rl5
 have r_5:=r_4.grow k_5 hn5 ⟨_,hl2⟩
 refine r_5.store (d:=objD a2) (jj9 hsc4 rfl) .obj λs_6 c6 r6=>?_
 have hl16:IsL s_6.heap a1 #[] m1:=r_5.same c6 _ _ (.inl (.inr rfl)) (ja0 k_5 _ _ hl14)
 have hl26:IsL s_6.heap a2 #[] m2:=r_5.same c6 _ _ (.inr rfl) hl2
 have n12:a1≠a2:=λz=>by rw [<- z,hl14] at hn5; cases hn5
 have hn2i:=Rho.is_ne (x:="itstack") (d':=objD a2) (k:=0) hn2i rfl
 have hst:=Rho.is_ne (x:="itstack") (d':=objD a2) (k:=0) hst rfl
 have hits:=Rho.is_put (ρ:=ρ4) (x:="itstack") (d:=objD a2)
 have hsc6:(ρ4.put "itstack" (objD a2) 0).sc=cycN:=hsc4
 generalize ρ4.put "itstack" (objD a2) 0=ρ6 at hn2i hst hits r6 hsc6
 revert hsc6
 revert r6
 revert hits
 revert hst
 revert hn2i
 revert ρ6
 refine id ?_
 intro ρ6 hn2i hst hits r6 hsc6
 cases hset with
 | ty b1 b2 b3 =>
 refine wpAny_execs_cons (r6.assignS rfl (Call_ (jb7 r6.act.up r6.act.eo (by rw [hsc6]; rfl) b1 b2 b3 (by decide) (PySem.callWith_type (ja9 rfl) (ja8 rfl (wpAny_items_nil (call_set_0 λled=>?_)))))))
 ((show let Q0:=_; wpAny _ _ _ Q0 _ _); intro Q0)
 have hn7:s_6.heap.get? s_6.heap.objs.size=none:=jc2 (ja3 s_6)
 have k7:Keeps s_6 { s_6 with heap:=s_6.heap.push { cls:=.type "set",dict:=none,data:=.set #[] 0 (.fresh 0 0 led) } }:=ja6 s_6 _ _
 have hS7:({ s_6 with heap:=s_6.heap.push { cls:=.type "set",dict:=none,data:=.set #[] 0 (.fresh 0 0 led) } }:Shared).heap.SetOf (intKind c.g.prog c.g.w) s_6.heap.objs.size (λzw=>false) 0 :=
  ⟨_,#[],0,.fresh 0 0 led,Heap.get?_push_size _ rfl,⟨rfl,rfl,rfl⟩,rfl,λzw h=>(by cases h),λk=>(by simp),(by decide),rfl,rfl⟩
 have ho7:∃o,({ s_6 with heap:=s_6.heap.push { cls:=.type "set",dict:=none,data:=.set #[] 0 (.fresh 0 0 led) } }:Shared).heap.get? s_6.heap.objs.size=some o:=⟨_,Heap.get?_push_size _ rfl⟩
 generalize ({ s_6 with heap:=s_6.heap.push { cls:=.type "set",dict:=none,data:=.set #[] 0 (.fresh 0 0 led) } }:Shared)=s7 at k7 hS7 ho7 ⊢
 revert ho7
 revert hS7
 revert k7
 revert s7
 refine id ?_
 intro s7 k7 hS7 ho7
 generalize s_6.heap.objs.size=a3 at hn7 hS7 ho7 ⊢
 revert ho7
 revert hS7
 revert hn7
 revert a3
 refine id ?_
 intro a3 hn7 hS7 ho7
 ((show let Q0:=_; wpAny _ _ _ Q0 _ _); intro Q0)
 have r7:=r6.grow k7 hn7 ho7
 refine r7.store (d:=objD a3) (jj9 hsc6 rfl) .obj λs8 c8 r8=>?_
 have hl18:IsL s8.heap a1 #[] m1:=r7.same c8 _ _ (.inl (.inl (.inr rfl))) (ja0 k7 _ _ hl16)
 have hl28:IsL s8.heap a2 #[] m2:=r7.same c8 _ _ (.inl (.inr rfl)) (ja0 k7 _ _ hl26)
 have hS8:s8.heap.SetOf (intKind c.g.prog c.g.w) a3 (λzw=>false) 0:=by
  obtain⟨o,es,ep,t,e,rr⟩:=hS7
  exact⟨o,es,ep,t,r7.same c8 _ _ (.inr rfl) e,rr⟩
 have n13:a1≠a3:=λz=>by rw [<- z,hl16] at hn7; cases hn7
 have n23:a2≠a3:=λz=>by rw [<- z,hl26] at hn7; cases hn7
 have hn2i:=Rho.is_ne (x:="seen") (d':=objD a3) (k:=0) hn2i rfl
 have hst:=Rho.is_ne (x:="seen") (d':=objD a3) (k:=0) hst rfl
 have hits:=Rho.is_ne (x:="seen") (d':=objD a3) (k:=0) hits rfl
 have hseen:=Rho.is_put (ρ:=ρ6) (x:="seen") (d:=objD a3)
 have hsc8:(ρ6.put "seen" (objD a3) 0).sc=cycN:=hsc6
 generalize ρ6.put "seen" (objD a3) 0=ρ8 at hn2i hst hits hseen r8 hsc8
 revert hsc8
 revert r8
 revert hseen
 revert hits
 revert hst
 revert hn2i
 revert ρ8
 refine id ?_
 intro ρ8 hn2i hst hits hseen r8 hsc8
 refine wpAny_execs_cons (r8.assignS rfl (wpAny_Dict_empty ?_))
 ((show let Q0:=_; wpAny _ _ _ Q0 _ _); intro Q0)
 have hn9:s8.heap.get? s8.heap.objs.size=none:=jc2 (ja3 s8)
 have hsys:=qe5 r8.act.up
 have k9:Keeps s8 { s8 with heap:=s8.heap.push { cls:=.type "dict",data:=.dict #[] } }:=ja6 s8 _ _
 have hD9:({ s8 with heap:=s8.heap.push { cls:=.type "dict",data:=.dict #[] } }:Shared).heap.DictOf (intKind c.g.prog c.g.w) s8.heap.objs.size []:=Heap.DictOf.new _
 have ho9:∃o,({ s8 with heap:=s8.heap.push { cls:=.type "dict",data:=.dict #[] } }:Shared).heap.get? s8.heap.objs.size=some o:=⟨_,Heap.get?_push_size _ rfl⟩
 generalize ({ s8 with heap:=s8.heap.push { cls:=.type "dict",data:=.dict #[] } }:Shared)=s9 at k9 hD9 ho9 ⊢
 revert ho9
 revert hD9
 revert k9
 revert s9
 refine id ?_
 intro s9 k9 hD9 ho9
 generalize s8.heap.objs.size=a4 at hn9 hD9 ho9 hsys ⊢
 revert hsys
 revert ho9
 revert hD9
 revert hn9
 revert a4
 refine id ?_
 intro a4 hn9 hD9 ho9 hsys
 have r9:=r8.grow k9 hn9 ho9
 refine r9.store (d:=objD a4) (jj9 hsc8 rfl) .obj λs_0 c_0 r_0=>?_
 have hl10:IsL s_0.heap a1 #[] m1:=r9.same c_0 _ _ (.inl (.inl (.inl (.inr rfl)))) (ja0 k9 _ _ hl18)
 have hl20:IsL s_0.heap a2 #[] m2:=r9.same c_0 _ _ (.inl (.inl (.inr rfl))) (ja0 k9 _ _ hl28)
 have hS0:s_0.heap.SetOf (intKind c.g.prog c.g.w) a3 (λzw=>false) 0:=by
  obtain⟨o,es,ep,t,e,rr⟩:=hS8
  exact⟨o,es,ep,t,r9.same c_0 _ _ (.inl (.inr rfl)) (ja0 k9 _ _ e),rr⟩
 have hD0:s_0.heap.DictOf (intKind c.g.prog c.g.w) a4 []:=by
  obtain⟨o,es,ep,e,rr⟩:=hD9
  exact⟨o,es,ep,r9.same c_0 _ _ (.inr rfl) e,rr⟩
 have n14:a1≠a4:=λz=>by rw [<- z,hl18] at hn9; cases hn9
 have n24:a2≠a4:=λz=>by rw [<- z,hl28] at hn9; cases hn9
 have n34:a3≠a4:=λz=>by
  obtain⟨o,es,ep,t,e,rr⟩:=hS8
  rw [<- z,e] at hn9; cases hn9
 have nm:CycN ⟨a1,a2,a3,a4⟩ l (ρ8.put "node2stacki" (objD a4) 0):=⟨λx=>by show ρ8.sc.lookup x=_; rw [hsc8],Rho.is_ne hn2i rfl,Rho.is_ne hst rfl,Rho.is_ne hits rfl,Rho.is_ne hseen rfl,Rho.is_put⟩
 generalize ρ8.put "node2stacki" (objD a4) 0=ρ0 at nm r_0
 revert r_0
 revert nm
 revert ρ0
 refine id ?_
 intro ρ0 nm r_0
 have w:CycW c.g l σ ⟨a1,a2,a3,a4⟩ [] [] (λb=>(((W b\/b=a1)\/b=a2)\/b=a3)\/b=a4) s_0.heap:=⟨⟨⟨#[],m1,hl10,Nat.zero_le _,.nil⟩,⟨m2,hl20⟩,⟨_,_,hS0,λzw=>rfl,Nat.le_refl _⟩,⟨[],rfl,hD0⟩,λv h=>(by cases h),hsys,λv h=>(by cases h),by
   simp [Four.all,n12,n13,n14,n23,n24,n34],Nat.zero_le _⟩,λb hb=>by
   simp only [Four.all,List.flatMap_nil,List.mem_cons,List.not_mem_nil,or_false] at hb
   rcases hb with rfl | rfl | rfl | rfl
   ·exact .inl (.inl (.inl (.inr rfl)))
   ·exact .inl (.inl (.inr rfl))
   ·exact .inl (.inr rfl)
   ·exact .inr rfl,λv h=>(by cases h),.nil⟩
 have S0:=X.now r_0
 have hX:∀b,b=l.m->(∃o,s_0.heap.get? b=some o)/\¬c.P b/\¬No b/\¬(((( W b\/b=a1)\/b=a2)\/b=a3)\/b=a4)/\¬c.Fc b:=λb hb=>by
  subst hb
  have hm:l.W l.m:=by show l.m∈l.all; simp [LayS.all]
  obtain⟨o,eo⟩:=X.S.al _ hm
  refine⟨S0.al _ hm,λz=>(by rw [r_0.np _ z] at eo; cases eo),id,λz=>?_,λz=>?_⟩
  ·rcases r_0.ww _ z with z | z
   ·exact X.w0 _ z
   ·rw [z] at eo; cases eo
  ·rcases z with z | z
   ·exact X.off _ hm z
   ·have:=r_0.nl
    rw [<- z,eo] at this; cases this
 refine wpAny_execs_cons (r_0.forX (X:=λb=>b=l.m) (items:=(σ.nodes.map (·.id)).map .int) (xs:=["node"]) rfl rfl hX (by
   rw [<- qy0 S0.len]
   exact qy2 (X:=λb=>b=l.m) (g:=c.g.now s_0 r_0.act.up) (n:=c.n) (ρ:=ρ0) (k:=0) (jb8 nm.n2i (by decide)) S0.sys S0.n2i rfl)
  (λi W ρ' s'=>∃seen,jm7 σ.succOf 200 ((σ.nodes.map (·.id)).drop i) seen=some none/\CycN ⟨a1,a2,a3,a4⟩ l ρ'/\CycW c.g l σ ⟨a1,a2,a3,a4⟩ [] seen W s'.heap/\SeenOk σ seen) (λzw zw zw=>False) (λzw zw zw zw zw=>False)
  ?_ ⟨[],hres,nm,w,⟨.nil,λzw h=>by cases h⟩⟩ ?_ ?_ ?_ (λzw zw zw zw zw zw h=>h.elim) ?_)
 ·intro i W ρ' s s' hJ k
  obtain⟨seen,h1,h2,h3,h4⟩:=hJ
  exact⟨seen,h1,h2,h3.keeps λb o hb=>k b o (.inl hb),h4⟩
 ·rintro i d W' ρ' s' hd ⟨seen,h1,h2,h3,h4⟩
  exact⟨by simpa using h2.st (x:="node") rfl,_,rfl⟩
 ·intro Z O0 t i d O' W' ρ' ρ1 s' E' hd hbd hJ r'
  ((show let Q0:=_; wpAny _ _ _ Q0 _ _); intro Q0)
  refine wp_q λQ' hQ=>?_
  obtain⟨seen,h1,h2,h3,h4⟩:=hJ
  obtain⟨x,hx,rfl⟩:∃x,(σ.nodes.map (·.id))[i]?=some x/\d=.int x:=by
   rw [List.getElem?_map,Option.map_eq_some_iff] at hd
   obtain⟨x,h,e⟩:=hd
   exact⟨x,h,e.symm⟩
  have hbd:ρ1=ρ'.put "node" (.int x) 0:=(Option.some.inj hbd).symm
  subst hbd
  have hhas:σ.has x=true:=by
   rw [List.getElem?_map,Option.map_eq_some_iff] at hx
   obtain⟨nd,h,e⟩:=hx
   exact has_iff.mpr ⟨i,nd,h,e⟩
  have hdrop:(σ.nodes.map (·.id)).drop i=x::(σ.nodes.map (·.id)).drop (i+1):=by
   obtain⟨hi,e⟩:=List.getElem?_eq_some_iff.mp hx
   rw [List.drop_eq_getElem_cons hi,e]
  obtain⟨hin,hgo⟩:=qw4 (hdrop ▸ h1)
  have nm':=h2.node (.int x)
  have hnode:(ρ'.put "node" (.int x) 0).is "node" (.int x):=Rho.is_put
  generalize ρ'.put "node" (.int x) 0=ρ1 at nm' hnode r'
  revert r'
  revert hnode
  revert nm'
  revert ρ1
  refine id ?_
  intro ρ1 nm' hnode r'
  obtain⟨SS0,n0,hS,hS1,hS2⟩:=h3.sch.set
  refine wpAny_execs_cons (wpAny_If (wpAny_isTrue_Compare1 (r'.name hnode (by decide) λv rv=>r'.nameA nm'.seen (by decide) ?_) rfl))
  obtain⟨t1,rfl⟩:=ja4 rv
  refine wpAny_inSet_of (intKind_is c.g.prog c.g.w x t1) rfl hS (wpAny_truthy_bool ?_)
  rw [hS1]
  have r_2:=r'.toks (s'.toks+1)
  cases hsn:seen.contains x with
  | true =>
   refine(if_pos rfl).mpr ?_
   exact wpAny_execs_cons (wpAny_Continue (hQ _ _ ⟨_,_,_,r_2,seen,hin hsn,nm',h3,h4⟩))
  | false =>
   refine(if_neg (by decide)).mpr ?_
   ((show let Q0:=_; wpAny _ _ _ Q0 _ _); intro Q0)
   obtain⟨rs,hgo,hno,hall⟩:=hgo hsn
   exact wpAny_execs_nil (wpAny_execs_cons (qx2 (c:=c.prot Z O0 t) (st:=[]) r_2 X.prot TK N hiter nm' h3 h4 hnode hhas hgo hno λseen' O'' W'' ρ'' s'' e r'' nm'' w'' so''=>wpAny_execs_nil (hQ _ _ ⟨_,_,_,r'',seen',hall _ e,nm'',w'',so''⟩)))
 ·intro O' W' ρ' s' hO r' hJ
  ((show let Q0:=_; wpAny _ _ _ Q0 _ _); intro Q0)
  obtain⟨seen,h1,h2,h3,h4⟩:=hJ
  rw [List.length_map,List.drop_eq_nil_of_le (Nat.le_refl _)] at h1
  exact wpAny_execs_cons (wpAny_Return_some (r'.e0 jh8 λv s_2 k_2 rv r_2=>by
   have:=jx9 rv; subst this
   exact q2 _ _ _ _ r_2))
 ·exact λzw zw zw zw zw zw zw h=>h.elim
theorem cyc_code (at_:At g (n+2) A O M l.W F s)(TK:TopoOk g.K T)(TF:TopoFn g.K T)(N:Names g)
  (hset:Callee g "set" (.type "set")) (hiter:Callee g "iter" (.builtin "iter")) (hstop:nsIn g.K mainGlobals "StopIteration"=some none)
  (S:Srt g T s.heap l σ) (hsuc:∀nd∈σ.nodes,∀x∈nd.succ,σ.has x=true) (hres:σ.cyc=some none)
  (q:∀(s':Shared),Cx No F s s'->Srt g T s'.heap l σ->R (.ok (.ret .none)) s') :
  codeAny g.M A (.call (.ref T.cyc) ⟨[.ref l.a],[]⟩) R s:=by
 obtain⟨c,fk⟩:=TF.cyc
 refine jn8 (W:=No) (ds:=[objD l.a]) (at_.sub λzw h=>h.elim) fk (.cons .obj .nil) rfl rfl rfl λenv P O' s_2 r hc hk=>?_
 have X:CycX ⟨g,n+1,A,env,P,O,M,No,F,s,No,O',s_2⟩ T l σ:=⟨S,λzw h=>h,λb hb=>at_.wf b hb,hsuc,hstop⟩
 exact cyc_body r X TK N hset hiter rfl rfl hres λO'' W'' ρ' s' r'=>q s' r'.cx (X.now r')
theorem qg0 {p p':Pos}{pl:Env->Sem Bool}{kvs:List (Int×Value)}{as:List Addr}(he:∀env,eval (.Call (.Attribute e "values" p) [] [] p') env=(do let ov <- eval e env; standAt p.atName; let (f,first) <- holding [ov] (getMethod ov "values" (pl env)); callWith p' f first (backTo p' (starEach [] env)) []))(ev:EvS g n ρ e (objD a) k)(hsys:(a==sysModules)=false)(I:g.h.DictOf (intKind g.prog g.w) a kvs)(hv:kvs.map (·.2)=as.map .ref)(hO:¬O a)(hM:¬M a) :
  ql9 g n O M ρ false (.Call (.Attribute e "values" p) [] [] p') (as.map objD):=by
 intro env A s E Q u rm aO aM eo q
 ((show let Q0:=_; wpAny _ _ _ Q0 _ _); intro Q0)
 refine MethodCall_ (ev.use u rm aO aM eo λv sa k_1 r_1 u_1 o_1 m_1 e_1=>?_) (he env)
 have:=jb0 r_1; subst this
 obtain⟨ep,D0⟩:=I.dictAt
 have D1:=D0.keep (h':=sa.heap) λb o=>u_1 b o
 refine getMethod_builtin D1.dictOf.typeIs PySem.F.plainAttrs_dict PySem.F.slot_dict_values PySem.F.type_dict_values D1.dictOf.mapOf.noDict (callWith_builtin (ja9 rfl) (ja8 rfl (wpAny_items_nil ?_)))
 refine call_meetsIn PySem.F.slot_dict_values D1.dictOf.typeIs PySem.F.entry_dict_values (PySem.F.args_dict_values_1 _) (meets_dict_values (intKind g.prog g.w) a hsys) ⟨⟨_,D1.dictOf⟩,?_⟩
 have k_2:Keeps sa { sa with heap:=sa.heap.push { cls:=.type "dict_values",data:=.fields #[.ref a] } }:=ja6 sa _ _
 have hvw:({ sa with heap:=sa.heap.push { cls:=.type "dict_values",data:=.fields #[.ref a] } }:Shared).heap.IsValuesView sa.heap.objs.size a:=⟨_,Heap.get?_push_size _ rfl,rfl,rfl⟩
 generalize ({ sa with heap:=sa.heap.push { cls:=.type "dict_values",data:=.fields #[.ref a] } }:Shared)=sb at k_2 hvw ⊢
 revert hvw
 revert k_2
 revert sb
 refine id ?_
 intro sb k_2 hvw
 generalize sa.heap.objs.size=vw at hvw ⊢
 have D2:=D1.keep (ja0 k_2)
 have k_3:Keeps sb { sb with heap:=sb.heap.push { cls:=.type "dict_valueiterator",data:=.fields #[.ref a,.int 0 0,.int kvs.length 0,.int ep 0] } }:=ja6 sb _ _
 have hne:a≠sb.heap.objs.size:=λz=>by
  have:=D2.lt_size
  rw [<- z] at this
  exact absurd this (Nat.lt_irrefl _)
 have klen:as.length=kvs.length:=by
  have:=congrArg List.length hv
  simpa using this.symm
 refine wpAny_pyIter_values hvw D2 (q _ _ (λb=>b=sb.heap.objs.size) (λi h=>h.IsValIter sb.heap.objs.size a i kvs.length ep/\h.DictAt (intKind g.prog g.w) a kvs ep) (ja1 k_1 (ja1 k_2 k_3)) ⟨⟨⟨_,Heap.get?_push_size _ rfl,rfl,rfl⟩,D2.keep (ja0 k_3)⟩,λb hb=>by subst hb; exact⟨jc2 (ja1 k_1 k_2),_,Heap.get?_push_size _ rfl⟩,λi h st b hb=>by
   subst hb
   obtain⟨o,ho,hc,hd⟩:=st.1
   exact⟨o,ho,by unfold isFS; rw [hd]⟩,λi h h' st hk=>?_,?_,?_,?_⟩)
 ·obtain⟨⟨o,ho,hr⟩,⟨od,es,hod,rr⟩⟩:=st
  have ha:∃o',(sb.heap.push { cls:=.type "dict_valueiterator",data:=.fields #[.ref a,.int 0 0,.int kvs.length 0,.int ep 0] }).get? a=some o':=by
   obtain⟨o',_,h',_⟩:=D2.keep (ja0 k_3)
   exact⟨o',h'⟩
  exact⟨⟨o,hk _ _ (o_1.keeps k_2).new (m_1.keeps k_2).new ⟨_,Heap.get?_push_size _ rfl⟩ ho,hr⟩,⟨od,es,hk _ _ hO hM ha hod,rr⟩⟩
 ·intro O' M' i d t target E' Q' wd' wd htg hd st aO' aM' q'
  ((show let Q0:=_; wpAny _ _ _ Q0 _ _); intro Q0)
  rw [List.getElem?_map,Option.map_eq_some_iff] at hd
  obtain⟨x,hx,rfl⟩:=hd
  obtain⟨⟨k',v⟩,hkv⟩:∃p,kvs[i]?=some p:=by
   have:=(List.getElem?_eq_some_iff.mp hx).1
   exact⟨_,List.getElem?_eq_getElem (by grind)⟩
  have hvx:v=.ref x:=by
   have:=congrArg (·[i]?) hv
   simp only [List.getElem?_map,hx,hkv,Option.map_some,Option.some.injEq] at this
   exact this
  subst hvx
  refine wpAny_pyNext_values_item st.1 st.2 hkv λh' hit' hs'=>⟨_,rfl,?_⟩
  exact jd5 htg (q' _ { t with heap:=h' } ⟨⟨h',t.toks,rfl⟩,λb o hb e=>hs'.extBut b o hb e⟩ .obj ⟨hit',st.2.extBut hs'.extBut hne⟩)
 ·intro t E' Q' st q'
  exact wpAny_pyNext_values_end rm.handled st.1 st.2 (by simp [klen]) λh' he'=>q' _ ⟨⟨h',t.toks,rfl⟩,λb o hb e=>he' b o hb e⟩
 ·intro t E' Q' st q'
  exact wpAny_pyIter_valiter st.1 q'
theorem ev_nid {a:NdA}{nd:Nd}{p p':Pos}(N:NodeAt T g.h a nd)(TK:TopoOk g.K T)(hv:ρ.is x (objD a.info))(hd:(x==("__debug__":Str))=false):EvS g n ρ (.Attribute (.Name x p) "node" p') (.int nd.id) k:=λO M env A s E u rm aO aM eo =>
 Attribute_Name_ ((jb8 hv hd).use u rm aO aM eo λv s_1 k_1 r_1 u_1 o_1 m_1 e_1=>by
  have:=jb0 r_1; subst this
  exact get_node (N.keeps λb o zw=>u_1 b o) (g.X.keeps u_1) TK λt=>⟨ja1 k_1 (ja5 _ _),.int⟩)
theorem qx9:∀{ns:List NdA} {nodes:List Nd},ns.length=nodes.length->(jf2 ns nodes).map (·.2)=(ns.map (·.info)).map .ref:=by
 intro ns
 induction ns with
 | nil=>intro nodes h; cases nodes with
  | nil=>rfl
  | cons _ _=>simp at h
 | cons a ns ih=>intro nodes h; cases nodes with
  | nil=>simp at h
  | cons nd nodes =>
   have:=ih (nodes:=nodes) (by simpa using h)
   unfold jf2 at this ⊢
   simp only [List.zipWith_cons_cons,List.map_cons] at this ⊢
   rw [this]
noncomputable def jr2 (σ:SS):List (List D):=σ.nodes.map λnd=>if nd.np==0 then [.int nd.id] else []
theorem jr1 (σ:SS):(jr2 σ).flatten=σ.roots.map .int:=by
 unfold jr2 SS.roots
 induction σ.nodes with
 | nil=>rfl
 | cons nd ns ih =>
  simp only [List.map_cons,List.flatten_cons,List.filter_cons,ih]
  split <;> simp
theorem ud3 (σ:SS):σ.roots.length<=σ.nodes.length:=by
 unfold SS.roots
 rw [List.length_map]
 exact List.length_filter_le _ _
theorem qe9 {xs:List Int}(x:Rd O M h k v (.list (xs.map .int))):∃a,v=.ref a/\Ints h a xs/\¬O a:=by
 obtain⟨a,vs,m,rfl,h1,h2,h3,h4,h5⟩:=jc5 x
 obtain⟨ys,e1,e2⟩:=jf5 h3
 exact⟨a,rfl,⟨vs,m,h2,h1,by rw [e1,<- e2]; exact jd2 ys⟩,h4⟩
theorem Run.roots {W:Avoid}{scope:Scope}{cp p1 p2 p3 p4 p5 p6 p7 p8 p9 p10 p11:Pos}{pl:Env->Sem Bool}(r:Run c O M W ρ s)(S:Srt c.g T s.heap l σ)(TK:TopoOk c.g.K T)(hself:ρ.is "self" (objD l.a))
  (he:∀env,eval (.Call (.Attribute (.Attribute (.Name "self" p1) "_node2info" p2) "values" p3) [] [] p4) env=(do let ov <- eval (.Attribute (.Name "self" p1) "_node2info" p2) env; standAt p3.atName; let (f,first) <- holding [ov] (getMethod ov "values" (pl env)); callWith p4 f first (backTo p4 (starEach [] env)) []))
  (hk:scope.kind=.function) (hn:scope.names.all (λp=>p.2 != .free && scope.names.lookup p.1==some p.2)=true) (hi:jd8 scope.names ["i"]=true)
  (q:∀z s',Keeps s s'->s.heap.get? z=none->Ints s'.heap z σ.roots->Run c O M W ρ s'->Q (.ref z) s') :
  wpAny c.g.M c.Ar (eval (.ListComp (.Attribute (.Name "i" p5) "node" p6) [⟨.Name "i" p7,.Call (.Attribute (.Attribute (.Name "self" p1) "_node2info" p2) "values" p3) [] [] p4,[.Compare (.Attribute (.Name "i" p8) "npredecessors" p9) [.Eq] [.Constant (.int 0) 0 p10] p11],0⟩] scope cp) c.env) Q E s:=by
 rw [eval_ListComp]
 let g':=c.g.now s r.act.up
 let O1:Avoid:=λb=>(∃o,s.heap.get? b=some o)/\b≠l.m
 let ρ1:Rho:=⟨ρ.sc,[("self",objD l.a,0)]⟩
 have eo1:EnvOk O1 No ρ1 c.env s.heap:=by
  refine⟨r.act.eo.kind,r.act.eo.gl,r.act.eo.bl,r.act.eo.sc,r.act.eo.apart,λx d k hx=>?_⟩
  by_cases e:x="self"
  ·subst e
   have:(d,k)=(objD l.a,0):=(Option.some.inj hx).symm
   cases this
   obtain⟨v,h1,h2,h3⟩:=r.act.eo.vars "self" _ _ hself
   have:=jb0 h2; subst this
   exact⟨_,h1,.obj,λz=>absurd rfl z⟩
  ·have:ρ1.vars.lookup x=none:=by
    show([("self",objD l.a,0)]:List (Str×D×Nat)).lookup x=none
    have:(x==("self":Str))=false:=by simpa using e
    simp [List.lookup,this]
   rw [this] at hx; cases hx
 have S':Srt g' T s.heap l σ:=S.now _
 have ok:jf1 ρ1 scope.names=true:=by
  unfold jf1
  rw [List.all_eq_true] at hn ⊢
  intro p hp
  have:=hn p hp
  rw [Bool.and_eq_true] at this ⊢
  exact⟨this.2,by rw [this.1]; rfl⟩
 have nofree:∀x,(ρ1.inner scope.names).vars.lookup x=none:=λx=>by
  show(ρ1.vars.filter λp=>scope.names.lookup p.1==some .free).lookup x=none
  rw [jf7 (λy=>scope.names.lookup y==some .free)]
  have:¬(scope.names.lookup x=some .free):=λh=>by
   rw [List.all_eq_true] at hn
   have hm:∃y,(y,NameKind.free)∈scope.names:=by
    clear hn hi ok he
    generalize scope.names=ns at h
    induction ns with
    | nil=>cases h
    | cons p ns ih =>
     obtain⟨y,kd⟩:=p
     rw [List.lookup_cons] at h
     split at h
     ·cases h; exact⟨y,by simp⟩
     ·obtain⟨y',h'⟩:=ih h
      exact⟨y',by simp [h']⟩
   obtain⟨y,hm⟩:=hm
   have:=hn _ hm
   simp at this
  have h2:(scope.names.lookup x==some NameKind.free)=false:=by simpa using this
  rw [h2]; rfl
 refine ji5 (g:=g') (n:=c.n) (use:=none) (ρ:=ρ1) (O:=O1) (M:=No) (tt:=false) (items:=(l.ns.map (·.info)).map objD) (outs:=jr2 σ) (xs:=["i"]) r.rm (λit Z env'=>jq7 ..) (jd3 rfl c.env) hk ok
  (qg0 (k:=0) (pl:=pl) he (qt5 S' TK rfl (by decide)) S'.sys S'.n2i (qx9 S'.len) (λz=>z.2 rfl) id) ⟨_,_,rfl⟩ rfl hi (by simp [jr2,S'.len]) (λO' P env' Z pl i d out h1 h2=>?_) (by
   rw [jr1,List.length_map]
   have:=ud3 σ
   have:=S.big
   have:cap=100000:=rfl
   grind) (Glob.now_up _) (λb h=>h.1) (λzw h=>h.elim) eo1 λZ C t' m k hm hC rd=>?_
 ·refine LastS.item ?_ r.rm pl
  rw [List.map_map,List.getElem?_map,Option.map_eq_some_iff] at h1
  obtain⟨a,ha,rfl⟩:=h1
  unfold jr2 at h2
  rw [List.getElem?_map,Option.map_eq_some_iff] at h2
  obtain⟨nd,hnd,rfl⟩:=h2
  have N:=S'.nds i a nd ha hnd
  have hv:((ρ1.inner scope.names).set "i" (objD a.info) 0).is "i" (objD a.info):=by
   show List.lookup _ _=_
   simp [Rho.set]
  refine⟨_,(nd.np==0),rfl,uh3 (jl2 (ka:=0) (kb:=0) (ev_np N TK hv (by decide)) jn6 ju2 rfl),?_⟩
  cases hb:(nd.np==0) with
  | true=>exact .inl ⟨rfl,_,by simp,ev_nid N TK hv (by decide)⟩
  | false=>exact .inr ⟨rfl,by simp⟩
 ·rw [jr1] at rd
  refine⟨m,hm,λh' hs'=>?_⟩
  have rd':=rd.seqs λb c vs q e=>hs'.extBut b _ (jj0 hm e) e
  obtain⟨z,hz,hI,hO⟩:=qe9 rd'
  have hz:Z=z:=by cases hz; rfl
  subst hz
  have kk:=jl0 k hC hs'
  refine q Z _ kk ?_ hI (r.keeps kk)
  cases hz:s.heap.get? Z with
  | none=>rfl
  | some o =>
   have hzm:Z=l.m:=Classical.byContradiction λe=>hO ⟨⟨o,hz⟩,e⟩
   obtain⟨o',es,ep,h1,h2,h3,_⟩:=S.n2i
   obtain⟨vs,n',i1,_⟩:=hI
   have:=ja0 kk _ _ h1
   rw [<- hzm,i1] at this
   cases this
   cases h3
theorem ud8 (at_:At g (n+4) A O M l.W F s)(TK:TopoOk g.K T)(TF:TopoFn g.K T)(N:Names g)
  (hset:Callee g "set" (.type "set")) (hiter:Callee g "iter" (.builtin "iter")) (hstop:nsIn g.K mainGlobals "StopIteration"=some none)
  (S:Srt g T s.heap l σ) (hr:l.rd=[]) (hsuc:∀nd∈σ.nodes,∀x∈nd.succ,σ.has x=true) (hres:σ.cyc=some none)
  (q:∀(s':Shared) r,Eff l.W F s ({ l with rd:=[r] }:LayS).W s'->Srt g T s'.heap { l with rd:=[r] } { σ with ready:=some σ.roots }->R (.ok (.ret .none)) s') :
  codeAny g.M A (.call (.ref T.prep) ⟨[.ref l.a],[]⟩) R s:=by
 obtain⟨c,fk⟩:=TF.prep
 refine jn8 (ds:=[objD l.a]) at_ fk (.cons .obj .nil) rfl rfl rfl λenv P O' s_2 r hc hk=>?_
 revert r
 (show let c:Fx:=_; Run c _ _ _ _ _->_)
 intro c r
 ((show let Q0:=_; wpAny _ _ _ Q0 _ _); intro Q0)
 conv in (mOf _ _).1=>whnf
 have S2:Srt g T s_2.heap l σ:=S.keeps λb o zw=>hk b o
 refine wpAny_execs_cons (wpAny_If (wpAny_isTrue_Compare1 (Attribute_Name_ (r.name (d:=objD l.a) (k:=0) rfl (by decide) λv rv=>?_)) rfl))
 have:=jb0 rv; subst this
 refine qp2 S2 r.now TK ?_
 rw [hr]
 have r:=r.toks (s_2.toks+1)
 refine r.e0 jh8 λv' s_3 k_3 rv' r=>jh1 (g:=g) (n:=n) O' No _ s_3 _ _ _ _ (r.rm.le (by show n<=n+3; (exact Nat.le_add_right _ _))) (Rd.none (k:=0)) rv' (wpAny_truthy_bool ?_)
 refine wpAny_execs_nil ?_
 ((show let Q0:=_; let E0:=_; wpAny _ _ _ Q0 E0 _); intro Q0 E0)
 have S3:Srt g T s_3.heap l σ:=S2.keeps λb o zw=>ja0 k_3 b o
 refine wpAny_execs_cons (plainObj_wpAny_Assign_Attribute (r.roots (T:=T) (l:=l) (σ:=σ) (pl:=λenv=>_) S3 TK rfl (λzw=>rfl) rfl (by decide) (by decide) λz s_4 k_4 hz hI r_4=>r_4.name (d:=objD l.a) (k:=0) rfl (by decide) λv rv=>?_) rfl)
 ((show let Q0:=_; wpAny _ _ _ Q0 _ _); intro Q0)
 have:=jb0 rv; subst this
 have S4:Srt g T s_4.heap l σ:=S3.keeps λb o zw=>ja0 k_4 b o
 have hzl:z∉l.all:=λh=>by
  obtain⟨o,e⟩:=S3.al z h
  rw [hz] at e; cases e
 refine set_rdy S4 r_4.now TK hr hI hzl λs_5 cx5 S5=>?_
 have hW:∀b,l.W b->({ l with rd:=[z] }:LayS).W b:=λb hb=>by
  show b∈({ l with rd:=[z] }:LayS).all
  have hb:b∈l.all:=hb
  unfold LayS.all at hb ⊢
  rw [hr] at hb
  simp only [List.nil_append,List.mem_cons,List.mem_append,List.not_mem_nil,or_false] at hb ⊢
  rcases hb with hb | hb | hb | hb
  ·exact .inl hb
  ·exact .inr (.inl hb)
  ·exact .inr (.inr (.inl hb))
  ·exact .inr (.inr (.inr (.inr hb)))
 have hW':∀b,({ l with rd:=[z] }:LayS).W b->l.W b\/b=z:=λb hb=>by
  have hb:b∈({ l with rd:=[z] }:LayS).all:=hb
  show b∈l.all\/b=z
  unfold LayS.all at hb ⊢
  rw [hr]
  simp only [List.nil_append,List.mem_cons,List.mem_append,List.not_mem_nil,or_false] at hb ⊢
  rcases hb with hb | hb | hb | hb | hb
  ·exact .inl (.inl hb)
  ·exact .inl (.inr (.inl hb))
  ·exact .inl (.inr (.inr (.inl hb)))
  ·exact .inr hb
  ·exact .inl (.inr (.inr (.inr hb)))
 have cx45:Cx l.W No s_3 s_5:=Cx.step (W:=l.W) (F:=No) (.of_keeps k_4) cx5 (λzw h=>.inl h) (λzw h=>.inl h)
 have r_5:=r.eff (W':=({ l with rd:=[z] }:LayS).W) (cx45.mono (λzw h=>h) No.le) hW (λb hb=>by
  rcases hW' b hb with h | h
  ·exact .inl h
  ·subst h; exact .inr hz) S5.al
 generalize hl':({ l with rd:=[z] }:LayS)=l' at S5 r_5 hW
 revert hW
 revert r_5
 revert S5
 revert hl'
 revert l'
 refine id ?_
 intro l' hl' S5 r_5 hW
 ((show let Q0:=_; let E0:=_; wpAny _ _ _ Q0 E0 _); intro Q0 E0)
 have ela:l.a=l'.a:=by rw [<- hl']
 refine wpAny_execs_cons (r_5.assignS rfl (MethodCall_ (r_5.name (d:=objD l.a) (k:=0) rfl (by decide) λv rv=>?_)))
 ((show let Q0:=_; wpAny _ _ _ Q0 _ _); intro Q0)
 have:=jb0 rv; subst this
 rw [ela]
 refine jt7 S5 r_5.now TK TK.mcyc (by decide) (callWith_K0 r_5.now TK.mcyc.keep ?_)
 ((show let Q0:=_; wpAny _ _ _ Q0 _ _); intro Q0)
 refine wpAny_call (cyc_code (n:=n) (σ:={ σ with ready:=some σ.roots }) (r_5.at.le (by show n+2<=n+3; (simp +arith))) TK TF N hset hiter hstop S5 hsuc hres λs_6 cx6 S6=>?_)
 have r6:=r_5.eff (W':=l'.W) (cx6.mono (λzw h=>h.elim) (λzw h=>h)) (λzw h=>h) (λzw h=>.inl h) S6.al
 refine r6.store (d:=.none) rfl .none λs7 c7 r7=>?_
 ((show let Q0:=_; wpAny _ _ _ Q0 _ _); intro Q0)
 have S7:Srt g T s7.heap l' { σ with ready:=some σ.roots }:=S6.keeps (r6.same c7)
 refine wpAny_execs_cons (wpAny_If (r7.test (jt0 (d:=.none) (k:=0) (jb8 rfl (by decide)) rfl rfl) λs8 k8 r8=>?_))
 refine wpAny_execs_nil (wpAny_execs_nil ?_)
 subst hl'
 exact q s8 z (r8.eff_out hW) (S7.keeps λb o zw=>ja0 k8 b o)
set_option backward.match.sparseCases false
noncomputable def qj3:D->Bool
 | .list _=>true
 | .int _=>true
 | _=>false
theorem init_is {m:Addr}{om:Obj}(hd:qj3 d=true)(rv:Rd O M s.heap 0 v d)(hm:s.heap.get? m=some om)(hc:om.cls=.type "object")
  (q:Q (.bool false) s):wpAny g.M A (compareOp .Is v (.ref m)) Q E s:=by
 cases d with
 | list ds =>
  obtain⟨a,vs,n,rfl,h1,h2,h3,h4,h5⟩:=jc5 rv
  refine wpAny_is_ref_other (λz=>?_) h2 hm (by simp) q
  have h2:s.heap.get? a=_:=h2
  rw [z,hm] at h2
  have h2:=Option.some.inj h2
  rw [h2] at hc
  simp at hc
 | int i =>
  obtain⟨t,rfl⟩:=ja4 rv
  exact wpAny_is_other rfl (λz=>by cases z) q
 | _=>first | exact no hd | exact nb hd | cases hd
theorem Run.lose {W X:Avoid}(r:Run c O M W ρ s)(hX:∀b,X b->W b)(hs:∀b,X b->c.s.heap.get? b=none)(hz:∀b,X b->c.zs.heap.get? b=none)(hzO:∀b,c.zO b->∃o,c.zs.heap.get? b=some o)(hcO:∀b,c.O b\/c.M b\/c.W b\/c.F b->∃o,c.s.heap.get? b=some o)
  (ch:Chg X s s') (kd:∀b,X b->∃o,s.heap.get? b=some o/\isFS o=true):Run c (λb=>O b/\¬X b) M (λb=>W b/\¬X b) ρ s':=by
 have old:∀b,(∃o,c.s.heap.get? b=some o)->¬X b:=λb ⟨o,e⟩ z=>by rw [hs b z] at e; cases e
 have gX:∀b o,c.g.h.get? b=some o->¬X b:=λb o e=>old b ⟨o,r.u0 b o e⟩
 have lv:∀b,¬X b->(∃o,s.heap.get? b=some o)->∃o,s'.heap.get? b=some o:=λb h ⟨o,e⟩=>⟨o,ch.2 b o h e⟩
 have lX:¬X c.env.locals:=λz=>(r.wp _ (hX _ z)).e.1 rfl
 have pX:∀b,c.P b->¬X b:=λb hb z=>(r.wp _ (hX _ z)).p hb
 have mX:∀b,M b->¬X b:=λb hb z=>(r.wp _ (hX _ z)).m hb
 exact { r with
  act:=⟨ch.up r.act.up gX,λb hb=>lv b hb.2 (r.act.aO b hb.1),λb hb=>lv b (mX b hb) (r.act.aM b hb),(r.act.eo.chgW ch (λb h=>r.wo b (hX b h)) kd).impO λb h=>h.1,r.act.fo.chgW ch kd⟩
  pl:=⟨r.pl.store,λb h=>⟨r.pl.po b h,pX b h⟩,r.pl.pg,r.pl.live⟩
  aw:=λb hb=>lv b (old b (hcO b (.inr (.inr (.inl hb))))) (r.aw b hb)
  ca:=λy b h=>lv b (λz=>(r.wp _ (hX _ z)).e.2 y b h rfl) (r.ca y b h)
  frm:=r.frm.cx (W:=X) (F':=No) (.of_chg ch) (λb hb z=>old b (hcO b (.inr (.inr (.inr z)))) hb)
  cx:=r.cx.step (W:=X) (F:=No) (.of_chg ch) (λb hb=>.inr (hs b hb)) (λzw h=>h.elim)
  oo:=λb h=>⟨r.oo b h,old b (by
   rcases h with h | h | h
   ·exact hcO b (.inl h)
   ·exact hcO b (.inr (.inl h))
   ·exact hcO b (.inr (.inr (.inr h))))⟩
  on:=λb h=>r.on b h.1
  lo:=⟨r.lo,lX⟩
  nf:=λb hb z=>r.nf b hb z.1
  wo:=λb h=>⟨r.wo b h.1,h.2⟩
  ww:=λb h=>r.ww b h.1
  wp:=λb h=>r.wp b h.1
  zk:=λb o hb e=>ch.2 b o (λz=>by rw [hz b z] at e; cases e) (r.zk b o hb e)
  zo:=λb hb=>let z:=r.zo b hb; ⟨z.1,z.2.1,z.2.2.1,λh=>z.2.2.2.1 h.1,z.2.2.2.2⟩
  zx:=λb h=>lv b (λz=>by obtain⟨o,e⟩:=h; rw [hz b z] at e; cases e) (r.zx b h)
  oz:=λb h=>r.oz b h.1
  ou:=λb h=>⟨r.ou b h,λz=>by obtain⟨o,e⟩:=hzO b h; rw [hz b z] at e; cases e⟩ }
structure RedFn (K:Frag) (f miss:Addr) (code:Value):Prop where
 fn:FnD K f (fnOf "reduce").1 (fnOf "reduce").2.1 ["function","sequence","initial"] 3 [] code
 ns:nsIn K mainGlobals "_initial_missing"=some (some (.ref miss))
 obj:∃om,K.lookup miss=some om/\om.cls=.type "object"
theorem or_self {W:Avoid}(h:∀b,W b->O b):(λb=>O b\/W b)=O:=funext λb=>propext ⟨λz=>z.elim id (h b),.inl⟩
theorem qn2 {f red miss:Addr}{code vseq v0:Value}{items:List D}{d0:D}{acc:Nat->D}(at_:At g (n+1) A O M No F s)(rf:RedFn g.K red miss code)(hiter:Callee g "iter" (.builtin "iter"))
  (rs:Rd O M s.heap 0 vseq (.list items)) (r0:Rd O M s.heap 0 v0 d0) (hd:qj3 d0=true) (Lean:Heap->Prop) (hkeep:∀s',Cx No F s s'->Lean s'.heap) (hfn:∀h,Lean h->FnAt f h) (h0:acc 0=d0)
  (hstep:∀(i:Nat) e (O':Avoid) A' s' E' v1 v2,items[i]?=some e->Lean s'.heap->g.Up s'->Room n A'->Alloc O' s'->(∀b,O' b->O b\/M b\/s.heap.get? b=none)->Rd O' No s'.heap 0 v1 (acc i)->Rd O' No s'.heap 0 v2 e->wpAny g.M A' (call (.ref f) [v1,v2]) (λv s''=>Keeps s' s''/\Rd O' No s''.heap 0 v (acc (i+1))) E' s')
  (q:∀v s',Cx No F s s'->Rd O M s'.heap 0 v (acc items.length)->R (.ok (.ret v)) s') :
  codeAny g.M A (.call (.ref red) ⟨[.ref f,vseq,v0],[]⟩) R s:=by
 obtain⟨om,ho,hoc⟩:=rf.obj
 refine uk8 (ds:=[objD f,.list items,d0]) (es:=[]) at_ rf.fn (.cons .obj (.cons rs (.cons r0 .nil))) .nil rfl rfl rfl λenv P O' s_2 r hc hk=>?_
 revert r
 (show let c:Fx:=_; Run c _ _ _ _ _->_)
 intro c r
 ((show let Q0:=_; wpAny _ _ _ Q0 _ _); intro Q0)
 generalize hρ:((((⟨(fnOf "reduce").2.1,[]⟩:Rho).put "function" (objD f) 0).put "sequence" (.list items) 0).put "initial" d0 0)=ρ at r
 revert r
 revert hρ
 revert ρ
 refine id ?_
 intro ρ hρ r
 ((show let Q0:=_; let E0:=_; wpAny _ _ _ Q0 E0 _); intro Q0 E0)
 have hsc:ρ.sc=(fnOf "reduce").2.1:=by rw [<- hρ]; rfl
 have hf:ρ.is "function" (objD f):=by rw [<- hρ]; rfl
 have hs:ρ.is "sequence" (.list items):=by rw [<- hρ]; rfl
 have hi:ρ.is "initial" d0:=by rw [<- hρ]; rfl
 clear hρ
 conv in (fnOf _).1=>whnf
 cases hiter with
 | bt b1 b2 b3 =>
 refine wpAny_execs_cons (r.assignS rfl (Call_ (jb7 r.act.up r.act.eo (by rw [hsc]; rfl) b1 b2 b3 (by decide) (callWith_builtin (ja9 rfl) (ja8 rfl (wpAny_items_cons (r.name hs (by decide) λv rv=>wpAny_items_nil ?_) rfl))))))
 obtain⟨a,vs,m,rfl,l1,l2,l3,l4,l5⟩:=jc5 rv
 refine ql5 (g:=g) l2 ?_
 ((show let Q0:=_; let E0:=_; wpAny _ _ _ Q0 E0 _); intro Q0 E0)
 have k_3:Keeps s_2 { s_2 with heap:=s_2.heap.push (jh5 a 0) }:=ja6 s_2 _ _
 have hn3:s_2.heap.get? s_2.heap.objs.size=none:=jc2 (ja3 s_2)
 have hi3:({ s_2 with heap:=s_2.heap.push (jh5 a 0) }:Shared).heap.get? s_2.heap.objs.size=some (jh5 a 0):=Heap.get?_push_size _ rfl
 generalize ({ s_2 with heap:=s_2.heap.push (jh5 a 0) }:Shared)=s_3 at k_3 hi3 ⊢
 revert hi3
 revert k_3
 revert s_3
 refine id ?_
 intro s_3 k_3 hi3
 ((show let Q0:=_; let E0:=_; wpAny _ _ _ Q0 E0 _); intro Q0 E0)
 generalize s_2.heap.objs.size=it at hn3 hi3 ⊢
 revert hi3
 revert hn3
 revert it
 refine id ?_
 intro it hn3 hi3
 ((show let Q0:=_; wpAny _ _ _ Q0 _ _); intro Q0)
 have r_3:=r.grow k_3 hn3 ⟨_,hi3⟩
 have hWO:∀b,(No b\/b=it)->(O' b\/(No b\/b=it)):=λb h=>.inr h
 have nn:∀b,(s_2.heap.get? b).isSome=true->¬O' b->¬(O' b\/(No b\/b=it)):=λb hb h z=>by
  rcases z with z | z | z
  ·exact h z
  ·exact z
  ·rw [z,hn3] at hb; cases hb
 have l3:Rds (λb=>O' b\/(No b\/b=it)) No s_3.heap 0 vs.toList items:=(l3.imp nn (λzw zw zw h=>h) (Nat.zero_le _)).keeps (ja0 k_3)
 have l4:¬(O' a\/(No a\/a=it)):=nn a (by rw [show s_2.heap.get? a=_ from l2]; rfl) l4
 have l2:IsL s_3.heap a vs m:=ja0 k_3 _ _ l2
 obtain⟨O3,hO3⟩:∃O3:Avoid,O3=λb=>O' b\/(No b\/b=it):=⟨_,rfl⟩
 have l4:¬O3 a:=by rw [hO3]; exact l4
 rw [<- hO3] at r_3 l3
 have off:∀{t t':Shared},Chg (PM P No) t t'->∀b o,¬O3 b->t.heap.get? b=some o->t'.heap.get? b=some o:=λch b o hb e=>ch.2 b o (λz=>hb (by
  rcases z with z | z
  ·exact r_3.pl.po b z
  ·exact z.elim)) e
 refine r_3.store (d:=objD it) (jj9 hsc rfl) .obj λs_4 c_4 r_4=>?_
 ((show let Q0:=_; wpAny _ _ _ Q0 _ _); intro Q0)
 have hi4:s_4.heap.get? it=some (jh5 a 0):=r_3.same c_4 _ _ (.inr rfl) hi3
 have l3:=l3.off (off c_4)
 have l2:IsL s_4.heap a vs m:=off c_4 _ _ l4 l2
 have hf:=Rho.is_ne (x:="it") (d':=objD it) (k:=0) hf rfl
 have hi:=Rho.is_ne (x:="it") (d':=objD it) (k:=0) hi rfl
 have hit:=Rho.is_put (ρ:=ρ) (x:="it") (d:=objD it)
 have hsc:(ρ.put "it" (objD it) 0).sc=(fnOf "reduce").2.1:=hsc
 generalize ρ.put "it" (objD it) 0=ρ4 at hf hi hit hsc r_4
 revert r_4
 revert hsc
 revert hit
 revert hi
 revert hf
 revert ρ4
 refine id ?_
 intro ρ4 hf hi hit hsc r_4
 refine wpAny_execs_cons (wpAny_If (wpAny_isTrue_Compare1 (r_4.name hi (by decide) λv rv=>je8 r_4.act.up r_4.act.eo (by rw [hsc]; rfl) rf.ns (by decide) (init_is (g:=g) hd rv (r_4.now _ _ ho) hoc (wpAny_truthy_bool ?_))) rfl))
 refine wpAny_execs_cons (r_4.assignS rfl (r_4.name hi (by decide) λv rv=>r_4.store (jj9 hsc rfl) rv λs_5 c5 r_5=>wpAny_execs_nil ?_))
 ((show let Q0:=_; let E0:=_; wpAny _ _ _ Q0 E0 _); intro Q0 E0)
 have hi5:s_5.heap.get? it=some (jh5 a 0):=r_4.same c5 _ _ (.inr rfl) hi4
 have l3:=l3.off (off c5)
 have l2:IsL s_5.heap a vs m:=off c5 _ _ l4 l2
 have hf:=Rho.is_ne (x:="value") (d':=d0) (k:=0) hf rfl
 have hit:=Rho.is_ne (x:="value") (d':=d0) (k:=0) hit rfl
 have hv:=Rho.is_put (ρ:=ρ4) (x:="value") (d:=d0)
 have hsc:(ρ4.put "value" d0 0).sc=(fnOf "reduce").2.1:=hsc
 generalize ρ4.put "value" d0 0=ρ5 at hf hit hv hsc r_5
 rw [<- h0] at hv
 have ll:=l3.length
 rw [Array.length_toList] at ll
 refine wpAny_execs_cons (wpAny_For ?_ (jd3 rfl env))
 refine r_5.nameA hit (by decide) (wpAny_pyIter_listiter (i:=0) ⟨_,hi5,rfl,rfl⟩ ?_)
 let c:Fx:=⟨g,n,A,env,P,O,M,No,F,s,No,O',s_2⟩
 refine codeAny_forLoop_any (prog:=g.prog) (w:=g.w) (λk t=>∃i ρ',k=items.length+1 - i/\i<=items.length/\t.heap.IsListIter it a i/\IsL t.heap a vs m/\Rds O3 No t.heap 0 vs.toList items/\Run c O3 No (λb=>No b\/b=it) ρ' t/\ρ'.is "function" (objD f)/\ρ'.is "value" (acc i)/\ρ'.sc=(fnOf "reduce").2.1) ?_ (items.length+1)
  ⟨0,ρ5,rfl,Nat.zero_le _,⟨_,hi5,rfl,rfl⟩,l2,l3,r_5,hf,hv,hsc⟩
 clear hv hf hsc hit r_5 r_4 r_3 l2 l3 hi5
 intro k t hinv
 ((show let Q0:=_; let E0:=_; wpAny _ _ _ Q0 E0 _); intro Q0 E0)
 refine wp_q λQ_0 hQ0=>?_
 obtain⟨i,ρ',rfl,hle,ht,l2,l3,r',hf,hv,hsc⟩:=hinv
 have hne:a≠it:=λz=>l4 (by rw [z]; exact r'.wo _ (.inr rfl))
 by_cases hlt:i < items.length
 ·have hd:items[i]?=some items[i]:=List.getElem?_eq_getElem hlt
  obtain⟨v,hvv,hrv⟩:=l3.get hd
  refine wpAny_pyNext_list_item ht (IsL.isList l2) (by rw [<- Array.getElem?_toList]; exact hvv) λh_1 hit1 hs1=>hQ0 _ _ (jd5 (g:=g) ⟨_,_,rfl⟩ ?_)
  have o_1:∀b o,¬O3 b->t.heap.get? b=some o->h_1.get? b=some o:=λb o hb e=>(hs1.2 b λz=>hb (by rw [z]; exact r'.wo _ (.inr rfl))).trans e
  have r_1:Run c O3 No (λb=>No b\/b=it) ρ' { t with heap:=h_1 } :=
   jk1 (tk:=t.toks) r' hs1 (.inr rfl) (by obtain⟨o,e,_⟩:=hit1; exact⟨o,e⟩)
  refine r_1.assign (d:=items[i]) (jj9 hsc rfl) (hrv.off o_1) λs_2' c_2 r_2=>?_
  ((show let Q0:=_; wpAny _ _ _ Q0 _ _); intro Q0)
  refine wp_q λQs hQs=>?_
  have hf:=Rho.is_ne (x:="element") (d':=items[i]) (k:=0) hf rfl
  have hv:=Rho.is_ne (x:="element") (d':=items[i]) (k:=0) hv rfl
  have he:=Rho.is_put (ρ:=ρ') (x:="element") (d:=items[i])
  have hsc:(ρ'.put "element" items[i] 0).sc=(fnOf "reduce").2.1:=hsc
  generalize ρ'.put "element" items[i] 0=ρ2 at hf hv he hsc r_2
  have Ln:=hkeep s_2' r_2.cx
  refine wpAny_execs_cons (r_2.assignS rfl (Call_ (r_2.nameA hf (by decide) (callWith_F (hfn _ Ln) (wpAny_items_cons (r_2.name hv (by decide) λv1 rv1=>wpAny_items_cons (r_2.name he (by decide) λv2 rv2=>wpAny_items_nil ⟨hfn _ Ln,?_⟩) rfl) rfl)))))
  refine wpAny_mono (hstep i _ O3 _ _ _ v1 v2 hd Ln r_2.act.up r_2.rm r_2.act.aO r_2.on rv1 rv2) (λv s3' h=>?_) λzw zw z=>z
  obtain⟨k3',rv3⟩:=h
  have r_3:=r_2.keeps k3'
  refine r_3.store (jj9 hsc rfl) rv3 λs_4' c4' r_4=>wpAny_execs_nil ?_
  have thr:∀b o,¬O3 b->t.heap.get? b=some o->s_4'.heap.get? b=some o:=λb o hb e=>off c4' b o hb (ja0 k3' _ _ (off c_2 b o hb (o_1 b o hb e)))
  refine hQs _ _ ⟨items.length+1 - (i+1),by grind,i+1,_,rfl,by assumption,?_,thr _ _ l4 l2,l3.off thr,r_4,Rho.is_ne hf rfl,Rho.is_put,hsc⟩
  obtain⟨o,e,rr⟩:=hit1
  exact⟨o,r_3.same c4' _ _ (.inr rfl) (ja0 k3' _ _ (r_1.same c_2 _ _ (.inr rfl) e)),rr⟩
 ·have hie:i=items.length:=by grind
  subst hie
  refine wpAny_pyNext_list_end r'.rm.handled ht (IsL.isList l2) (by simp [ll]) λh_1 he1=>hQ0 _ _ (wpAny_execs_nil ?_)
  have hs0:s.heap.get? it=none:=by
   cases e:s.heap.get? it with
   | none=>rfl
   | some o=>rw [hk _ _ e] at hn3; cases hn3
  have r_1:=r'.lose (X:=λb=>b=it) (s':={ t with heap:=h_1 }) (λb h=>.inr h) (λb h=>by rw [h]; exact hs0) (λb h=>by rw [h]; exact hn3) (λb h=>r.act.aO b h) (λb h=>by
   rcases h with h | h | h | h
   ·exact at_.aO b h
   ·exact at_.aM b h
   ·exact h.elim
   ·exact at_.aF b h) ⟨⟨h_1,t.toks,rfl⟩,λb o hb e=>he1 b o hb e⟩ (λb h=>by
    rw [h]
    obtain⟨o,e,h1,h2⟩:=ht
    exact⟨o,e,by unfold isFS; rw [h2]⟩)
  refine wpAny_execs_cons (wpAny_Return_some (r_1.name hv (by decide) λv rv=>?_))
  exact q v _ r_1.cx ((r_1.rd_out rv).imp (λb zw h z=>h (Or.inl z)) (λb zw zw h z=>h z) (Nat.le_refl _))
set_option backward.match.sparseCases true
structure Nest (h:Heap) (a:Addr) (bs:List Addr) (xss:List (List Int)):Prop where
 top:∃m,IsL h a (bs.map Value.ref).toArray m
 sub:∀(i:Nat) b xs,bs[i]?=some b->xss[i]?=some xs->Ints h b xs
 len:bs.length=xss.length
 nd:(a::bs).Nodup
 small:bs.length<=1000
theorem Ints.rd {xs:List Int}(x:Ints h a xs)(hO:¬O a)(hM:¬M a):Rd O M h 0 (.ref a) (.list (xs.map .int)):=by
 obtain⟨vs,n,h1,h2,h3⟩:=x
 obtain⟨ys,e1,e2⟩:=jf5 h3
 exact .list hO (λzw=>hM) h2 h1 (by rw [e1,<- e2]; exact jd2 ys)
theorem Run.evG {W:Avoid}(r:Run c O M W ρ s)(x:EvS c.g c.n ρ e d k)
  (q:∀v s',Keeps s s'->Rd O M s'.heap k v d->Run c O M W ρ s'->Q v s'):wpAny c.g.M c.Ar (eval e c.env) Q E s :=
 wpAny_mono (x O M c.env c.Ar s E r.act.up r.rm r.act.aO r.act.aM r.act.eo) (λv s' ⟨k,rd⟩=>q v s' k rd (r.keeps k)) λzw zw z=>z
noncomputable def TabAt (h:Heap) (P:Addr) (pos:Pos) (qual:Str):Option Addr->Prop
 | none=>h.get? P=some (tabObj #[])
 | some c=>h.get? P=some (tabObj #[rawInt pos.line,rawInt pos.col,.ref c])/\h.CodeRec (.ref c) qual
noncomputable def TabW (W:Avoid) (P:Addr):Option Addr->Prop
 | none=>W P
 | some c=>W P/\W c
theorem TabW.p {W:Avoid}{P:Addr}{st:Option Addr}(x:TabW W P st):W P:=by
 cases st with
 | none=>exact x
 | some c=>exact x.1
theorem CodeRec.via {c:Addr}{qual:Str}(x:h.CodeRec (.ref c) qual)(k:∀o,h.get? c=some o->h'.get? c=some o):h'.CodeRec (.ref c) qual:=by
 obtain⟨c',oc,vs,t,e,h1,h2,h3⟩:=x
 cases e
 exact⟨_,oc,vs,t,rfl,k _ h1,h2,h3⟩
theorem TabAt.keeps {W:Avoid}{P:Addr}{qual:Str}{st:Option Addr}(x:TabAt h P pos qual st)(w:TabW W P st)(k:∀b o,W b->h.get? b=some o->h'.get? b=some o):TabAt h' P pos qual st:=by
 cases st with
 | none=>exact k _ _ w x
 | some c=>exact⟨k _ _ w.1 x.1,CodeRec.via x.2 λo=>k _ o w.2⟩
noncomputable def ub4 (g:Glob):Prop:=∃bm ob,g.mg "__builtins__"=some (.ref bm)/\bm≠builtinsNs/\bm≠mainGlobals/\g.h.get? bm=some ob/\ob.cls=.type "module"/\ob.dict=some builtinsNs/\ob.data=.plain
theorem Run.btAt {W:Avoid}(r:Run c O M W ρ s)(B:ub4 c.g){P:Addr}(hW:W P):s.heap.BuiltinsAt c.g.mg P:=by
 obtain⟨bm,ob,h1,h2,h3,h4,h5,h6,h7⟩:=B
 exact⟨bm,ob,h1,h2,h3,λz=>(r.wp _ hW).g _ (z ▸ h4),r.act.up _ _ h4,h5,h6,h7⟩
theorem Run.mainNe {W:Avoid}(r:Run c O M W ρ s){P:Addr}(hW:W P):mainGlobals≠P:=λz=>by
 obtain⟨o,es,ep,e,_⟩:=c.g.g
 exact(r.wp _ hW).g _ (z ▸ e)
structure Made (c:Fx) (O M W:Avoid) (ρ:Rho) (s s':Shared) (P:Addr) (pos:Pos) (qual:Str) (f c':Addr) (W':Avoid):Prop where
 run:Run c (λb=>O b\/W' b) M W' ρ s'
 sub:∀b,W b->W' b
 keep:∀b o,b≠P->s.heap.get? b=some o->s'.heap.get? b=some o
 tab:TabAt s'.heap P pos qual (some c')
 tw:TabW W' P (some c')
 fw:W' f
 new:s.heap.get? f=none
theorem Run.made {W:Avoid}{P c':Addr}{qual:Str}{ob:Obj}{tk:Nat}(r:Run c O M W ρ s)(hW:W P)(hx:Heap.ExtBut P s.heap h')(hP:h'.get? P=some (tabObj #[rawInt pos.line,rawInt pos.col,.ref c']))(hc:h'.CodeRec (.ref c') qual)(hcw:W c'\/s.heap.get? c'=none)(hsz:s.heap.objs.size<=h'.objs.size)(hof:ob.isFreed=false) :
  Made c O M W ρ s { s with heap:=h'.push ob,toks:=tk } P pos qual h'.objs.size c' (λb=>W b\/b=c'\/b=h'.objs.size):=by
 have hcv:h'.CodeRec (.ref c') qual:=hc
 obtain⟨c_2,oc,vs,t,e,h1,h2,h3⟩:=hcv
 cases e
 have new:s.heap.get? h'.objs.size=none:=je5 (ja3 s) hsz
 have keep:∀b o,b≠P->s.heap.get? b=some o->(h'.push ob).get? b=some o:=λb o hb e=>Heap.get?_push_of_some _ (hx b o hb e)
 refine⟨r.eff (W':=λb=>W b\/b=c'\/b=h'.objs.size) (.of_chg ⟨⟨_,tk,rfl⟩,λb o hb e=>keep b o (λz=>hb (z ▸ hW)) e⟩) (λzw h=>.inl h) (λb hb=>?_) λb hb=>?_,λb h=>.inl h,keep,⟨Heap.get?_push_of_some _ hP,CodeRec.via hc λo e=>Heap.get?_push_of_some _ e⟩,⟨.inl hW,.inr (.inl rfl)⟩,.inr (.inr rfl),new⟩
 ·rcases hb with hb | rfl | rfl
  ·exact .inl hb
  ·exact hcw
  ·exact .inr new
 ·rcases hb with hb | rfl | rfl
  ·by_cases e:b=P
   ·rw [e]; exact⟨_,Heap.get?_push_of_some _ hP⟩
   ·obtain⟨o,eo⟩:=r.act.aO b (r.wo b hb)
    exact⟨o,keep b o e eo⟩
  ·exact⟨_,Heap.get?_push_of_some _ h1⟩
  ·exact⟨_,Heap.get?_push_size _ hof⟩
theorem Run.makeDef {W:Avoid}{P cc:Addr}{name qual:Str}{params:Arguments}{body:List Stmt}{scope:Scope}{line:Nat}{clos:List (Str×Addr)}{st:Option Addr}(r:Run c O M W ρ s)(B:ub4 c.g)(hcode:c.env.code=.ref cc)(C:CodeHd c.g.h cc P)(T:TabAt s.heap P pos qual st)(tw:TabW W P st)(hcl:closureFor scope c.env=pure clos)
  (q:∀f c' W' s',Made c O M W ρ s s' P pos qual f c' W'->(∃doc pm ctv,s'.heap.get? f=some (fnMade name qual params body scope clos doc pm c' ctv))->Q (.ref f) s') :
  wpAny c.g.M c.Ar (makeFunction name qual params (.stmts body) scope c.env [] [] [] pos line) Q E s:=by
 have hW:=tw.p
 have C':=C.keeps r.act.up
 have hg:=c.g.g.keeps r.act.up
 cases st with
 | none =>
  refine makeFunction_K (ps:=#[]) hcl r.act.eo.gl hg hcode C' T trivial rfl (r.mainNe hW) (r.btAt B hW) λc' ctv doc h' tk hx hge hlt hrec htb=>?_
  have m:=r.made (tk:=tk) (ob:=fnMade name qual params body scope clos doc ((c.g.mg "__name__").getD .none) c' ctv) hW hx htb hrec (.inr (je5 (ja3 s) hge)) (Nat.le_of_lt (Nat.lt_of_le_of_lt hge hlt)) rfl
  exact q _ c' _ _ m ⟨_,_,_,Heap.get?_push_size _ rfl⟩
 | some c' =>
  refine makeFunction_hit (cv:=.ref c') hcl r.act.eo.gl hg hcode C' T.1 (by trivial) (by simp [codeAmong,rawInt]) (r.btAt B hW) λctv doc h' tk hx hsz=>?_
  have m:=r.made (tk:=tk) (ob:=fnMade name qual params body scope clos doc ((c.g.mg "__name__").getD .none) c' ctv) hW (λb o zw e=>hx b o e) (hx _ _ T.1) (CodeRec.via T.2 λo=>hx _ o) (.inl tw.2) hsz rfl
  exact q _ c' _ _ m ⟨_,_,_,Heap.get?_push_size _ rfl⟩
structure LamData (fd:FuncData) (body:Expr):Prop where
 body:fd.body=.expr body
 gl:fd.globals=mainGlobals
 bl:fd.builtins=builtinsNs
 kind:fd.scope.kind=.function
 co:fd.scope.isCoroutine=false
 gen:fd.scope.isGenerator=false
noncomputable def SS.fine (σ:SS):Bool:=σ.nodes.all (λnd=>nd.succ.all σ.has)
section
structure BoundK (K:Frag) (f:Addr):Prop where
 get:specialIn K (.ref f) "__get__"=some (some (.builtin "function.__get__"))
 takes:takesIn K (.ref f)=some false
 fn:fnIn K f=true
section
variable {g:Glob} {T:Topo} {s:Shared} {l:LayS} {σ:SS} {A:Around} {E:Value->Shared->Prop} {b:Bool}
theorem qu3 {name:Str}{f:Addr}(S:Srt g T s.heap l σ)(X:g.K.In s.heap)(TK:TopoOk g.K T)(m:MethK g.K T.C name f)(bk:BoundK g.K f)(hc:copiedNames.contains name=false)(hn:("_node2info":Str)≠name/\("_ready_nodes":Str)≠name/\("_npassedout":Str)≠name/\("_nfinished":Str)≠name)
  (q:Q (.ref s.heap.objs.size) { s with heap:=s.heap.push (methodObj (.ref f) (.ref l.a)),toks:=s.toks+1 }):wpAny g.M A (getAttr (.ref l.a) name b) Q E s:=by
 obtain⟨t1,t2,t3,t4,to,tf,n,I⟩:=S.instAt
 refine get_bind X I (plainGet_of (TK.c.get name)).1 (findObj_fn TK.dict m.find bk.get bk.takes hc (by
  show lookIn name (dictOf _ _)=_
  rw [lookIn_dict]
  unfold getL jl9
  simp [Value.isStr,hn.1,hn.2.1,hn.2.2.1,hn.2.2.2,DictEntry.refKey])) (plainGet_of (TK.c.get name)).2 (wpAny_call (fn_get (s:={ s with toks:=s.toks+1 }) X (beq_iff_eq.mp m.fn) (handed_on rfl q)))
end
section
variable {M:Model} {A:Around} {E:Value->Shared->Prop} {s:Shared} {K:Frag} {env:Env} {pos p:Pos} {q f:Addr} {self:Value} {first:List Value} {Q:Value->Shared->Prop} {e:Expr} {rest:List Expr}
theorem jv7 {o:Expr}{name:Str}{apos:Pos}{args:List Expr}(h:wpAny M A (eval o env) (λov s_1=>wpAny M A (getAttr ov name true) (λf s_2=>wpAny M A (callWith pos f [] (backTo pos (starEach args env)) []) Q E s_2) E s_1) E s)
  (he:eval (.Call (.Attribute o name apos) args [] pos) env=(do
   let ov <- eval o env
   standAt apos.atName
   let (f,first) <- holding [ov] (do pure (← getAttr ov name true,[]))
   callWith pos f first (backTo pos (starEach args env)) []):=by rfl) :
  wpAny M A (eval (.Call (.Attribute o name apos) args [] pos) env) Q E s:=by
 rw [he]
 exact wpAny_bind (wpAny_mono h (λov s_1 h_1=>wpAny_bind (wpAny_standAt (wpAny_bind (wpAny_holding (wpAny_bind (wpAny_mono h_1 (λf s_2 h_2=>wpAny_pure h_2) λzw zw x=>x)))))) λzw zw x=>x)
theorem qq7 (hf:fnIn K f=true)(h:wpAny M A (eval e env) (λv s_1=>StarOf M A E v (λvs s_2=>MethP K q f self s_2.heap/\wpAny M A (call (.ref q) (first++vs)) Q E s_2) s_1) E s)
  (he:starEach [.Starred e p] env=[(true,eval e env)]:=by rfl) :
  wpAny M A (callWith pos (.ref q) first (backTo pos (starEach [.Starred e p] env)) []) Q E s:=by
 rw [he]
 exact ks_call rfl (keeps_M hf) (ks_lone h)
theorem ql6 (hf:fnIn K f=true)(h:wpAny M A (spliced (backTo pos (starEach (e::rest) env))) (λvs s_1=>MethP K q f self s_1.heap/\wpAny M A (call (.ref q) (first++vs)) Q E s_1) E s)
  (he:starEach (e::rest) env=(false,eval e env)::starEach rest env:=by rfl) (hst:(backTo pos (starEach rest env)).any (·.1)=true:=by rfl) :
  wpAny M A (callWith pos (.ref q) first (backTo pos (starEach (e::rest) env)) []) Q E s:=by
 rw [he] at h ⊢
 exact ks_call (by show(false || (backTo pos (starEach rest env)).any (·.1))=true; rw [hst]; rfl) (keeps_M hf) (evalArgs_plain h)
end
end
theorem Run.own {W:Avoid}{np p:Pos}{Q:Flow->Shared->Prop}(r:Run c O No W ρ s)(hx:stOk ρ x=true)(hv:swapsWith e (some (.Name x np)) p.line c.env=pure false)(ev:EvF c.g c.n ρ e ds)(hpl:plainDs ds=true)
  (q:∀l s',Run c O (λb=>b=l) W (ρ.put x (.list ds) 1) s'->(∀b o,W b->s.heap.get? b=some o->s'.heap.get? b=some o)->Q .next s') :
  wpAny c.g.M c.Ar (exec (.Assign [.Name x np] e p) c.env) Q E s:=by
 refine wpAny_Assign_Name ?_ hv
 refine wpAny_mono (ev O c.env c.Ar s _ r.act.up r.rm r.act.aO r.act.eo) (λv s_1 hJ0=>?_) λzw zw z=>z
 obtain⟨k_1,l,hl,hnew,rd_1⟩:=hJ0
 subst hl
 have r_1:=r.keeps k_1
 have a_1:=r_1.act
 have pl:=r.pl
 obtain⟨l',vs,m,e',h1,h2,h3,h4,_⟩:=jc5 rd_1
 cases e'
 let M:Avoid:=λb=>b=l
 have own:OwnV M (.ref l):=⟨l,rfl,λb=>Iff.rfl⟩
 have items:Rds O M s_1.heap 0 vs.toList ds:=Rds.part (by simpa [jc6] using hpl) rd_1 hpl (by simp) h3
 have eo:EnvOk O M ρ c.env s_1.heap:=⟨a_1.eo.kind,a_1.eo.gl,a_1.eo.bl,a_1.eo.sc,a_1.eo.apart,λy dd k hy=>by
  obtain⟨w,g1,g2,g3⟩:=r.act.eo.vars y dd k hy
  have hk:k=0:=by
   cases k with
   | zero=>rfl
   | succ k=>exact(no_own (g3 (by simp))).elim
  subst hk
  exact⟨w,g1.keeps (ja0 k_1),(g2.fresh hnew rfl).keeps (ja0 k_1),λz=>absurd rfl z⟩⟩
 have hs:=qe4 r.act.eo hx
 have plM:Pl c.g O M c.P c.env:=⟨pl.store,pl.po,λb o e=>⟨(pl.pg b o e).1,λz=>by have:=r.act.up b o e; rw [z,hnew] at this; cases this⟩,pl.live⟩
 refine jq5 eo a_1.fo hs (.list h4 (λz=>by cases z) h1 h2 items:Rd O M s_1.heap 1 (.ref l) (.list ds)) (λzw=>own) λh' tk st eo' fo'=>?_
 have ch:Chg c.P s_1 { s_1 with heap:=h',toks:=tk }:=⟨⟨h',tk,rfl⟩,λb o hb e=>st.same.extBut b o (λz=>hb (z ▸ pl.store x hs)) e⟩
 have lv:=pl.live { s_1 with heap:=h',toks:=tk } fo'
 have aM:Alloc M { s_1 with heap:=h',toks:=tk }:=λb hb=>by
  have hb:b=l:=hb
  subst hb
  exact⟨_,st.seqs _ _ _ _ h2⟩
 have act:Act c.g O M (ρ.put x (.list ds) 1) c.env { s_1 with heap:=h',toks:=tk }:=⟨ch.up a_1.up λb o e=>(pl.pg b o e).1,ch.alloc a_1.aO λb zw hb=>lv b hb,aM,eo'.same (Same.refl.put _ _ _),fo'⟩
 have r_2:Run c O No W ⟨ρ.sc,[]⟩ { s_1 with heap:=h',toks:=tk }:=r_1.chg ch.pm ⟨act.up,act.aO,λzw h=>h.elim,⟨act.eo.kind,act.eo.gl,act.eo.bl,act.eo.sc,act.eo.apart,λy d k hy=>by cases hy⟩,fo'⟩
 have ne:∀b,(∃o,s.heap.get? b=some o)->¬M b:=λb ⟨o,eo⟩ z=>by
  have z:b=l:=z
  rw [z,hnew] at eo; cases eo
 refine q l _ { r_2 with act:=act,pl:=plM,nm:=λb hb=>?_,nf:=λb hb=>?_,wp:=λb hb=>?_,zo:=λb hb=>?_ } λb o hb eo=>r_1.same ch.pm b o hb (ja0 k_1 _ _ eo)
 ·have hb:b=l:=hb
  rw [hb]; exact r.none0 hnew
 ·have hb:b=l:=hb
  rw [hb]; exact h4
 ·have w:=r_2.wp b hb
  exact⟨w.p,ne b (r.act.aO b (r.wo b hb)),w.f,w.e,w.g⟩
 ·have z:=r_2.zo b hb
  exact⟨z.1,z.2.1,ne b (r.zx b z.1),z.2.2.2⟩
structure FnQ (K:Frag) (f:Addr) (body:List Stmt) (names:List (Str×NameKind)) (params:List Str) (code:Value) (qual:Str):Prop where
 ex:∃c dd fd sl,K.lookup f=some ⟨c,dd,.func fd,sl⟩/\FnData fd body/\fd.closure=[]/\qd0 K fd.code fd.qualname=true/\fd.scope.names=names/\fd.code=code/\fd.qualname=qual/\(∀vs:List Value,vs.length=params.length->bindArgs fd ⟨vs,[]⟩=pure (params.zip vs))
 nm:jh7 names []=true
theorem qu0 {W:Avoid}{f:Addr}{body:List Stmt}{names:List (Str×NameKind)}{params:List Str}{code:Value}{qual:Str}{vs:List Value}
  (at_:At g (n+1) A O M W F s) (fk:FnQ g.K f body names params code qual) (rs:Rds O M s.heap 0 vs ds) (hl:ds.length=params.length) (hps:params.all (stOk ⟨names,[]⟩)=true) (hρ:je1 ⟨names,[]⟩ params ds=some ρ)
  (hbody:∀(env:Env) (P O':Avoid) (s_2:Shared),Run ⟨g,n,A,env,P,O,M,W,F,s,No,O',s_2⟩ O' No W ρ s_2->env.code=code->env.qual=qual++".<locals>."->(∀b o,s.heap.get? b=some o->s_2.heap.get? b=some o) →
   wpAny g.M (A.deeper env) (execs body env) (λf s'=>R (.ok (.ret (retOf f))) s') (qu8 g A env R) s_2) :
  codeAny g.M A (.call (.ref f) ⟨vs,[]⟩) R s:=by
 obtain⟨⟨c,dd,fd,sl,hK,FD,hcl,hcd,hnm,hco,hq,hb⟩,nm⟩:=fk
 subst hnm
 subst hco
 subst hq
 refine qt9 (clv:=[]) at_ (at_.up _ _ (g.X _ _ hK)) rfl FD ((ji6 g.X hcd).keeps at_.up) (by rw [hb vs (by rw [rs.length,hl])]; exact wpAny_pure ⟨vs,rfl,ja3 s,rs⟩) (by rw [hcl]; exact jw6) (λx b h=>by rw [hcl] at h; cases h) nm hps hρ hbody
set_option backward.match.sparseCases false
noncomputable def fnD (ss:List Stmt) (x:Str):Arguments×List Stmt×Scope:=((qp6 ss x).1,(qp6 ss x).2.1,(qp6 ss x).2.2.1)
noncomputable def tD (x:Str):=fnD PySem.Challenge.pw_ny0325_04.main.body x
noncomputable def mD (c x:Str):=fnD (uj0 PySem.Challenge.pw_ny0325_04.main.body c) x
noncomputable def fo (d:Arguments×List Stmt×Scope) (name qual:Str) (df md:Value) (cd:Addr):Obj:={ cls:=.type "function",data:=.func { name:=name,qualname:=qual,params:=d.1,body:=.stmts d.2.1,scope:=d.2.2,globals:=3,closure:=[],defaults:=df,kwdefaults:=.none,pyModule:=md,code:=.ref cd } }
noncomputable def co (vs:Array Value):Obj:={ cls:=.type "code",data:=.fields vs }
noncomputable def en (P:Params) (x:Str) (t:Tok) (v:Value):DictEntry:={ hash:=PyData.keyHash P x,key:=.str x t,val:=v }
noncomputable def K1 (P:Params):Frag:=[
(3,{ cls:=.type "dict",data:=.dict #[en P "__name__" 165 (.str "law_ny0325_04" 427),en P "__doc__" 166 (.none),en P "__package__" 167 (.none),en P "__loader__" 168 (.builtin "__main__.__loader__#opaque"),en P "__spec__" 169 (.none),en P "__annotations__" 170 (.ref 6),en P "__builtins__" 171 (.ref 4),en P "__file__" 173 (.str "/claim/cut.py" 172),en P "__cached__" 174 (.none),en P "_wall" 193 (.ref 21),en P "_MAX_STRING_SIZE" 197 (.int 40 196),en P "_MOVE_COST" 199 (.int 2 198),en P "_CASE_COST" 201 (.int 1 200),en P "_substitution_cost" 209 (.ref 28),en P "_levenshtein_distance" 229 (.ref 35),en P "_initial_missing" 232 (.ref 36),en P "reduce" 244 (.ref 44),en P "_NODE_OUT" 249 (.int (-1) 248),en P "_NODE_DONE" 252 (.int (-2) 251),en P "_NodeInfo" 289 (.ref 63),en P "CycleError" 307 (.ref 78),en P "TopologicalSorter" 426 (.ref 160),en P "_law_ahead" 434 (.ref 169),en P "_law_rounds" 444 (.ref 176),en P "_law_heavier" 457 (.ref 183),en P "law" 463 (.ref 188)] 26 }),
(27,(co #[.str "_substitution_cost" 202,.str "_substitution_cost" 203,.str "/claim/cut.py" 204,.int 8 0,.int 2 0,.int 0 0,.int 0 0,.int 3 0,.ref 22,.bool true,.int 181 0,.ref 23,.none,.ref 24,.ref 25,.ref 26,.int 207 0,.int 8 0,.str "/claim/cut.py" 208])),
(28,fo (tD "_substitution_cost") "_substitution_cost" "_substitution_cost" (.none) (.str "cpy313.traceback" 194) 27),
(34,(co #[.str "_levenshtein_distance" 210,.str "_levenshtein_distance" 211,.str "/claim/cut.py" 212,.int 14 0,.int 3 0,.int 0 0,.int 0 0,.int 3 0,.ref 29,.bool true,.int 181 0,.ref 30,.none,.ref 31,.ref 32,.ref 33,.int 227 0,.int 14 0,.str "/claim/cut.py" 228])),
(35,fo (tD "_levenshtein_distance") "_levenshtein_distance" "_levenshtein_distance" (.none) (.str "cpy313.traceback" 194) 34),
(36,{ cls:=.type "object" }),
(37,{ cls:=.type "tuple",data:=.seq #[.ref 36] }),
(43,(co #[.str "reduce" 233,.str "reduce" 234,.str "/claim/cut.py" 235,.int 54 0,.int 3 0,.int 0 0,.int 0 0,.int 3 0,.ref 38,.bool true,.int 181 0,.ref 39,.none,.ref 40,.ref 41,.ref 42,.int 242 0,.int 54 0,.str "/claim/cut.py" 243])),
(44,fo (tD "reduce") "reduce" "reduce" (.ref 37) (.str "cpy313.functools" 230) 43),
(58,(co #[.str "__init__" 269,.str "_NodeInfo.__init__" 270,.str "/claim/cut.py" 271,.int 72 0,.int 2 0,.int 0 0,.int 0 0,.int 3 0,.ref 53,.bool true,.int 181 0,.ref 54,.none,.ref 55,.ref 56,.ref 57,.int 274 0,.int 72 0,.str "/claim/cut.py" 275])),
(59,fo (mD "_NodeInfo" "__init__") "__init__" "_NodeInfo.__init__" (.none) (.str "cpy313.graphlib" 245) 58),
(62,{ cls:=.type "dict",data:=.dict #[en P "__module__" 260 (.str "cpy313.graphlib" 245),en P "__firstlineno__" 264 (.int 69 263),en P "__slots__" 268 (.ref 52),en P "__init__" 276 (.ref 59),en P "__static_attributes__" 280 (.ref 60),en P "node" 282 (.ref 64),en P "npredecessors" 284 (.ref 65),en P "successors" 286 (.ref 66),en P "__doc__" 287 (.none)] 5 }),
(63,{ cls:=.type "type",data:=.cls { name:="_NodeInfo",bases:=[.type "object"],mro:=[.ref 63,.type "object"],ns:=62,qualname:="_NodeInfo",hasDict:=false,slotNames:=["node","npredecessors","successors"] },slots:=#[none,none,some (.str "_NodeInfo" 253),some (.str "_NodeInfo" 261),some (.builtin "object.__new__"),some (.bool false)] }),
(64,{ cls:=.type "member_descriptor",data:=.fields #[.str "node" 281,.ref 63,.builtin "proto.slot",.builtin "proto.slot#set",.int 2 0] }),
(65,{ cls:=.type "member_descriptor",data:=.fields #[.str "npredecessors" 283,.ref 63,.builtin "proto.slot",.builtin "proto.slot#set",.int 1 0] }),
(66,{ cls:=.type "member_descriptor",data:=.fields #[.str "successors" 285,.ref 63,.builtin "proto.slot",.builtin "proto.slot#set",.int 0 0] }),
(77,{ cls:=.type "dict",data:=.dict #[en P "__module__" 297 (.str "cpy313.graphlib" 245),en P "__firstlineno__" 301 (.int 76 300),en P "__static_attributes__" 302 (.ref 76),en P "__weakref__" 304 (.ref 79),en P "__doc__" 305 (.none)] 3 }),
(78,{ cls:=.type "type",data:=.cls { name:="CycleError",bases:=[.type "ValueError"],mro:=[.ref 78,.type "ValueError",.type "Exception",.type "BaseException",.type "object"],ns:=77,qualname:="CycleError" },slots:=#[some (.ref 69),none,some (.str "CycleError" 290),some (.str "CycleError" 298),some (.builtin "ValueError.__new__"),some (.bool true)] }),
(89,{ cls:=.type "tuple",data:=.seq #[.none] }),
(95,(co #[.str "__init__" 320,.str "TopologicalSorter.__init__" 321,.str "/claim/cut.py" 322,.int 80 0,.int 2 0,.int 0 0,.int 0 0,.int 3 0,.ref 90,.bool true,.int 181 0,.ref 91,.none,.ref 92,.ref 93,.ref 94,.int 327 0,.int 80 0,.str "/claim/cut.py" 328])),
(96,fo (mD "TopologicalSorter" "__init__") "__init__" "TopologicalSorter.__init__" (.ref 89) (.str "cpy313.graphlib" 245) 95),
(102,(co #[.str "_get_nodeinfo" 330,.str "TopologicalSorter._get_nodeinfo" 331,.str "/claim/cut.py" 332,.int 89 0,.int 2 0,.int 0 0,.int 0 0,.int 3 0,.ref 97,.bool true,.int 181 0,.ref 98,.none,.ref 99,.ref 100,.ref 101,.int 336 0,.int 89 0,.str "/claim/cut.py" 337])),
(103,fo (mD "TopologicalSorter" "_get_nodeinfo") "_get_nodeinfo" "TopologicalSorter._get_nodeinfo" (.none) (.str "cpy313.graphlib" 245) 102),
(109,(co #[.str "add" 339,.str "TopologicalSorter.add" 340,.str "/claim/cut.py" 341,.int 94 0,.int 2 0,.int 0 0,.int 0 0,.int 7 0,.ref 104,.bool true,.int 181 0,.ref 105,.none,.ref 106,.ref 107,.ref 108,.int 348 0,.int 94 0,.str "/claim/cut.py" 349])),
(110,fo (mD "TopologicalSorter" "add") "add" "TopologicalSorter.add" (.none) (.str "cpy313.graphlib" 245) 109),
(114,(co #[.str "prepare" 351,.str "TopologicalSorter.prepare" 352,.str "/claim/cut.py" 353,.int 103 0,.int 1 0,.int 0 0,.int 0 0,.int 3 0,.ref 111,.bool true,.int 181 0,.ref 112,.none,.none,.none,.ref 113,.int 354 0,.int 103 0,.str "/claim/cut.py" 355])),
(115,fo (mD "TopologicalSorter" "prepare") "prepare" "TopologicalSorter.prepare" (.none) (.str "cpy313.graphlib" 245) 114),
(121,(co #[.str "get_ready" 357,.str "TopologicalSorter.get_ready" 358,.str "/claim/cut.py" 359,.int 111 0,.int 1 0,.int 0 0,.int 0 0,.int 3 0,.ref 116,.bool true,.int 181 0,.ref 117,.none,.ref 118,.ref 119,.ref 120,.int 364 0,.int 111 0,.str "/claim/cut.py" 365])),
(122,fo (mD "TopologicalSorter" "get_ready") "get_ready" "TopologicalSorter.get_ready" (.none) (.str "cpy313.graphlib" 245) 121),
(128,(co #[.str "is_active" 367,.str "TopologicalSorter.is_active" 368,.str "/claim/cut.py" 369,.int 122 0,.int 1 0,.int 0 0,.int 0 0,.int 3 0,.ref 123,.bool true,.int 181 0,.ref 124,.none,.ref 125,.ref 126,.ref 127,.int 371 0,.int 122 0,.str "/claim/cut.py" 372])),
(129,fo (mD "TopologicalSorter" "is_active") "is_active" "TopologicalSorter.is_active" (.none) (.str "cpy313.graphlib" 245) 128),
(142,(co #[.str "done" 381,.str "TopologicalSorter.done" 382,.str "/claim/cut.py" 383,.int 130 0,.int 1 0,.int 0 0,.int 0 0,.int 7 0,.ref 137,.bool true,.int 181 0,.ref 138,.none,.ref 139,.ref 140,.ref 141,.int 392 0,.int 130 0,.str "/claim/cut.py" 393])),
(143,fo (mD "TopologicalSorter" "done") "done" "TopologicalSorter.done" (.none) (.str "cpy313.graphlib" 245) 142),
(149,(co #[.str "_find_cycle" 395,.str "TopologicalSorter._find_cycle" 396,.str "/claim/cut.py" 397,.int 153 0,.int 1 0,.int 0 0,.int 0 0,.int 3 0,.ref 144,.bool true,.int 181 0,.ref 145,.none,.ref 146,.ref 147,.ref 148,.int 405 0,.int 153 0,.str "/claim/cut.py" 406])),
(150,fo (mD "TopologicalSorter" "_find_cycle") "_find_cycle" "TopologicalSorter._find_cycle" (.none) (.str "cpy313.graphlib" 245) 149),
(159,{ cls:=.type "dict",data:=.dict #[en P "__module__" 315 (.str "cpy313.graphlib" 245),en P "__firstlineno__" 319 (.int 78 318),en P "__init__" 329 (.ref 96),en P "_get_nodeinfo" 338 (.ref 103),en P "add" 350 (.ref 110),en P "prepare" 356 (.ref 115),en P "get_ready" 366 (.ref 122),en P "is_active" 373 (.ref 129),en P "__bool__" 380 (.ref 136),en P "done" 394 (.ref 143),en P "_find_cycle" 407 (.ref 150),en P "static_order" 414 (.ref 157),en P "__static_attributes__" 419 (.ref 158),en P "__dict__" 421 (.ref 161),en P "__weakref__" 423 (.ref 162),en P "__doc__" 424 (.none)] 4 }),
(160,{ cls:=.type "type",data:=.cls { name:="TopologicalSorter",bases:=[.type "object"],mro:=[.ref 160,.type "object"],ns:=159,qualname:="TopologicalSorter" },slots:=#[none,none,some (.str "TopologicalSorter" 308),some (.str "TopologicalSorter" 316),some (.builtin "object.__new__"),some (.bool true)] }),
(168,(co #[.str "_law_ahead" 429,.str "_law_ahead" 430,.str "/claim/cut.py" 431,.int 185 0,.int 2 0,.int 0 0,.int 0 0,.int 3 0,.ref 165,.bool true,.int 181 0,.ref 166,.none,.none,.none,.ref 167,.int 432 0,.int 185 0,.str "/claim/cut.py" 433])),
(169,fo (tD "_law_ahead") "_law_ahead" "_law_ahead" (.none) (.str "law_ny0325_04" 427) 168),
(175,(co #[.str "_law_rounds" 435,.str "_law_rounds" 436,.str "/claim/cut.py" 437,.int 192 0,.int 1 0,.int 0 0,.int 0 0,.int 3 0,.ref 170,.bool true,.int 181 0,.ref 171,.none,.ref 172,.ref 173,.ref 174,.int 442 0,.int 192 0,.str "/claim/cut.py" 443])),
(176,fo (tD "_law_rounds") "_law_rounds" "_law_rounds" (.none) (.str "law_ny0325_04" 427) 175),
(182,(co #[.str "_law_heavier" 445,.str "_law_heavier" 446,.str "/claim/cut.py" 447,.int 201 0,.int 3 0,.int 0 0,.int 0 0,.int 3 0,.ref 177,.bool true,.int 181 0,.ref 178,.none,.ref 179,.ref 180,.ref 181,.int 455 0,.int 201 0,.str "/claim/cut.py" 456])),
(183,fo (tD "_law_heavier") "_law_heavier" "_law_heavier" (.none) (.str "law_ny0325_04" 427) 182),
(187,(co #[.str "law" 458,.str "law" 459,.str "/claim/cut.py" 460,.int 208 0,.int 1 0,.int 0 0,.int 0 0,.int 3 0,.ref 184,.bool true,.int 181 0,.ref 185,.none,.none,.none,.ref 186,.int 461 0,.int 208 0,.str "/claim/cut.py" 462])),
(188,fo (tD "law") "law" "law" (.none) (.str "law_ny0325_04" 427) 187)]
set_option backward.match.sparseCases true
noncomputable def keep1:List Nat:=[0,2,3,4,5,6,8,11,12,13,14,15,17,18,19,20]
noncomputable def qm0:Program:={ PySem.Challenge.pw_ny0325_04 with main:={ PySem.Challenge.pw_ny0325_04.main with body:=keep1.filterMap λi=>PySem.Challenge.pw_ny0325_04.main.body[i]? } }
noncomputable def posD (ss:List Stmt) (x:Str):Pos:=(qp6 ss x).2.2.2
noncomputable def d1:DefRec:=⟨"law",(tD "law").1,(tD "law").2.1,(tD "law").2.2,posD PySem.Challenge.pw_ny0325_04.main.body "law"⟩
noncomputable def adr1:List Addr:=[3,27,28,34,35,36,37,43,44,58,59,62,63,64,65,66,77,78,89,95,96,102,103,109,110,114,115,121,122,128,129,142,143,149,150,159,160,168,169,175,176,182,183,187,188]
theorem ju6:∀P,adr1=(K1 P).map (·.1):=λzw=>by kernel_rfl
noncomputable def ug4:List Str:=["_initial_missing","reduce","_NodeInfo"]
theorem left1:LeftO PySem.Challenge.rw_ny0325_04.row.prog qm0 ug4 (λs=>xlAt qm0 [] s && recOk (RowW.records PySem.Challenge.rw_ny0325_04.row.toRowW) s) (Hook.obs (kmHook K1 adr1 ju6 [178])) (Hook.val (kmHook K1 adr1 ju6 [178])) 2990:=λw=>by kernel_rfl
theorem hd1 (h:WalkO qm0 ug4 (XL qm0 []) (Hook.says (kmHook K1 adr1 ju6 [178])) PySem.Challenge.rw_ny0325_04.row.toRowW d1 [] λf vs=>call f vs):PySem.Challenge.rw_ny0325_04.Holds:=by
 refine holds_law (by decide +kernel) λsaid=>?_
 exact holds_open (q:=qm0) (loose:=ug4) (Xt:=λs=>xlAt qm0 [] s && recOk (RowW.records PySem.Challenge.rw_ny0325_04.row.toRowW) s) (XP:=XL qm0 []) (Yf:=Hook.obs (kmHook K1 adr1 ju6 [178])) (Ya:=Hook.val (kmHook K1 adr1 ju6 [178])) (YP:=Hook.says (kmHook K1 adr1 ju6 [178])) (N:=2990) left1 (Hook.of _) (Hook.keeps _) (λs e=>xl_of s (Bool.and_eq_true_iff.mp e).1) XL.keeps (by kernel_rfl) (by kernel_rfl) (by kernel_rfl) (λs e=>recFacts_of (Bool.and_eq_true_iff.mp e).2) (by kernel_rfl) said (by decide +kernel) ⟨rfl,rfl,rfl,rfl,rfl,by decide +kernel⟩ ⟨[.list []],by decide +kernel,by decide +kernel⟩ h
noncomputable def jw1:Avoid:=λb=>b=178
noncomputable def LawOk1 (fl:Addr):Prop:=∀(g:Glob) (P:Params) (A:Around) (s:Shared) (a:Addr) (xs:List Int),g.K=K1 P->g.w.params=P->ub4 g->CodeHd g.h 182 178->At g 12 A jw1 No jw1 No s →
 s.heap.get? 178=some (tabObj #[])->Rd jw1 No s.heap 0 (.ref a) (.list (xs.map .int))->xs.length<=63 →
 codeAny g.M A (.call (.ref fl) ⟨[.ref a],[]⟩) (λr s'=>r=.ok (.ret (.bool true))/\Cx jw1 No s s'/\GrownAt 178 s'.heap) s
theorem qb8 {P:Params}{h:Heap}{O:Avoid}:∀{vs:List Value} {xs:List Int},WellAll P h vs (xs.map .int)->Rds O No h 0 vs (xs.map .int)
 | [],[],_=>.nil
 | [],_::_,w=>by cases w
 | _::_,[],w=>by cases w
 | v::vs,x::xs,w=>by
  cases w with
  | cons a b =>
   cases a with
   | int i t=>exact .cons .int (qb8 b)
theorem qc2:∀(xs:List Int),ofPys (xs.map .int)=xs.map .int
 | []=>rfl
 | x::xs=>by
  show ofPys (.int x::xs.map .int)=.int x::xs.map .int
  simp [ofPys,ofPy,qc2 xs]
theorem ue7:∀(xs:List Int),ofPy (.list (xs.map .int))=.list (xs.map .int):=λxs=>by
 simp [ofPy,qc2]
set_option tactic.hygienic true in
theorem rd_well {xs:List Int}(w:Well P h v (ofPy (.list (xs.map .int))))(hx:xs.length<=63)(hO:∀b o,O b->h.get? b=some o->o.cls≠.type "list"):Rd O No h 0 v (.list (xs.map .int)):=by
 rw [ue7] at w
 cases w with
 | list h1 h2 =>
  rename_i a vs
  have h3:=qb8 (O:=O) h2
  have hl:=h3.length
  rw [List.length_map] at hl
  exact .list (λz=>hO _ _ z h1 rfl) (λzw=>id) (by have:cap=100000:=rfl; simp; grind) h1 h3
set_option tactic.hygienic true in
theorem finish1 (fl:Addr)(hfl:∀P,nsIn (K1 P) mainGlobals "law"=some (some (.ref fl)))(L:LawOk1 fl):PySem.Challenge.rw_ny0325_04.Holds:=by
 refine hd1 ?_
 intro w s_0 s_1 mg mb G Y fa o pm cd doc dV kV ho hd hcd hD hmg hg args vals as hpre hlay hrd hwl hlo
 ((show let Q0:=_; let E0:=_; wpAny _ _ _ Q0 E0 _); intro Q0 E0)
 have KX:=km_in_of Y
 km_tabs Y
 have X:=(Ground.X G).1
 have V:=(Ground.X G).2
 refine Ground.open G ?_
 intro T B D TE TW
 try (refine guard_noD D (by decide +kernel) ?_; clear D)
 have hT9:TabsAt ([(182,178)]:List (Addr×Addr)) s_1.heap:=List.forall_mem_cons.mpr ⟨⟨codeHd_of_K (c:=182) (P:=178) KX (by kernel_rfl),hT8 178 (by simp)⟩,λzw h=>nomatch h⟩
 wrow_args hpre hlay hrd hwl hlo
 rename_i xs _ _ _ _ _ _ _ a _ _ _ _ w1 _ _ _ hlen _
 refine enter_call ?_
 w_top on
 kn_posts
 have efa:fa=fl:=by
  have h1:mg "law"=some (.ref fa):=hmg
  have h2:=mg_of KX T.g (hfl w.params)
  rw [h1] at h2
  cases h2
  rfl
 subst efa
 clear hd hcd hD hmg G Y TE TW B V X
 let g:Glob:=⟨Challenge.rw_ny0325_04.row.prog,w,K1 w.params,ghostOf s_1.heap [(182,178)],mg,mb,ghost_K hT9 KX (by kernel_rfl),ghost_ns hT9 T.g,ghost_ns hT9 T.b,(ghost_top hT9 T).nolimit,T.builtins⟩
 have up:g.Up s_1:=λb o e=>of_hideAll _ e
 have hid:∀b,jw1 b->∀o,g.h.get? b≠some o:=λb hb o e=>by
  have:(ghostOf s_1.heap [(182,178)]).get? b=none:=hideAll_none _ (by obtain rfl:=hb; simp)
  have e:(ghostOf s_1.heap [(182,178)]).get? b=some o:=e
  rw [this] at e; cases e
 have tb:∀b,jw1 b->s_1.heap.get? b=some (tabObj #[]):=λb hb=>by
  obtain rfl:=hb
  exact hT8 _ (by simp)
 have at_:At g 12 callerA jw1 No jw1 No s_1:=⟨up,⟨rfl,by decide,by decide⟩,λb hb=>⟨_,tb b hb⟩,λzw h=>h.elim,λzw h=>h.elim,⟨⟨[],rfl,λzw h=>by cases h⟩,λzw zw zw h=>h⟩,λzw h=>h,λzw h=>h.elim,λzw zw h=>h,hid⟩
 have hlen:xs.length<=63:=by omega
 have rd:=rd_well (O:=jw1) w1 hlen λb o hb e=>by
  rw [tb b hb] at e; cases e; simp
 have BM:ub4 g:=by
  obtain⟨bm,ob,b1,b2,b3,b4,b5,b6⟩:=(ghost_top hT9 T).bmain
  refine⟨bm,ob,b1,b2,λz=>?_,b3,b4,b5,b6⟩
  obtain⟨o',es,ep,e,hd,_⟩:=g.g
  have b3:g.h.get? bm=some ob:=b3
  rw [z,e] at b3; cases b3; rw [hd] at b6; cases b6
 have C:=ghost_code hT9
 refine codeAny_mono (L g w.params callerA s_1 a xs rfl rfl BM C.1 at_ (tb _ rfl) rd hlen) λr s' h=>?_
 obtain⟨rfl,cx,g1⟩:=h
 refine⟨⟨.inl ⟨.bool true,.bool true,[],rfl,λzw=>rfl,.bool _,?post,λzw=>⟨.nil,λzw h=>by cases h⟩⟩,λb o e=>?_,?_,?_⟩,g1,trivial⟩
 case post =>
  first | rfl | wrow_post
 ·have e1:=up b o e
  have hb:¬jw1 b:=λz=>hid b z o e
  exact(cx.2 b o hb e1).2 id
 ·obtain⟨h,t,rfl⟩:=cx.1; rfl
 ·obtain⟨h,t,rfl⟩:=cx.1; exact hg
section
open PySem.Builtin.Str
noncomputable abbrev S (l:List Nat):Str:=⟨l.toArray⟩
theorem jq3 (l:List Nat):(S l).length=l.length:=by show l.toArray.size=_; simp
theorem jj8 (l:List Nat):(S l).cps.toList=l:=by show l.toArray.toList=_; simp
theorem sliceRange_one (i j:Nat)(h:i<=j):sliceRange (i:Int) (j:Int) 1=(List.range (j - i)).map λk=>i+k:=by
 unfold sliceRange
 have e:((if (1:Int) > 0 then (if (i:Int) < (j:Int) then ((j:Int) - i+1 - 1) / 1 else 0) else (if (i:Int) > (j:Int) then ((i:Int) - j - 1 - 1) / (-1) else 0))).toNat=j - i:=by
  rw [if_pos (by decide)]
  split
  ·rw [Int.ediv_one]; grind
  ·simp; grind
 dsimp only
 rw [e]
 refine List.map_congr_left λk zw=>?_
 grind
theorem qx1 (l:List Nat)(i c:Nat)(h:i+c<=l.length):((List.range c).map λk=>i+k).filterMap (l.toArray[·]?)=(l.drop i).take c:=by
 induction c generalizing i with
 | zero=>simp
 | succ c ih =>
  have hi:i < l.length:=by grind
  rw [List.range_succ_eq_map,List.map_cons,List.filterMap_cons]
  have e0:l.toArray[i+0]?=some l[i]:=by simp [hi]
  rw [e0]
  have:(List.map Nat.succ (List.range c)).map (λk=>i+k)=(List.range c).map λk=>(i+1)+k:=by
   rw [List.map_map]; refine List.map_congr_left λk zw=>?_; simp [Function.comp]; (simp +arith)
  rw [this,ih (i+1) (by grind),List.drop_eq_getElem_cons hi,List.take_succ_cons]
theorem jx7 {l:List Nat}{lo hi:Option Int}{i j:Nat}(hij:i<=j)(hj:j<=l.length)(h:strSliceIndices lo hi 1 l.length=sliceRange (i:Int) (j:Int) 1):Txt.slice (S l) lo hi=S ((l.drop i).take (j - i)):=by
 unfold Txt.slice
 rw [jq3,h,sliceRange_one i j hij]
 have p:=qx1 l i (j - i) (by grind)
 split
 ·rename_i hc
  simp only [beq_self_eq_true,Bool.true_and,List.length_map,List.length_range,beq_iff_eq] at hc
  have:i=0/\j=l.length:=by grind
  obtain⟨rfl,rfl⟩:=this
  simp
 ·show(⟨(List.filterMap (l.toArray[·]?) _).toArray⟩:Str)=_
  rw [p]
theorem jk5 {l:List Nat}{i:Nat}(h:i<=l.length):Txt.slice (S l) (some (i:Int)) none=S (l.drop i):=by
 have:=jx7 (l:=l) (lo:=some (i:Int)) (hi:=none) (i:=i) (j:=l.length) h (Nat.le_refl _) (by
  unfold strSliceIndices
  dsimp only
  have h1:¬((i:Int) < 0):=by (simp +arith)
  have h2:(1:Int) > 0:=by decide
  simp only [h1,h2,if_true,if_false]
  congr 1
  grind)
 rw [this]
 congr 2
 rw [List.take_of_length_le (by simp)]
theorem uc7 {l:List Nat}:Txt.slice (S l) none none=S l:=by
 have:=jx7 (l:=l) (lo:=none) (hi:=none) (i:=0) (j:=l.length) (Nat.zero_le _) (Nat.le_refl _) (by
  unfold strSliceIndices
  dsimp only
  rw [if_pos (by decide),if_pos (by decide)]
  rfl)
 rw [this]; simp
theorem qw0 {l:List Nat}{j:Nat}(h0:0 < j)(h:j<=l.length):Txt.slice (S l) none (some (-(j:Int)))=S (l.take (l.length - j)):=by
 have:=jx7 (l:=l) (lo:=none) (hi:=some (-(j:Int))) (i:=0) (j:=l.length - j) (Nat.zero_le _) (by (exact Nat.sub_le _ _)) (by
  unfold strSliceIndices
  dsimp only
  have h1:(-(j:Int) < 0):=by grind
  have h2:(1:Int) > 0:=by decide
  simp only [h1,h2,if_true]
  congr 1
  grind)
 rw [this]; simp
theorem jk0 {l:List Nat}{i:Int}{j:Nat}(hc:l.length<=cap)(h:seqIndex? i l.length=some j)(hj:j < l.length):idxD (.str (S l)) i=some (.str (S [l[j]])):=by
 show(if (S l).length<=cap then Option.map (λc=>PyData.str { cps:=#[c] }) ((seqIndex? i (S l).length).bind λx_1=>(S l).cps[x_1]?) else none)=_
 rw [jq3,if_pos hc,h]
 simp [hj]
theorem jg4 {i:Nat}(h:i < n):seqIndex? (i:Int) n=some i:=by
 unfold seqIndex?
 have h1:¬((i:Int) < 0):=by (simp +arith)
 simp only [h1,if_false]
 have:(decide (0<=(i:Int)) && decide ((i:Int) < n))=true:=by simp; assumption
 rw [if_pos this]; simp
theorem jo2 {i:Nat}(h0:0 < i)(h:i<=n):seqIndex? (-(i:Int)) n=some (n - i):=by
 unfold seqIndex?
 have h1:(-(i:Int) < 0):=by grind
 simp only [h1,if_true]
 have:(decide (0<=-(i:Int)+n) && decide (-(i:Int)+n < n))=true:=by simp; grind
 rw [if_pos this]
 congr 1
 grind
end
section
open PySem.Builtin.Str
section
variable {T:Tab} {n:Nat} {ρ:Rho} {p:Pos}
theorem oS {α β:Type}{x:Option α}{f:α->β}{y:Option β}{a:α}(h:x=some a):orE x f y=some (f a):=h ▸ rfl
theorem jm3 {r:Option DK}(hk:T.hook ρ e=none)(h:qv3 T (Ev.at T n) ρ e=r):(Ev.at T (n+1)).e ρ e=r:=by
 show orE (T.hook ρ e) id (qv3 T (Ev.at T n) ρ e)=r
 rw [hk]; exact h
theorem gV {α:Type}{x:Option DK}{f:D->Nat->Option α}(h:x=some (d,k)):dkV x f=f d k:=h ▸ rfl
theorem gI {α:Type}{x:Option DK}{d:Int}{f:Int->Nat->Option α}(h:x=some (.int d,k)):dkI x f=f d k:=h ▸ rfl
theorem gS {α:Type}{x:Option DK}{d:Str}{f:Str->Nat->Option α}(h:x=some (.str d,k)):dkS x f=f d k:=h ▸ rfl
theorem gL {α:Type}{x:Option DK}{d:List D}{f:List D->Nat->Option α}(h:x=some (.list d,k)):dkL x f=f d k:=h ▸ rfl
theorem gAs {α:Type}{x:Option DK}{d:Str}{f:Str->Nat->Option α}{f':List D->Nat->Option α}(h:x=some (.str d,k)):dkA x f f'=f d k:=h ▸ rfl
theorem gAl {α:Type}{x:Option DK}{d:List D}{f:Str->Nat->Option α}{f':List D->Nat->Option α}(h:x=some (.list d,k)):dkA x f f'=f' d k:=h ▸ rfl
theorem bO {α β:Type}{x:Option α}{a:α}{f:α->Option β}(h:x=some a):x.bind f=f a:=h ▸ rfl
theorem ja2 {dk:DK}(hk:T.hook ρ (.Name x p)=none)(hd:(x==("__debug__":Str))=false)(h:ρ.vars.lookup x=some dk):(Ev.at T (n+1)).e ρ (.Name x p)=some dk :=
 jm3 hk ((if_neg (λz=>Bool.noConfusion (hd.symm.trans z))).trans h)
theorem je3 {i:Int}{c:Nat}(hk:T.hook ρ (.Constant (.int i) c p)=none):(Ev.at T (n+1)).e ρ (.Constant (.int i) c p)=some (.int i,0):=jm3 hk rfl
theorem r_none {c:Nat}(hk:T.hook ρ (.Constant .none c p)=none):(Ev.at T (n+1)).e ρ (.Constant .none c p)=some (.none,0):=jm3 hk rfl
theorem r_hk {dk:DK}(hk:T.hook ρ e=some dk):(Ev.at T (n+1)).e ρ e=some dk:=by
 show orE (T.hook ρ e) id (qv3 T (Ev.at T n) ρ e)=_
 rw [hk]; rfl
theorem je4 {l r:Expr}{op:Operator}{a b:D}{ka kb:Nat}(hk:T.hook ρ (.BinOp l op r p)=none)(x:(Ev.at T n).e ρ l=some (a,ka))(y:(Ev.at T n).e ρ r=some (b,kb))(h:binD op a ka b kb=some (d,k)):(Ev.at T (n+1)).e ρ (.BinOp l op r p)=some (d,k) :=
 jm3 hk (show binE _ ρ l r op=_ from(gV x).trans ((gV y).trans h))
theorem r_or2 {x y:Expr}{a:D}{r:Option DK}(hk:T.hook ρ (.BoolOp .Or [x,y] p)=none)(hx:(Ev.at T n).e ρ x=some (a,k))(hl:jv9 a=true)(h:(if je6 a=true then some (a,k) else (Ev.at T n).e ρ y)=r):(Ev.at T (n+1)).e ρ (.BoolOp .Or [x,y] p)=r :=
 jm3 hk (show or2E _ ρ x y=_ from(gV hx).trans ((if_pos hl).trans h))
theorem jv8 {o i:Expr}{a:D}{kz:Nat}{z:Int}(hk:T.hook ρ (.Subscript o i p)=none)(hs:SubS.notSlice i=true)(x:(Ev.at T n).e ρ o=some (a,k))(y:(Ev.at T n).e ρ i=some (.int z,kz))(h:idxD a z=some d):(Ev.at T (n+1)).e ρ (.Subscript o i p)=some (d,k - 1):=by
 have key:subE (Ev.at T n) ρ o i=idxE (Ev.at T n) ρ o i:=dif_neg (bne_iff_ne.mp hs)
 exact jm3 hk (key.trans ((if_pos hs).trans ((gV x).trans ((gI y).trans (bO h)))))
theorem qw8 {o:Expr}{lo hi:Option Expr}{q:Pos}{l h:Option Int}(hk:T.hook ρ (.Subscript o (.Slice lo hi none q) p)=none)(hx:(Ev.at T n).e ρ o=some (.str x,k))(hl:jo9 (Ev.at T n) ρ lo=some l)(hh:jo9 (Ev.at T n) ρ hi=some h)(hz:x.length<=cap) :
  (Ev.at T (n+1)).e ρ (.Subscript o (.Slice lo hi none q) p)=some (.str (Txt.slice x l h),0) :=
 jm3 hk (show orE (cutS _ ρ o lo hi none) id _=_ from oS ((bO hl).trans ((bO hh).trans ((gAs hx).trans (if_pos hz)))))
theorem jg9 {i:Int}(h:(Ev.at T n).e ρ e=some (.int i,k)):jo9 (Ev.at T n) ρ (some e)=some (some i) :=
 show dkV ((Ev.at T n).e ρ e) (λd zw=>orE (onI some d) some ((qn8 d).bind λzw=>some none))=_ from(gV h).trans rfl
theorem ue1 (h:(Ev.at T n).e ρ e=some (.none,k)):jo9 (Ev.at T n) ρ (some e)=some none :=
 show dkV ((Ev.at T n).e ρ e) (λd zw=>orE (onI some d) some ((qn8 d).bind λzw=>some none))=_ from(gV h).trans rfl
theorem jf6 {α β:Type}{f:α->Option β}{a:α}{b:β}(h:f a=some b):mapO f [a]=some [b]:=(bO h).trans rfl
theorem jr8 {α β:Type}{f:α->Option β}{a a':α}{b b':β}(h:f a=some b)(h':f a'=some b'):mapO f [a,a']=some [b,b']:=(bO h).trans ((bO (jf6 h')).trans rfl)
theorem oN {α β:Type}{x:Option α}{f:α->β}{y:Option β}(h:x=none):orE x f y=y:=h ▸ rfl
theorem ju9 {f:Str}{q:Pos}{args:List Expr}{vs:List DK}(hk:T.hook ρ (.Call (.Name f q) args [] p)=none)(hsc:ρ.sc.lookup f=some .globalImplicit)(hs:args.all jb1=true)(hv:mapO ((Ev.at T n).e ρ) args=some vs)(h9:lvl9 vs=true)(h:btD f (vs.map (·.1))=some d) :
  (Ev.at T (n+1)).e ρ (.Call (.Name f q) args [] p)=some (d,0) :=
 jm3 hk (show callE T _ ρ f args=_ from(if_pos ⟨hsc,hs⟩).trans ((bO hv).trans ((if_pos h9).trans (oS h))))
theorem r_fn {f:Str}{q:Pos}{args:List Expr}{vs:List DK}(hk:T.hook ρ (.Call (.Name f q) args [] p)=none)(hsc:ρ.sc.lookup f=some .globalImplicit)(hs:args.all jb1=true)(hv:mapO ((Ev.at T n).e ρ) args=some vs)(h9:lvl9 vs=true)(hb:btD f (vs.map (·.1))=none)(h0:lvl0 vs=true)(hd:(f==("__debug__":Str))=false)(h:T.call f (vs.map (·.1))=some d) :
  (Ev.at T (n+1)).e ρ (.Call (.Name f q) args [] p)=some (d,0) :=
 jm3 hk (show callE T _ ρ f args=_ from(if_pos ⟨hsc,hs⟩).trans ((bO hv).trans ((if_pos h9).trans ((oN hb).trans ((if_pos ⟨h0,hd⟩).trans (bO h))))))
theorem qv0 (hp:jr6 e=true)(h:(Ev.at T n).e ρ e=some (d,k))(hl:jv9 d=true):(Ev.at T (n+1)).t ρ e=some (je6 d):=by
 show stepT (Ev.at T n) ρ e=_
 have key:stepT (Ev.at T n) ρ e=testV (Ev.at T n) ρ e:=by
  have h:=hp
  unfold jr6 at h
  rw [Bool.and_eq_true,Bool.and_eq_true,Bool.and_eq_true,bne_iff_ne,bne_iff_ne,bne_iff_ne,bne_iff_ne] at h
  exact(dif_neg h.1.1.1).trans ((dif_neg h.1.1.2).trans (dif_neg h.2))
 exact key.trans ((if_pos hp).trans ((gV h).trans (if_pos hl)))
theorem ji0 {l r:Expr}{op:CmpOp}{a b:D}{ka kb:Nat}{c:Bool}(hm:behindInMarks op r=false)(ha:(Ev.at T n).e ρ l=some (a,ka))(hb:(Ev.at T n).e ρ r=some (b,kb))(hc:cmpD op a b=some c):(Ev.at T (n+1)).t ρ (.Compare l [op] [r] p)=some c :=
 show cmpE1 (Ev.at T n) ρ l id op r=_ from(if_pos hm).trans ((gV ha).trans ((gV hb).trans ((bO hc).trans rfl)))
theorem jk4 {x:Expr}{es:List Expr}{b c:Bool}(hx:(Ev.at T n).t ρ x=some b)(hr:b=true->(Ev.at T n).t ρ (.BoolOp .And es p)=some c):(Ev.at T (n+1)).t ρ (.BoolOp .And (x::es) p)=some (b && c) :=
 show boolT (Ev.at T n) ρ .And p (x::es)=_ from(bO hx).trans (by
  cases b with
  | true=>exact hr rfl
  | false=>rfl)
theorem ub9:(Ev.at T (n+1)).t ρ (.BoolOp .And [] p)=some true:=rfl
theorem t_or {x:Expr}{es:List Expr}{b c:Bool}(hx:(Ev.at T n).t ρ x=some b)(hr:b=false->(Ev.at T n).t ρ (.BoolOp .Or es p)=some c):(Ev.at T (n+1)).t ρ (.BoolOp .Or (x::es) p)=some (b || c) :=
 show boolT (Ev.at T n) ρ .Or p (x::es)=_ from(bO hx).trans (by
  cases b with
  | false=>exact hr rfl
  | true=>rfl)
theorem t_or0:(Ev.at T (n+1)).t ρ (.BoolOp .Or [] p)=some false:=rfl
theorem t_not {b:Bool}(h:(Ev.at T n).t ρ e=some b):(Ev.at T (n+1)).t ρ (.UnaryOp .Not e p)=some (!b) :=
 show(((Ev.at T n).t ρ e).bind λb=>some (!b))=_ from bO h
end
section
variable {R:Ev} {X:Rho->List Stmt->Option (Fl×Rho)} {ρ:Rho} {p np:Pos}
theorem jg7 {v:Expr}(hx:stOk ρ x=true)(hv:jk6 v=true)(h:R.e ρ v=some (d,0)):jc9 R X ρ (.Assign [.Name x np] v p)=some (.next,ρ.put x d 0) :=
 show qn9 (qh1 R ρ x np v)=_ from bO (show qh1 R ρ x np v=some (ρ.put x d 0) from(if_pos hx).trans ((if_pos hv).trans ((gV h).trans rfl)))
theorem ud1 {y:Str}{np':Pos}{v:Expr}(hx:stOk ρ x=true)(hy:stOk ρ y=true)(hv:jk6 v=true)(ht:isTuple v=false)(h:R.e ρ v=some (d,0)):jc9 R X ρ (.Assign [.Name x np,.Name y np'] v p)=some (.next,(ρ.put x d 0).put y d 0) :=
 show asg2E R ρ x y v=_ from(if_pos ⟨hx,hy,hv,ht⟩).trans ((gV h).trans rfl)
theorem s_aug {op:Operator}{v:Expr}{a b:D}(hx:stOk ρ x=true)(hl:ρ.vars.lookup x=some (a,0))(h:R.e ρ v=some (b,k))(hd:augD op a b=some d):jc9 R X ρ (.AugAssign (.Name x np) op v p)=some (.next,ρ.put x d 0) :=
 show augE R ρ x op v=_ from(if_pos hx).trans ((gV hl).trans ((gV h).trans ((if_pos rfl).trans (bO hd))))
theorem qi4 {sp:Pos}{i v:Expr}{xs:List D}{z:Int}{kz:Nat}(hc:jk6 v=true/\jh4 i=true/\jk7 ρ x=true/\SubS.notSlice i=true/\(x==("__debug__":Str))=false)(hv:R.e ρ v=some (d,0))(hl:ρ.vars.lookup x=some (.list xs,1))(hi:R.e ρ i=some (.int z,kz))(hz:0<=z/\z < xs.length) :
  jc9 R X ρ (.Assign [.Subscript (.Name x np) i sp] v p)=some (.next,ρ.put x (.list (xs.set z.toNat d)) 1) :=
 show setE R ρ x i v=_ from(if_pos hc).trans ((gV hv).trans ((gL hl).trans ((gI hi).trans (if_pos ⟨rfl,rfl,hz⟩))))
theorem s_if {t:Expr}{b o:List Stmt}{c:Bool}{r:Option (Fl×Rho)}(ht:R.t ρ t=some c)(h:(if c then X ρ b else X ρ o)=r):jc9 R X ρ (.If t b o p)=r :=
 show iffE R X ρ t b o=r from(bO ht).trans h
theorem qe6 (h:R.e ρ e=some (d,k)):jc9 R X ρ (.Return (some e) p)=some (.ret d,ρ):=show dkV (R.e ρ e) (λd zw=>some (Fl.ret d,ρ))=_ from gV h
theorem s_for {body:List Stmt}{xs:List Str}{items:List D}{r:Option (Fl×Rho)}(hn:jb3 target=some xs)(hs:jh4 iter=true/\xs.all (stOk ρ)=true)(hi:R.i ρ (ttOf target) iter=some items)(h:jp3 X target body items ρ=r):jc9 R X ρ (.For target iter body [] p)=r :=
 show forE R X ρ target iter body=r from(bO hn).trans ((if_pos hs).trans ((bO hi).trans h))
theorem jd6 {st:Stmt}{ρ1:Rho}{ss:List Stmt}{r:Option (Fl×Rho)}(h:jc9 R (run R n) ρ st=some (.next,ρ1))(hr:run R n ρ1 ss=r):run R (n+1) ρ (st::ss)=r :=
 show(jc9 R (run R n) ρ st).bind (thn λρ'=>run R n ρ' ss)=r from(bO h).trans hr
theorem jt3 {st:Stmt}{ρ1:Rho}{ss:List Stmt}(h:jc9 R (run R n) ρ st=some (.ret d,ρ1)):run R (n+1) ρ (st::ss)=some (.ret d,ρ1) :=
 show(jc9 R (run R n) ρ st).bind (thn λρ'=>run R n ρ' ss)=_ from(bO h).trans rfl
theorem ji3 {y:Str}:(ρ.put x d k).vars.lookup y=if y==x then some (d,k) else ρ.vars.lookup y:=jg5 _ _ _ _
end
end
section
open PySem.Builtin.Str
section
variable {R:Ev} {X:Rho->List Stmt->Option (Fl×Rho)} {target:Expr} {body:List Stmt}
theorem qi6 (Inv:Nat->Rho->Prop):∀(items:List D) (i:Nat) (ρ:Rho),Inv i ρ->(∀j ρ d,Inv (i+j) ρ->items[j]?=some d->∃ρ1 ρ2,js7 ρ target d=some ρ1/\X ρ1 body=some (.next,ρ2)/\Inv (i+j+1) ρ2) →
  ∃ρ',jp3 X target body items ρ=some (.next,ρ')/\Inv (i+items.length) ρ'
 | [],i,ρ,h,_=>⟨ρ,rfl,h⟩
 | d::ds,i,ρ,h,step=>by
  obtain⟨ρ1,ρ2,h1,h2,h3⟩:=step 0 ρ d h rfl
  obtain⟨ρ',e,h4⟩:=qi6 Inv ds (i+1) ρ2 h3 λj ρ d hi hd=>by
   have:=step (j+1) ρ d (by rw [show i+(j+1)=i+1+j by (simp +arith)]; exact hi) (by simpa using hd)
   rw [show i+(j+1)+1=i+1+j+1 by (simp +arith)] at this
   exact this
  refine⟨ρ',?_,by rw [List.length_cons,show i+(ds.length+1)=i+1+ds.length by (simp +arith)]; exact h4⟩
  exact(bO h1).trans ((bO h2).trans e)
theorem qi5 (Inv:Nat->Rho->Prop)(A:D):∀(items:List D) (i:Nat) (ρ:Rho),Inv i ρ->(∀j ρ d,Inv (i+j) ρ->items[j]?=some d->∃ρ1 ρ2,js7 ρ target d=some ρ1/\((X ρ1 body=some (.next,ρ2)/\Inv (i+j+1) ρ2)\/X ρ1 body=some (.ret A,ρ2))) →
  ∃ρ',(jp3 X target body items ρ=some (.next,ρ')/\Inv (i+items.length) ρ')\/jp3 X target body items ρ=some (.ret A,ρ')
 | [],i,ρ,h,_=>⟨ρ,.inl ⟨rfl,h⟩⟩
 | d::ds,i,ρ,h,step=>by
  obtain⟨ρ1,ρ2,h1,h2⟩:=step 0 ρ d h rfl
  rcases h2 with ⟨h2,h3⟩ | h2
  ·obtain⟨ρ',e⟩:=qi5 Inv A ds (i+1) ρ2 h3 λj ρ d hi hd=>by
    have:=step (j+1) ρ d (by rw [show i+(j+1)=i+1+j by grind]; exact hi) (by simpa using hd)
    rw [show i+(j+1)+1=i+1+j+1 by grind] at this
    exact this
   refine⟨ρ',?_⟩
   have key:jp3 X target body (d::ds) ρ=jp3 X target body ds ρ2:=by
    exact(bO h1).trans ((bO h2).trans rfl)
   rw [key,List.length_cons,show i+(ds.length+1)=i+1+ds.length by grind]
   exact e
  ·exact⟨ρ2,.inr ((bO h1).trans ((bO h2).trans rfl))⟩
theorem qr3 {t:Expr}{b:List Stmt}{p:Pos}(Inv:Nat->Rho->Prop):∀(N i:Nat) (m:Nat) (ρ:Rho),Inv i ρ->N+3<=m->(∀j ρ,j < N->Inv (i+j) ρ->R.t ρ t=some true/\∃ρ2,(∀m,2<=m->run R m ρ b=some (.next,ρ2))/\Inv (i+j+1) ρ2)->(∀ρ,Inv (i+N) ρ->R.t ρ t=some false) →
  ∃ρ',jc9 R (run R m) ρ (.While t b [] p)=some (.next,ρ')/\Inv (i+N) ρ'
 | 0,i,m,ρ,h,hm,_,hf=>⟨ρ,by
   exact show qh7 R (run R m) ρ t b p=_ from(bO (hf ρ h)).trans rfl,h⟩
 | N+1,i,m,ρ,h,hm,step,hf=>by
  obtain⟨ht,ρ2,hb,h2⟩:=step 0 ρ (by (exact Nat.le_add_left _ _)) h
  obtain⟨m,rfl⟩:∃q,m=q+1:=⟨m - 1,by grind⟩
  obtain⟨ρ',e,h3⟩:=qr3 Inv N (i+1) m ρ2 h2 (by grind) (λj ρ hj hi=>by
   have:=step (j+1) ρ (by grind) (by rw [show i+(j+1)=i+1+j by (simp +arith)]; exact hi)
   rw [show i+(j+1)+1=i+1+j+1 by (simp +arith)] at this
   exact this) (λρ hi=>hf ρ (by rw [show i+(N+1)=i+1+N by (simp +arith)]; exact hi))
  refine⟨ρ',?_,by rw [show i+(N+1)=i+1+N by (simp +arith)]; exact h3⟩
  refine(show qh7 R (run R (m+1)) ρ t b p=_ from(bO ht).trans (bO (hb (m+1) (by grind)))).trans ?_
  refine jd6 e ?_
  obtain⟨q,rfl⟩:∃q,m=q+1:=⟨m - 1,by grind⟩
  rfl
end
end
set_option backward.match.sparseCases false
section
open PySem.Builtin.Str
section
variable {R:Ev} {owns:List Str} {n:Nat} {ρ ρ':Rho} {st:Stmt} {rest:List Stmt} {p np:Pos} {d:D}
noncomputable def qf2 (st:Stmt):Bool:=(nameA st).isNone
theorem ul9 (ho:qg1 owns st=none):jf8 R owns (n+1) ρ (st::rest)=qc0 R (run R n) (jf8 R owns n) ρ st rest:=by
 show(match qg1 owns st with | some q=>ownB R (jf8 R owns n) ρ q.1 q.2.1 q.2.2.1 rest | none=>qc0 R (run R n) (jf8 R owns n) ρ st rest)=_
 rw [ho]
theorem qx8 (h:qf2 st=true):qg1 owns st=none :=
 (congrArg (λz:Option (Str×Pos×Expr×Pos)=>z.bind λq=>if owns.contains q.1=true then some q else none) (Option.isNone_iff_eq_none.mp h)).trans rfl
theorem qu6 (h:qf2 st=true):jf8 R owns (n+1) ρ (st::rest)=qc0 R (run R n) (jf8 R owns n) ρ st rest:=ul9 (qx8 h)
theorem jk2 (hp:qf2 st=true)(h:jc9 R (run R n) ρ st=some (.next,ρ'))(hr:jf8 R owns n ρ' rest=some d):jf8 R owns (n+1) ρ (st::rest)=some d :=
 (qu6 hp).trans ((bO h).trans hr)
theorem jv3 (hp:qf2 st=true)(h:jc9 R (run R n) ρ st=some (.ret d,ρ')):jf8 R owns (n+1) ρ (st::rest)=some d :=
 (qu6 hp).trans ((bO h).trans rfl)
theorem jh6 {v:Expr}{e:D}(ho:owns.contains x=false)(hx:stOk ρ x=true)(hv:jk6 v=true)(h:R.e ρ v=some (e,0))(hr:jf8 R owns n (ρ.put x e 0) rest=some d):jf8 R owns (n+1) ρ (.Assign [.Name x np] v p::rest)=some d :=
 (ul9 (st:=.Assign [.Name x np] v p) (show qg1 owns (.Assign [.Name x np] v p)=none from(if_neg (λz=>Bool.noConfusion (ho.symm.trans z)):(if owns.contains x=true then some (x,np,v,p) else none)=none))).trans ((bO (jg7 hx hv h)).trans hr)
theorem bd_own {v:Expr}(ho:owns.contains x=true)(hx:stOk ρ x=true)(hv:uf0 ρ x np v=true)(h:qt2 R ρ.lvl0 v=some ds)(hpl:plainDs ds=true)(hr:jf8 R owns n (ρ.lvl0.put x (.list ds) 1) rest=some d):jf8 R owns (n+1) ρ (.Assign [.Name x np] v p::rest)=some d:=by
 show(match qg1 owns (.Assign [.Name x np] v p) with | some q=>ownB R (jf8 R owns n) ρ q.1 q.2.1 q.2.2.1 rest | none=>qc0 R (run R n) (jf8 R owns n) ρ (.Assign [.Name x np] v p) rest)=_
 rw [show qg1 owns (.Assign [.Name x np] v p)=some (x,np,v,p) from if_pos ho]
 exact(if_pos ⟨hx,hv⟩).trans ((bO h).trans ((if_pos hpl).trans hr))
end
theorem qf1 {β:Type}(f:Str×β->Bool)(x:Str)(q:β)(hq:f (x,q)=true):∀(l:List (Str×β)),l.all f=true->(putL x q l).all f=true
 | [],_=>by simp [putL,hq]
 | (y,r)::l,h=>by
  simp only [List.all_cons,Bool.and_eq_true] at h
  unfold putL
  cases hb:y==x with
  | true =>
   have:=beq_iff_eq.mp hb; subst this
   simp [hq]; simpa using h.2
  | false =>
   simp only [Bool.false_eq_true,if_false,List.all_cons,Bool.and_eq_true]
   exact⟨h.1,qf1 f x q hq l h.2⟩
theorem jc0 {y:Str}(h:jk7 ρ x=true)(hk:(y==x || k==0)=true):jk7 (ρ.put y d k) x=true:=qf1 _ _ _ hk _ h
theorem ue2:jk7 (ρ.lvl0.put x d k) x=true:=by
 refine qf1 _ _ _ (by simp) _ ?_
 show(ρ.vars.map λp=>(p.1,(p.2.1,0))).all _=true
 simp
theorem jr9 (h:ρ.vars.lookup x=some (d,k)):ρ.lvl0.vars.lookup x=some (d,0):=by
 show(ρ.vars.map λp=>(p.1,(p.2.1,0))).lookup x=_
 rw [jp7,h]; rfl
noncomputable def jd7 (ρ:Rho) (e:Expr):Option DK:=(jb6 e).bind λx =>
   if x==("_MAX_STRING_SIZE":Str) then (if ρ.sc.lookup ("_MAX_STRING_SIZE":Str)=some .globalImplicit then some (.int 40,0) else none)
   else if x==("_MOVE_COST":Str) then (if ρ.sc.lookup ("_MOVE_COST":Str)=some .globalImplicit then some (.int 2,0) else none)
   else if x==("_CASE_COST":Str) then (if ρ.sc.lookup ("_CASE_COST":Str)=some .globalImplicit then some (.int 1,0) else none) else none
noncomputable def subC (x y:Nat):Int:=if x==y then 0 else if (Txt.lower (S [x])).cps.toList==(Txt.lower (S [y])).cps.toList then 1 else 2
noncomputable def preN:List Nat->List Nat->Nat
 | x::xs,y::ys=>if x==y then preN xs ys+1 else 0
 | _,_=>0
theorem qn4:∀(a b:List Nat),preN a b<=a.length/\preN a b<=b.length
 | [],_=>by simp [preN]
 | _::_,[]=>by simp [preN]
 | x::xs,y::ys=>by
  unfold preN
  have:=qn4 xs ys
  split <;> simp <;> omega
theorem jy1:∀(a b:List Nat) (i:Nat),i < preN a b->∃(h1:i < a.length) (h2:i < b.length),a[i]=b[i]
 | [],_,i,h=>by simp [preN] at h
 | _::_,[],i,h=>by simp [preN] at h
 | x::xs,y::ys,i,h=>by
  unfold preN at h
  split at h
  ·rename_i hx
   cases i with
   | zero=>exact⟨by simp,by simp,by simpa using hx⟩
   | succ i =>
    obtain⟨h1,h2,h3⟩:=jy1 xs ys i (by grind)
    exact⟨by simpa using h1,by simpa using h2,by simpa using h3⟩
  ·grind
theorem jy0:∀(a b:List Nat),(h1:preN a b < a.length)->(h2:preN a b < b.length)->a[preN a b]≠b[preN a b]
 | [],_,h1,_=>by simp at h1
 | _::_,[],_,h2=>by simp at h2
 | x::xs,y::ys,h1,h2=>by
  unfold preN at h1 h2 ⊢
  by_cases hx:(x==y)=true
  ·simp only [hx,if_true] at h1 h2 ⊢
   have:=jy0 xs ys (by simpa using h1) (by simpa using h2)
   simpa using this
  ·simp only [hx] at h1 h2 ⊢
   simpa using hx
end
section
open PySem.Builtin.Str
noncomputable def bigM:Int:=9223372036854775807
noncomputable def qq4 (a:List Nat) (bc:Nat) (s:List Int×Int×Int×Int) (j:Nat):List Int×Int×Int×Int :=
 let sub:=s.2.1+subC bc (a.getD j 0)
 let dist:=s.1.getD j 0
 let res:=min (min s.2.2.1 dist+2) sub
 (s.1.set j res,dist,res,if res < s.2.2.2 then res else s.2.2.2)
noncomputable def jn1 (a:List Nat) (bc:Nat) (i:Nat) (row:List Int):List Int×Int×Int×Int:=(List.range a.length).foldl (qq4 a bc) (row,2*(i:Int),2*(i:Int),bigM)
noncomputable def qb5 (a:List Nat) (m:Int):List Nat->Nat->List Int->Int->Int
 | [],_,_,res=>res
 | bc::bs,i,row,_=>let s:=jn1 a bc i row; if s.2.2.2 > m then m+1 else qb5 a m bs (i+1) s.1 s.2.2.1
noncomputable def levT (a b:List Nat) (m:Int):Int:=qb5 a m b 0 ((List.range a.length).map λ(k:Nat)=>2+(k:Int)*2) 0
noncomputable def levS (a b:List Nat) (m:Int):Int :=
 if a=[]\/b=[] then 2*((a.length:Int)+b.length)
 else if a.length > 40\/b.length > 40 then m+1
 else if b.length < a.length then (if ((a.length:Int) - b.length)*2 > m then m+1 else levT b a m)
 else (if ((b.length:Int) - a.length)*2 > m then m+1 else levT a b m)
noncomputable def sufN (a b:List Nat):Nat:=preN a.reverse b.reverse
noncomputable def levF (a b:List Nat) (m:Int):Int :=
 if a=b then 0 else
  let a_1:=a.drop (preN a b)
  let b_1:=b.drop (preN a b)
  levS (a_1.take (a_1.length - sufN a_1 b_1)) (b_1.take (b_1.length - sufN a_1 b_1)) m
section
variable {R:Ev} {X:Rho->List Stmt->Option (Fl×Rho)} {owns:List Str} {n:Nat} {ρ:Rho} {rest:List Stmt} {p:Pos} {d:D}
theorem qw2 {t:Expr}{b o:List Stmt}{r:Option (Fl×Rho)}(ht:R.t ρ t=some true)(h:X ρ b=r):jc9 R X ρ (.If t b o p)=r:=s_if ht h
theorem qe7 {t:Expr}{b o:List Stmt}{r:Option (Fl×Rho)}(ht:R.t ρ t=some false)(h:X ρ o=r):jc9 R X ρ (.If t b o p)=r:=s_if ht h
theorem qu5 {t:Expr}{b:List Stmt}(Inv:Nat->Rho->Prop)(N:Nat)(h0:Inv 0 ρ)(hm:N+3<=n)(step:∀j ρ,j < N->Inv j ρ->R.t ρ t=some true/\∃ρ2,(∀m,2<=m->run R m ρ b=some (.next,ρ2))/\Inv (j+1) ρ2)(hf:∀ρ,Inv N ρ->R.t ρ t=some false)
  (hr:∀ρ',Inv N ρ'->jf8 R owns n ρ' rest=some d):jf8 R owns (n+1) ρ (.While t b [] p::rest)=some d:=by
 obtain⟨ρ',e,hi⟩:=qr3 (R:=R) (t:=t) (b:=b) (p:=p) Inv N 0 n ρ h0 hm (λj ρ hj hi=>by
  rw [Nat.zero_add] at hi ⊢
  exact step j ρ hj hi) (λρ hi=>hf ρ (by rw [Nat.zero_add] at hi; exact hi))
 exact jk2 rfl e (hr ρ' (by rw [Nat.zero_add] at hi; exact hi))
theorem stn {names:List (Str×NameKind)}(h:ρ.sc=names)(hx:(names.lookup x==some .local || names.lookup x==some .cell)=true):stOk ρ x=true:=by
 unfold stOk; rw [h]; exact hx
end
noncomputable def lvL:List Str:=["a","b","pre","post","row","result","bindex","bchar","distance","minimum","index","substitute","insert_delete"]
noncomputable def lvG:List Str:=["len","_MOVE_COST","_MAX_STRING_SIZE","range","list","min","_substitution_cost"]
structure LvM (names:List (Str×NameKind)) (A B:List Nat) (m:Int) (ρ:Rho):Prop where
 sc:ρ.sc=names
 a:ρ.vars.lookup ("a":Str)=some (.str (S A),0)
 b:ρ.vars.lookup ("b":Str)=some (.str (S B),0)
 c:ρ.vars.lookup ("max_cost":Str)=some (.int m,0)
 l:∀x,lvL.contains x=true->(names.lookup x==some .local || names.lookup x==some .cell)=true
 g:∀x,lvG.contains x=true->(names.lookup x==some .globalImplicit)=true
theorem LvM.put {names:List (Str×NameKind)}{A B:List Nat}{m:Int}(h:LvM names A B m ρ)(h1:(("a":Str)==x)=false)(h2:(("b":Str)==x)=false)(h3:(("max_cost":Str)==x)=false):LvM names A B m (ρ.put x d k) :=
 ⟨h.sc,by rw [ji3,h1]; exact h.a,by rw [ji3,h2]; exact h.b,by rw [ji3,h3]; exact h.c,h.l,h.g⟩
theorem LvM.st {names:List (Str×NameKind)}{A B:List Nat}{m:Int}(h:LvM names A B m ρ)(hx:lvL.contains x=true):stOk ρ x=true:=stn h.sc (h.l x hx)
theorem LvM.gl {names:List (Str×NameKind)}{A B:List Nat}{m:Int}(h:LvM names A B m ρ)(hx:lvG.contains x=true):ρ.sc.lookup x=some .globalImplicit:=h.sc ▸ eq_of_beq (h.g x hx)
theorem lv0 {A B:List Nat}{m:Int}:LvM (fnOf "_levenshtein_distance").2.1 A B m ⟨(fnOf "_levenshtein_distance").2.1,[("a",(.str (S A),0)),("b",(.str (S B),0)),("max_cost",(.int m,0))]⟩ :=
 ⟨rfl,rfl,rfl,rfl,λx hx=>List.all_eq_true.mp (show lvL.all (λx=>(fnOf "_levenshtein_distance").2.1.lookup x==some .local || (fnOf "_levenshtein_distance").2.1.lookup x==some .cell)=true by decide +kernel) x (List.contains_iff_mem.mp hx),
  λx hx=>List.all_eq_true.mp (show lvG.all (λx=>(fnOf "_levenshtein_distance").2.1.lookup x==some .globalImplicit)=true by decide +kernel) x (List.contains_iff_mem.mp hx)⟩
theorem qa1 {f:Str->List D->Option D}{l:List Nat}{p q r:Pos}(hk:jd7 ρ (.Name x p)=none)(hd:(x==("__debug__":Str))=false)(hsc:ρ.sc.lookup ("len":Str)=some .globalImplicit)(h:ρ.vars.lookup x=some (.str (S l),0))(hl:l.length<=100):(Ev.at ⟨f,jd7⟩ (n+2)).e ρ (.Call (.Name "len" q) [.Name x p] [] r)=some (.int l.length,0) :=
 ju9 rfl hsc rfl (jf6 (ja2 hk hd h)) rfl (by
  show(if (S l).length<=cap then some (PyData.int (S l).length) else none)=_
  rw [jq3,if_pos (by have:cap=100000:=rfl; (exact Nat.le_trans (by assumption) (by decide)))])
theorem qa0 {f:Str->List D->Option D}{p:Pos}(hsc:ρ.sc.lookup ("_MOVE_COST":Str)=some .globalImplicit):(Ev.at ⟨f,jd7⟩ (n+1)).e ρ (.Name "_MOVE_COST" p)=some (.int 2,0):=r_hk (by
 show(if ρ.sc.lookup ("_MOVE_COST":Str)=some .globalImplicit then some (PyData.int 2,0) else none)=_
 rw [if_pos hsc])
theorem e_max {f:Str->List D->Option D}{p:Pos}(hsc:ρ.sc.lookup ("_MAX_STRING_SIZE":Str)=some .globalImplicit):(Ev.at ⟨f,jd7⟩ (n+1)).e ρ (.Name "_MAX_STRING_SIZE" p)=some (.int 40,0):=r_hk (by
 show(if ρ.sc.lookup ("_MAX_STRING_SIZE":Str)=some .globalImplicit then some (PyData.int 40,0) else none)=_
 rw [if_pos hsc])
theorem qp4 {R:Ev}{p_1 p_2 q_1 q_2:Pos}{a b c:Expr}{x y z:Int}{kx ky kz:Nat}(h1:ρ.sc.lookup ("list":Str)=some .globalImplicit)(h2:ρ.sc.lookup ("range":Str)=some .globalImplicit)(hs:[a,b,c].all jb1=true)(ha:R.e ρ a=some (.int x,kx))(hb:R.e ρ b=some (.int y,ky))(hc:R.e ρ c=some (.int z,kz))(hr:jo8 x y z=true/\(jd9 x y z).length<=cap) :
  qt2 R ρ (.Call (.Name "list" p_1) [.Call (.Name "range" p_2) [a,b,c] [] q_1] [] q_2)=some ((jd9 x y z).map .int) :=
 show orE (rng3 R ρ "list" "range" [a,b,c]) id _=_ from oS ((if_pos ⟨rfl,rfl,h1,h2,hs⟩).trans ((gI ha).trans ((gI hb).trans ((gI hc).trans (if_pos hr)))))
theorem qj0 (n:Nat):jd9 2 (2*((n:Int)+1)) 2=(List.range n).map λ(k:Nat)=>2+(k:Int)*2:=by
 unfold jd9
 have:(Builtin.Range.rangeSize 2 (2*((n:Int)+1)) 2).toNat=n:=by
  unfold Builtin.Range.rangeSize
  rw [if_pos (by decide)]
  split <;> grind
 rw [this]
theorem qj1 (n:Nat):jd9 0 (n:Int) 1=(List.range n).map λ(k:Nat)=>(k:Int):=by
 unfold jd9
 have:(Builtin.Range.rangeSize 0 (n:Int) 1).toNat=n:=by
  unfold Builtin.Range.rangeSize
  rw [if_pos (by decide)]
  split <;> (first | (simp +arith; done) | grind)
 rw [this]
 refine List.map_congr_left λk zw=>?_
 (simp +arith)
noncomputable def Go (R:Ev) (n:Nat) (ρ:Rho) (ss:List Stmt) (P:Rho->Prop) (d:D):Prop:=∃ρ2,(run R n ρ ss=some (.next,ρ2)/\P ρ2)\/run R n ρ ss=some (.ret d,ρ2)
section
variable {R:Ev} {n:Nat} {ρ ρ1:Rho} {st:Stmt} {ss:List Stmt} {P:Rho->Prop} {d:D}
theorem go_nil (h:P ρ):Go R (n+1) ρ [] P d:=⟨ρ,.inl ⟨rfl,h⟩⟩
theorem jz2 (h:jc9 R (run R n) ρ st=some (.next,ρ1))(hr:Go R n ρ1 ss P d):Go R (n+1) ρ (st::ss) P d:=by
 obtain⟨ρ2,h1 | h1⟩:=hr
 ·exact⟨ρ2,.inl ⟨jd6 h h1.1,h1.2⟩⟩
 ·exact⟨ρ2,.inr (jd6 h h1)⟩
theorem go_end (h:jc9 R (run R n) ρ st=some (.ret d,ρ1)):Go R (n+1) ρ (st::ss) P d:=⟨ρ1,.inr (jt3 h)⟩
theorem go_for {body:List Stmt}{p:Pos}{xs:List Str}{items:List D}(Inv:Nat->Rho->Prop)(hn:jb3 target=some xs)(hs:jh4 iter=true/\xs.all (stOk ρ)=true)(hi:R.i ρ (ttOf target) iter=some items)(h0:Inv 0 ρ)
  (step:∀j ρ e,Inv j ρ->items[j]?=some e->∃ρ1 ρ2,js7 ρ target e=some ρ1/\run R n ρ1 body=some (.next,ρ2)/\Inv (j+1) ρ2) (hr:∀ρ',Inv items.length ρ'->Go R n ρ' ss P d):Go R (n+1) ρ (.For target iter body [] p::ss) P d:=by
 obtain⟨ρ',h,hI⟩:=qi6 (X:=run R n) (target:=target) (body:=body) Inv items 0 ρ h0 λj ρ e hI he=>by
  rw [Nat.zero_add] at hI ⊢
  exact step j ρ e hI he
 rw [Nat.zero_add] at hI
 exact jz2 (s_for hn hs hi h) (hr ρ' hI)
end
theorem bd_for {R:Ev}{owns:List Str}{body rest:List Stmt}{p:Pos}{xs:List Str}{items:List D}(Inv:Nat->Rho->Prop)(hn:jb3 target=some xs)(hs:jh4 iter=true/\xs.all (stOk ρ)=true)(hi:R.i ρ (ttOf target) iter=some items)(h0:Inv 0 ρ)
  (step:∀j ρ e,Inv j ρ->items[j]?=some e->∃ρ1,js7 ρ target e=some ρ1/\Go R n ρ1 body (Inv (j+1)) d) (hr:∀ρ',Inv items.length ρ'->jf8 R owns n ρ' rest=some d):jf8 R owns (n+1) ρ (.For target iter body [] p::rest)=some d:=by
 obtain⟨ρ',h⟩:=qi5 (X:=run R n) (target:=target) (body:=body) Inv d items 0 ρ h0 λj ρ e hI he=>by
  rw [Nat.zero_add] at hI ⊢
  obtain⟨ρ1,hb,ρ2,hg⟩:=step j ρ e hI he
  exact⟨ρ1,ρ2,hb,hg⟩
 rcases h with ⟨h,hI⟩ | h
 ·rw [Nat.zero_add] at hI
  exact jk2 rfl (s_for hn hs hi h) (hr ρ' hI)
 ·exact jv3 rfl (s_for hn hs hi h)
theorem i_it {T:Tab}{p q:Pos}{f:Str}{as:List Expr}{tt:Bool}{r:List D}(h:itE (Ev.at T n) ρ tt f as=some r):(Ev.at T (n+1)).i ρ tt (.Call (.Name f q) as [] p)=some r :=
 show orE (itE (Ev.at T n) ρ tt f as) id _=_ from oS h
theorem uh8 {T:Tab}{p q:Pos}{a:Expr}{b:Int}(hsc:ρ.sc.lookup ("range":Str)=some .globalImplicit)(hs:jb1 a=true)(h:(Ev.at T n).e ρ a=some (.int b,k))(hr:jo8 0 b 1=true):(Ev.at T (n+1)).i ρ false (.Call (.Name "range" q) [a] [] p)=some ((jd9 0 b 1).map .int) :=
 i_it ((if_pos ⟨hsc,by rw [List.all_cons,hs]; rfl⟩).trans (show dkI ((Ev.at T n).e ρ a) (λb zw=>if jo8 0 b 1=true then some ((jd9 0 b 1).map PyData.int) else none)=_ from(gI h).trans (if_pos hr)))
theorem qi7 (h:n<=100):jo8 0 (n:Int) 1=true:=by
 unfold jo8
 simp only [Bool.and_eq_true,decide_eq_true_eq]
 grind
theorem qg8 {a:List Nat}{bc:Nat}:∀(l:List Nat) (s:List Int×Int×Int×Int),(l.foldl (qq4 a bc) s).1.length=s.1.length
 | [],_=>rfl
 | j::l,s=>by rw [List.foldl_cons,qg8 l]; simp [qq4]
theorem lk_same:(ρ.put x d k).vars.lookup x=some (d,k):=by rw [ji3]; simp
theorem jb2 {y:Str}{r:Option DK}(h:(y==x)=false)(hr:ρ.vars.lookup y=r):(ρ.put x d k).vars.lookup y=r:=by rw [ji3,h]; exact hr
theorem qm4 {l:List Nat}{b:Bool}(h:(l≠[])=(b=true)):je6 (.str (S l))=b:=by
 show(((S l).length:Int) != 0)=b
 rw [jq3]
 cases l with
 | nil=>cases b <;> simp at h ⊢
 | cons x l=>cases b <;> simp at h ⊢; grind
theorem jk8 {l:List Nat}(h:l.length<=100):jv9 (.str (S l))=true:=decide_eq_true (by rw [jq3]; have:cap=100000:=rfl; grind)
theorem tru_take {l:List Nat}{j:Nat}{b:Bool}(h:decide (j < l.length)=b):je6 (.str (S (l.take (l.length - j))))=b:=by
 show(((S (l.take (l.length - j))).length:Int) != 0)=b
 rw [jq3,<- h]
 by_cases hj:j < l.length
 ·rw [decide_eq_true hj]; simp; grind
 ·rw [decide_eq_false hj]; simp; omega
theorem jg2 {l:List Nat}{j:Nat}(h:j<=l.length):Txt.slice (S l) none (if j=0 then none else some (-(j:Int)))=S (l.take (l.length - j)):=by
 split
 ·rename_i h0; subst h0; rw [uc7]; simp
 ·exact qw0 (by grind) h
theorem jy2 {T:Tab}{p q r:Pos}{c j:Nat}(hk:T.hook ρ (.BoolOp .Or [.Name x p,.Constant .none c q] r)=none)(hk1:T.hook ρ (.Name x p)=none)(hk2:T.hook ρ (.Constant .none c q)=none)(hd:(x==("__debug__":Str))=false)(h:ρ.vars.lookup x=some (.int (-(j:Int)),0)) :
  jo9 (Ev.at T (n+2)) ρ (some (.BoolOp .Or [.Name x p,.Constant .none c q] r))=some (if j=0 then none else some (-(j:Int))):=by
 have e:=r_or2 (n:=n+1) (r:=some (if j=0 then (PyData.none,0) else (.int (-(j:Int)),0))) hk (ja2 hk1 hd h) rfl (by
  show(if ((-(j:Int)) != 0)=true then _ else _)=_
  by_cases h0:j=0
  ·subst h0
   rw [if_pos rfl]
   exact r_none hk2
  ·rw [if_neg h0,if_pos (by simp; omega)])
 by_cases h0:j=0
 ·rw [if_pos h0] at e ⊢; exact ue1 e
 ·rw [if_neg h0] at e ⊢; exact jg9 e
theorem sufN_le (a b:List Nat):sufN a b<=a.length/\sufN a b<=b.length:=by have:=qn4 a.reverse b.reverse; unfold sufN; simpa using this
theorem qr7 (n j:Nat):n - 1 - j=n - (j+1):=by rw [Nat.sub_sub,Nat.add_comm]
theorem qe2 {j:Nat}(h:j < n):n - (j+1) < n:=Nat.sub_lt (Nat.lt_of_le_of_lt (Nat.zero_le _) h) (Nat.succ_pos _)
theorem uc1 (a b:List Nat)(j:Nat)(h:j < sufN a b):∃(h1:a.length - (j+1) < a.length) (h2:b.length - (j+1) < b.length),a[a.length - (j+1)]=b[b.length - (j+1)]:=by
 obtain⟨h1,h2,h3⟩:=jy1 a.reverse b.reverse j h
 simp only [List.length_reverse] at h1 h2
 refine⟨qe2 h1,qe2 h2,?_⟩
 rw [List.getElem_reverse,List.getElem_reverse] at h3
 simp only [qr7] at h3
 exact h3
theorem uc0 (a b:List Nat)(h1:sufN a b < a.length)(h2:sufN a b < b.length):a[a.length - (sufN a b+1)]'(qe2 h1)≠b[b.length - (sufN a b+1)]'(qe2 h2):=by
 have h3:=jy0 a.reverse b.reverse (by unfold sufN at h1; simpa using h1) (by unfold sufN at h2; simpa using h2)
 rw [List.getElem_reverse,List.getElem_reverse] at h3
 simp only [qr7] at h3
 exact h3
theorem qm6 {f:Str->List D->Option D}{y:Str}{p q r s:Pos}{l:List Nat}{j:Nat}(k1:jd7 ρ (.Name x p)=none)(k2:jd7 ρ (.Name y q)=none)(d1:(x==("__debug__":Str))=false)(d2:(y==("__debug__":Str))=false)(hx:ρ.vars.lookup x=some (.str (S l),0))(hy:ρ.vars.lookup y=some (.int (j:Int),0))(hj:j<=l.length)(hl:l.length<=100) :
  (Ev.at ⟨f,jd7⟩ (n+3)).t ρ (.Subscript (.Name x p) (.Slice (some (.Name y q)) none none r) s)=some (decide (j < l.length)):=by
 have hcap:cap=100000:=rfl
 have e:=jk5 (l:=l) (i:=j) hj
 exact(qv0 rfl (qw8 rfl (ja2 k1 d1 hx) (jg9 (ja2 k2 d2 hy)) rfl (by rw [jq3]; (exact Nat.le_trans (by assumption) (by decide)))) (by rw [e]; exact jk8 (by simp; grind))).trans (by rw [e,qm4 (b:=decide (j < l.length)) (by simp)])
theorem jx4 {f:Str->List D->Option D}{y:Str}{p q q' r s u:Pos}{c:Nat}{l:List Nat}{j:Nat}(k0:jd7 ρ (.BoolOp .Or [.Name y q,.Constant .none c q'] r)=none)(k1:jd7 ρ (.Name x p)=none)(k2:jd7 ρ (.Name y q)=none)(k3:jd7 ρ (.Constant .none c q')=none)(d1:(x==("__debug__":Str))=false)(d2:(y==("__debug__":Str))=false)(hx:ρ.vars.lookup x=some (.str (S l),0))(hy:ρ.vars.lookup y=some (.int (-(j:Int)),0))(hj:j<=l.length)(hl:l.length<=100) :
  (Ev.at ⟨f,jd7⟩ (n+4)).t ρ (.Subscript (.Name x p) (.Slice none (some (.BoolOp .Or [.Name y q,.Constant .none c q'] r)) none s) u)=some (decide (j < l.length)):=by
 have hcap:cap=100000:=rfl
 have e:=jg2 (l:=l) (j:=j) hj
 exact(qv0 rfl (qw8 rfl (ja2 k1 d1 hx) rfl (jy2 k0 k2 k3 d2 hy) (by rw [jq3]; grind)) (by rw [e]; exact jk8 (by simp; grind))).trans (by rw [e,tru_take (b:=decide (j < l.length)) rfl])
noncomputable def forB (s:Stmt):List Stmt:=if h:s.ctorIdx=9 then Stmt.For.elim (motive_2:=λzw=>List Stmt) s h λzw zw b zw zw=>b else []
noncomputable def lineB:List Stmt:=forB ((fnOf "_levenshtein_distance").1.getD 15 (.Break default))
noncomputable def cellB:List Stmt:=forB (lineB.getD 3 (.Break default))
noncomputable def Lk (ρ:Rho) (x:Str) (d:D):Prop:=ρ.vars.lookup x=some (d,0)
structure CellI (names:List (Str×NameKind)) (A B:List Nat) (m:Int) (bc:Nat) (st:List Int×Int×Int×Int) (ρ:Rho):Prop where
 L:LvM names A B m ρ
 o:jk7 ρ "row"=true
 bc:Lk ρ "bchar" (.str (S [bc]))
 row:ρ.vars.lookup ("row":Str)=some (.list (st.1.map .int),1)
 di:Lk ρ "distance" (.int st.2.1)
 re:Lk ρ "result" (.int st.2.2.1)
 mn:Lk ρ "minimum" (.int st.2.2.2)
theorem ul0 {f:Str->List D->Option D}(hf:∀x y:Nat,f "_substitution_cost" [.str (S [x]),.str (S [y])]=some (.int (subC x y))){names:List (Str×NameKind)}{A B:List Nat}{m:Int}{bc:Nat}{st:List Int×Int×Int×Int}{j:Nat}(hA:A.length<=40)(hj:j < A.length)(hl:st.1.length=A.length)(I:CellI names A B m bc st ρ) :
  ∃ρ2,run (Ev.at ⟨f,jd7⟩ 12) (n+8) (ρ.put "index" (.int (j:Int)) 0) cellB=some (.next,ρ2)/\CellI names A B m bc (qq4 A bc st j) ρ2:=by
 obtain⟨rw',di,re,mn⟩:=st
 have hjl:j < rw'.length:=Nat.lt_of_lt_of_eq hj hl.symm
 have hgd:rw'.getD j 0=rw'[j]:=by simp [List.getD_eq_getElem?_getD,List.getElem?_eq_getElem hjl]
 have hga:A.getD j 0=A[j]:=by simp [List.getD_eq_getElem?_getD,List.getElem?_eq_getElem hj]
 have hrow':idxD (.list (rw'.map .int)) (j:Int)=some (.int rw'[j]):=by
  show(seqIndex? (j:Int) (rw'.map PyData.int).length).bind ((rw'.map PyData.int)[·]?)=_
  rw [List.length_map,jg4 hjl]
  simp [hjl]
 have hcell:qq4 A bc (rw',di,re,mn) j=(rw'.set j (min (min re rw'[j]+2) (di+subC bc A[j])),rw'[j],min (min re rw'[j]+2) (di+subC bc A[j]),if min (min re rw'[j]+2) (di+subC bc A[j]) < mn then min (min re rw'[j]+2) (di+subC bc A[j]) else mn):=by
  unfold qq4; dsimp only; rw [hgd,hga]
 rw [hcell]
 have hch:idxD (.str (S A)) (j:Int)=some (.str (S [A[j]])):=jk0 (Nat.le_trans hA (by decide)) (jg4 hj) hj
 have hfc:=hf bc A[j]
 have hset:∀v,(rw'.map PyData.int).set j (.int v)=(rw'.set j v).map .int:=λv=>(List.map_set ..).symm
 have hjl':0<=(j:Int)/\(j:Int) < (rw'.map PyData.int).length:=⟨Int.natCast_nonneg j,by rw [List.length_map]; exact Int.ofNat_lt.mpr hjl⟩
 generalize subC bc A[j]=sc at hfc ⊢
 generalize A[j]=aj at hch hfc
 generalize rw'[j]=dj at hrow' ⊢
 revert hrow'
 revert hfc
 revert hch
 revert dj
 revert aj
 revert sc
 refine id ?_
 intro sc aj dj hch hfc hrow'
 obtain⟨v1,hv1⟩:∃v,binD .Add (.int di) 0 (.int sc) 0=some (.int v,0)/\di+sc=v:=⟨_,rfl,rfl⟩
 obtain⟨v2,hv2⟩:∃v,binD .Add (.int (min re dj)) 0 (.int 2) 0=some (.int v,0)/\min re dj+2=v:=⟨_,rfl,rfl⟩
 obtain⟨v3,hv3⟩:∃v,btD "min" [.int v2,.int v1]=some (.int v)/\min v2 v1=v:=⟨_,rfl,rfl⟩
 rw [hv1.2,hv2.2,hv3.2]
 have hmd:btD "min" [.int re,.int dj]=some (.int (min re dj)):=rfl
 conv in cellB=>whnf
 have L:=I.L
 have L_1:LvM names A B m (ρ.put "index" (.int (j:Int)) 0):=L.put rfl rfl rfl
 have L5:=(((L_1.put (x:="substitute") (d:=.int v1) (k:=0) rfl rfl rfl).put (x:="distance") (d:=.int dj) (k:=0) rfl rfl rfl).put (x:="insert_delete") (d:=.int v2) (k:=0) rfl rfl rfl).put (x:="result") (d:=.int v3) (k:=0) rfl rfl rfl
 have o5:jk7 (((((ρ.put "index" (.int (j:Int)) 0).put "substitute" (.int v1) 0).put "distance" (.int dj) 0).put "insert_delete" (.int v2) 0).put "result" (.int v3) 0) "row"=true:=jc0 (jc0 (jc0 (jc0 (jc0 I.o rfl) rfl) rfl) rfl) rfl
 have last:∀{ρ5:Rho},LvM names A B m ρ5->jk7 ρ5 "row"=true->Lk ρ5 "bchar" (.str (S [bc]))->ρ5.vars.lookup ("row":Str)=some (.list (rw'.map .int),1)->Lk ρ5 "distance" (.int dj)->Lk ρ5 "result" (.int v3)->Lk ρ5 "minimum" (.int mn)->Lk ρ5 "index" (.int (j:Int))->∃ρ2,run (Ev.at ⟨f,jd7⟩ 12) (n+4) ρ5 (cellB.drop 4)=some (.next,ρ2)/\CellI names A B m bc (rw'.set j v3,dj,v3,if v3 < mn then v3 else mn) ρ2:=λ{ρ5} L o hb hr hd hre hm hi=>by
  conv in List.drop _ _=>whnf
  have L6:=L.put (x:="row") (d:=.list ((rw'.map .int).set j (.int v3))) (k:=1) rfl rfl rfl
  have o6:jk7 (ρ5.put "row" (.list ((rw'.map .int).set j (.int v3))) 1) "row"=true:=jc0 o rfl
  by_cases hlt:v3 < mn
  ·rw [if_pos hlt]
   exact⟨_,jd6 (qi4 (z:=(j:Int)) (kz:=0) ⟨rfl,rfl,o,rfl,by decide⟩ (ja2 rfl rfl hre) hr (ja2 rfl rfl hi) hjl') (jd6 (qw2 (ji0 rfl (ja2 rfl rfl (jb2 rfl hre)) (ja2 rfl rfl (jb2 rfl hm)) (congrArg some (decide_eq_true hlt))) (jd6 (jg7 (L6.st rfl) rfl (ja2 rfl rfl (jb2 rfl hre))) rfl)) rfl),L6.put rfl rfl rfl,jc0 o6 rfl,jb2 rfl (jb2 rfl hb),jb2 rfl (lk_same.trans (congrArg (λl=>some (PyData.list l,1)) (hset v3))),jb2 rfl (jb2 rfl hd),jb2 rfl (jb2 rfl hre),lk_same⟩
  ·rw [if_neg hlt]
   exact⟨_,jd6 (qi4 (z:=(j:Int)) (kz:=0) ⟨rfl,rfl,o,rfl,by decide⟩ (ja2 rfl rfl hre) hr (ja2 rfl rfl hi) hjl') (jd6 (qe7 (ji0 rfl (ja2 rfl rfl (jb2 rfl hre)) (ja2 rfl rfl (jb2 rfl hm)) (congrArg some (decide_eq_false hlt))) rfl) rfl),L6,o6,jb2 rfl hb,lk_same.trans (congrArg (λl=>some (PyData.list l,1)) (hset v3)),jb2 rfl hd,jb2 rfl hre,jb2 rfl hm⟩
 obtain⟨ρ2,h2,hC⟩:=last L5 o5 (jb2 rfl (jb2 rfl (jb2 rfl (jb2 rfl (jb2 rfl I.bc))))) (jb2 rfl (jb2 rfl (jb2 rfl (jb2 rfl (jb2 rfl I.row))))) (jb2 rfl (jb2 rfl lk_same)) lk_same (jb2 rfl (jb2 rfl (jb2 rfl (jb2 rfl (jb2 rfl I.mn))))) (jb2 rfl (jb2 rfl (jb2 rfl (jb2 rfl lk_same))))
 refine⟨ρ2,?_,hC⟩
 refine jd6 (jg7 (d:=.int v1) (L.st rfl) rfl (je4 rfl (ja2 rfl rfl (jb2 rfl I.di)) (r_fn rfl (L.gl rfl) rfl (jr8 (ja2 rfl rfl (jb2 rfl I.bc)) (jv8 rfl rfl (ja2 rfl rfl L_1.a) (ja2 rfl rfl lk_same) hch)) rfl rfl rfl rfl hfc) hv1.1)) ?_
 refine jd6 (jg7 (d:=.int dj) (L.st rfl) rfl (jv8 rfl rfl (ja2 rfl rfl (jb2 rfl (jb2 rfl I.row))) (ja2 rfl rfl (jb2 rfl lk_same)) hrow')) ?_
 refine jd6 (jg7 (d:=.int v2) (L.st rfl) rfl (je4 rfl (ju9 rfl (L.gl rfl) rfl (jr8 (ja2 rfl rfl (jb2 rfl (jb2 rfl (jb2 rfl I.re)))) (ja2 rfl rfl lk_same)) rfl hmd) (qa0 (L.gl rfl)) hv2.1)) ?_
 exact jd6 (jg7 (d:=.int v3) (L.st rfl) rfl (ju9 rfl (L.gl rfl) rfl (jr8 (ja2 rfl rfl lk_same) (ja2 rfl rfl (jb2 rfl (jb2 rfl lk_same)))) rfl hv3.1)) h2
theorem qi8 {i:Nat}(hd:(((List.range n).map λk:Nat=>(k:Int)).map PyData.int)[i]?=some d):i < n/\d=.int (i:Int):=by
 rw [List.map_map,List.getElem?_map,Option.map_eq_some_iff] at hd
 obtain⟨j,hj,rfl⟩:=hd
 obtain⟨h1,h2⟩:=List.getElem?_eq_some_iff.mp hj
 rw [List.length_range] at h1
 rw [List.getElem_range] at h2
 exact⟨h1,by rw [<- h2]; rfl⟩
theorem ud5 (n:Nat):(((List.range n).map λk:Nat=>(k:Int)).map PyData.int).length=n:=by
 rw [List.length_map,List.length_map,List.length_range]
theorem ug6 {f:Str->List D->Option D}(hf:∀x y:Nat,f "_substitution_cost" [.str (S [x]),.str (S [y])]=some (.int (subC x y))){names:List (Str×NameKind)}{A B:List Nat}{m:Int}{row:List Int}{P:Rho->Prop}{i:Nat}(hA:A.length<=40)(hB:B.length<=40)(hi:i < B.length)(hl:row.length=A.length)(L:LvM names A B m ρ)(o:jk7 ρ "row"=true)(hrow:ρ.vars.lookup ("row":Str)=some (.list (row.map .int),1))
  (hd:(jn1 A B[i] i row).2.2.2 > m->d=.int (m+1)) (hP:¬(jn1 A B[i] i row).2.2.2 > m->∀ρ',LvM names A B m ρ'->jk7 ρ' "row"=true->ρ'.vars.lookup ("row":Str)=some (.list ((jn1 A B[i] i row).1.map .int),1)->Lk ρ' "result" (.int (jn1 A B[i] i row).2.2.1)->P ρ') :
  Go (Ev.at ⟨f,jd7⟩ 12) (n+16) (ρ.put "bindex" (.int (i:Int)) 0) lineB P d:=by
 conv in lineB=>whnf
 have L_1:=L.put (x:="bindex") (d:=.int (i:Int)) (k:=0) rfl rfl rfl
 have hA1:A.length<=100:=Nat.le_trans hA (by decide)
 refine jz2 (jg7 (L_1.st rfl) rfl (jv8 rfl rfl (ja2 rfl rfl L_1.b) (ja2 rfl rfl lk_same) (jk0 (Nat.le_trans hB (by decide)) (jg4 hi) hi))) ?_
 have L_2:=L_1.put (x:="bchar") (d:=.str (S [B[i]])) (k:=0) rfl rfl rfl
 have hmi:binD .Mult (.int (i:Int)) 0 (.int 2) 0=some (.int (2*(i:Int)),0):=by
  have hs:qi2 (i:Int)=true:=decide_eq_true (by omega)
  show(if qi2 (i:Int)=true then some (PyData.int ((i:Int)*2),0) else none)=_
  rw [if_pos hs,Int.mul_comm]
 refine jz2 (ud1 (L_2.st rfl) (L_2.st rfl) rfl rfl (je4 rfl (ja2 rfl rfl (jb2 rfl lk_same)) (qa0 (L_2.gl rfl)) hmi)) ?_
 refine jz2 (jg7 (L_2.st rfl) rfl (je3 rfl)) ?_
 refine go_for (items:=((List.range A.length).map λ(k:Nat)=>(k:Int)).map .int) (λj ρ=>CellI names A B m B[i] ((List.range j).foldl (qq4 A B[i]) (row,2*(i:Int),2*(i:Int),bigM)) ρ) rfl ⟨rfl,?_⟩ ?_ ?_ (λj ρ e I he=>?_) λρ' I=>?_
 ·exact(congrArg (· && true) (L_1.st rfl)).trans rfl
 ·refine(uh8 ?_ rfl (qa1 rfl rfl ?_ (jb2 rfl (jb2 rfl (jb2 rfl L_2.a))) hA1) (qi7 hA1)).trans (by rw [qj1])
  ·exact L_2.gl rfl
  ·exact L_2.gl rfl
 ·have L4:=((L_2.put (x:="distance") (d:=.int (2*(i:Int))) (k:=0) rfl rfl rfl).put (x:="result") (d:=.int (2*(i:Int))) (k:=0) rfl rfl rfl).put (x:="minimum") (d:=.int bigM) (k:=0) rfl rfl rfl
  refine⟨L4,?_,?_,?_,?_,?_,?_⟩
  ·exact jc0 (jc0 (jc0 (jc0 (jc0 o rfl) rfl) rfl) rfl) rfl
  ·exact jb2 rfl (jb2 rfl (jb2 rfl lk_same))
  ·exact jb2 rfl (jb2 rfl (jb2 rfl (jb2 rfl (jb2 rfl hrow))))
  ·exact jb2 rfl (jb2 rfl lk_same)
  ·exact jb2 rfl lk_same
  ·exact lk_same
 ·obtain⟨hj,rfl⟩:=qi8 he
  obtain⟨ρ2,h2,hC⟩:=ul0 (n:=n+4) hf hA hj ((qg8 ..).trans hl) I
  exact⟨_,ρ2,rfl,h2,by rw [List.range_succ,List.foldl_append]; exact hC⟩
 ·have I:CellI names A B m B[i] (jn1 A B[i] i row) ρ':=by
   have h:=I
   rw [ud5] at h
   exact h
  by_cases h:(jn1 A B[i] i row).2.2.2 > m
  ·rw [hd h]
   exact go_end (qw2 (ji0 rfl (ja2 rfl rfl I.mn) (ja2 rfl rfl I.L.c) (congrArg some (decide_eq_true h))) (jt3 (qe6 (k:=0) (je4 rfl (ja2 rfl rfl I.L.c) (je3 rfl) rfl))))
  ·exact jz2 (ρ1:=ρ') (qe7 (ji0 rfl (ja2 rfl rfl I.mn) (ja2 rfl rfl I.L.c) (congrArg some (decide_eq_false h))) rfl) (go_nil (hP h ρ' I.L I.o I.row I.re))
structure LineI (names:List (Str×NameKind)) (A B:List Nat) (m T:Int) (i:Nat) (row:List Int) (res:Int) (ρ:Rho):Prop where
 L:LvM names A B m ρ
 o:jk7 ρ "row"=true
 rw:ρ.vars.lookup ("row":Str)=some (.list (row.map .int),1)
 re:Lk ρ "result" (.int res)
 l:row.length=A.length
 t:qb5 A m (B.drop i) i row res=T
noncomputable def tabB (k:Nat):List Stmt:=(fnOf "_levenshtein_distance").1.drop k
theorem lev_tab {f:Str->List D->Option D}(hf:∀x y:Nat,f "_substitution_cost" [.str (S [x]),.str (S [y])]=some (.int (subC x y))){names:List (Str×NameKind)}{A B:List Nat}{m:Int}(hB:B.length<=40)(hl:A.length<=B.length)(hm:((B.length:Int) - A.length)*2<=m)(L:LvM names A B m ρ):jf8 (Ev.at ⟨f,jd7⟩ 12) ["row"] (n+40) ρ (tabB 9)=some (.int (levS A B m)):=by
 conv in tabB _=>whnf
 have hA:A.length<=40:=Nat.le_trans hl hB
 have hA1:A.length<=100:=Nat.le_trans hA (by decide)
 have hB1:B.length<=100:=Nat.le_trans hB (by decide)
 have gl:ρ.sc.lookup ("len":Str)=some .globalImplicit:=L.gl rfl
 have gm:ρ.sc.lookup ("_MOVE_COST":Str)=some .globalImplicit:=L.gl rfl
 have gx:ρ.sc.lookup ("_MAX_STRING_SIZE":Str)=some .globalImplicit:=L.gl rfl
 have trA:je6 (.str (S A))=decide (A≠[]):=qm4 (by simp)
 have trB:je6 (.str (S B))=decide (B≠[]):=qm4 (by simp)
 have hsmall:∀{z:Int},binD .Mult (.int 2) 0 (.int z) 0=some (.int (2*z),0):=λ{z}=>rfl
 by_cases hnil:A=[]\/B=[]
 ·refine jv3 (ρ':=ρ) rfl (qw2 (?_:_=some true) (jt3 (qe6 (k:=0) ((je4 rfl (qa0 gm) (je4 rfl (qa1 rfl rfl gl L.a hA1) (qa1 rfl rfl gl L.b hB1) rfl) hsmall).trans ?_))))
  ·refine(t_or (t_not (qv0 rfl (ja2 rfl rfl L.a) (jk8 hA1))) λzw=>t_or (t_not (qv0 rfl (ja2 rfl rfl L.b) (jk8 hB1))) λzw=>t_or0).trans ?_
   rw [trA,trB]
   rcases hnil with h | h <;> simp [h]
  ·unfold levS
   rw [if_pos hnil]
 ·refine jk2 (ρ':=ρ) rfl (qe7 (?_:_=some false) rfl) ?_
  ·refine(t_or (t_not (qv0 rfl (ja2 rfl rfl L.a) (jk8 hA1))) λzw=>t_or (t_not (qv0 rfl (ja2 rfl rfl L.b) (jk8 hB1))) λzw=>t_or0).trans ?_
   rw [trA,trB]
   have:=not_or.mp hnil
   simp [this.1,this.2]
  have cmpgt:∀{x:Nat},x<=40->cmpD .Gt (.int (x:Int)) (.int 40)=some false:=λ{x} h=>congrArg some (decide_eq_false (by grind))
  refine jk2 (ρ':=ρ) rfl (qe7 (t_or (ji0 rfl (qa1 rfl rfl gl L.a hA1) (e_max gx) (cmpgt hA)) λzw=>t_or (ji0 rfl (qa1 rfl rfl gl L.b hB1) (e_max gx) (cmpgt hB)) λzw=>t_or0) rfl) ?_
  refine jk2 (ρ':=ρ) rfl (qe7 (ji0 rfl (qa1 rfl rfl gl L.b hB1) (qa1 rfl rfl gl L.a hA1) (congrArg some (decide_eq_false (by grind)))) rfl) ?_
  have hgoal:levS A B m=levT A B m:=by
   unfold levS
   rw [if_neg hnil,if_neg (by grind),if_neg (by grind),if_neg (by grind)]
  rw [hgoal]
  have hmul:binD .Mult (.int ((B.length:Int) - A.length)) 0 (.int 2) 0=some (.int (((B.length:Int) - A.length)*2),0):=if_pos (decide_eq_true (by grind))
  refine jk2 (ρ':=ρ) rfl (qe7 (ji0 rfl (je4 rfl (je4 rfl (qa1 rfl rfl gl L.b hB1) (qa1 rfl rfl gl L.a hA1) rfl) (qa0 gm) hmul) (ja2 rfl rfl L.c) (congrArg some (decide_eq_false (by grind)))) rfl) ?_
  have hlen:(jd9 2 (2*((A.length:Int)+1)) 2).length=A.length:=by rw [qj0,List.length_map,List.length_range]
  refine bd_own (by decide) (L.st rfl) rfl (qp4 (L.gl rfl) (L.gl rfl) rfl (qa0 gm) (je4 rfl (qa0 gm) (je4 rfl (qa1 rfl rfl gl (jr9 L.a) hA1) (je3 rfl) rfl) hsmall) (qa0 gm) ⟨by
   unfold jo8
   simp only [Bool.and_eq_true,decide_eq_true_eq]
   grind,by rw [hlen]; exact Nat.le_trans hA (by decide)⟩) (jv0 _) ?_
  rw [qj0]
  have L5:LvM names A B m (ρ.lvl0.put "row" (.list (((List.range A.length).map λ(k:Nat)=>2+(k:Int)*2).map .int)) 1) :=
   ⟨L.sc,jb2 rfl (jr9 L.a),jb2 rfl (jr9 L.b),jb2 rfl (jr9 L.c),L.l,L.g⟩
  refine jh6 (by decide) (L5.st rfl) rfl (je3 rfl) ?_
  refine bd_for (items:=((List.range B.length).map λ(k:Nat)=>(k:Int)).map .int) (λi ρ=>∃row res,LineI names A B m (levT A B m) i row res ρ) rfl ⟨rfl,(congrArg (· && true) (L5.st rfl)).trans rfl⟩ ?_
   ⟨_,0,L5.put rfl rfl rfl,jc0 ue2 rfl,jb2 rfl lk_same,lk_same,by rw [List.length_map,List.length_range],by rw [List.drop_zero]; rfl⟩ (λi ρ e hJ he=>?_) λρ hJ=>?_
  ·refine(uh8 ?_ rfl (qa1 rfl rfl ?_ (jb2 rfl L5.b) hB1) (qi7 hB1)).trans (by rw [qj1])
   ·exact L5.gl rfl
   ·exact L5.gl rfl
  ·obtain⟨row,res,J⟩:=hJ
   obtain⟨hi,rfl⟩:=qi8 he
   have ht:=J.t
   rw [List.drop_eq_getElem_cons hi] at ht
   refine⟨_,rfl,ug6 hf hA hB hi J.l J.L J.o J.rw (λh=>?_) λh ρ' L' o' r' e'=>⟨_,_,L',o',r',e',(qg8 ..).trans J.l,(if_neg h).symm.trans ht⟩⟩
   rw [<- (if_pos h).symm.trans ht]
  ·obtain⟨row,res,J⟩:=hJ
   have:levT A B m=res:=by
    rw [<- J.t,ud5,List.drop_length]
    rfl
   rw [this]
   exact jv3 rfl (qe6 (ja2 rfl rfl J.re))
theorem lev_post {f:Str->List D->Option D}(hf:∀x y:Nat,f "_substitution_cost" [.str (S [x]),.str (S [y])]=some (.int (subC x y))){names:List (Str×NameKind)}{A1 B1:List Nat}{m:Int}(hB:B1.length<=40)(hl:A1.length<=B1.length)(hm:((B1.length:Int) - A1.length)*2<=m)(L_2:LvM names A1 B1 m ρ) :
  jf8 (Ev.at ⟨f,jd7⟩ 12) ["row"] (n+60) ρ (tabB 5)=some (.int (levS (A1.take (A1.length - sufN A1 B1)) (B1.take (B1.length - sufN A1 B1)) m)):=by
 conv in tabB _=>whnf
 have hB_1:B1.length<=100:=Nat.le_trans hB (by decide)
 have hA_1:A1.length<=100:=Nat.le_trans hl hB_1
 refine jh6 (by decide) (L_2.st rfl) rfl (je3 rfl) ?_
 have hsl:=sufN_le A1 B1
 refine qu5 (λj ρ=>LvM names A1 B1 m ρ/\ρ.vars.lookup ("post":Str)=some (.int (-(j:Int)),0)) (sufN A1 B1) ⟨L_2.put rfl rfl rfl,lk_same⟩ (by grind) ?_ ?_ ?_
 ·intro j ρ hj hJ0
  obtain⟨L,hp⟩:=hJ0
  obtain⟨h1,h2,h3⟩:=uc1 A1 B1 j hj
  have eA:=jg2 (l:=A1) (j:=j) (by grind)
  have eB:=jg2 (l:=B1) (j:=j) (by grind)
  have hp1:∀{k:Nat} {q q' r:Pos} {c:Nat},(Ev.at ⟨f,jd7⟩ (k+2)).e ρ (.BinOp (.Name "post" q) .Sub (.Constant (.int 1) c q') r)=some (.int (-((j+1:Nat):Int)),0):=je4 rfl (ja2 rfl rfl hp) (je3 rfl) (by
   show some (PyData.int (-(j:Int) - 1),0)=_
   congr 3; (simp +arith))
  refine⟨jk4 (b:=true) (c:=true) ?_ λzw=>jk4 (b:=true) (c:=true) ?_ λzw=>jk4 (b:=true) (c:=true) ?_ λzw=>ub9,ρ.put "post" (.int (-((j+1:Nat):Int))) 0,λq hq=>?_,L.put rfl rfl rfl,lk_same⟩
  ·exact(jx4 rfl rfl rfl rfl rfl rfl L.a hp (by grind) hA_1).trans (congrArg some (decide_eq_true (by grind)))
  ·exact(jx4 rfl rfl rfl rfl rfl rfl L.b hp (by grind) hB_1).trans (congrArg some (decide_eq_true (by grind)))
  ·refine ji0 rfl (jv8 rfl rfl (ja2 rfl rfl L.a) hp1 (jk0 (by (exact Nat.le_trans (by assumption) (by decide))) (jo2 (by (exact Nat.le_add_left _ _)) (by grind)) h1)) (jv8 rfl rfl (ja2 rfl rfl L.b) hp1 (jk0 (by (exact Nat.le_trans (by assumption) (by decide))) (jo2 (by (exact Nat.le_add_left _ _)) (by grind)) h2)) ?_
   show some ((S [A1[A1.length - (j+1)]]).cps.toList==(S [B1[B1.length - (j+1)]]).cps.toList)=_
   rw [h3]; simp
  ·obtain⟨q,rfl⟩:∃q',q=q'+2:=⟨q - 2,by grind⟩
   exact jd6 (s_aug (L.st rfl) hp (je3 rfl) (by
    show some (PyData.int (-(j:Int) - 1))=_
    congr 2; (simp +arith))) rfl
 ·intro ρ hJ0
  obtain⟨L,hp⟩:=hJ0
  have eA:=jg2 (l:=A1) (j:=sufN A1 B1) (by grind)
  have eB:=jg2 (l:=B1) (j:=sufN A1 B1) (by grind)
  have hp1:∀{k:Nat} {q q' r:Pos} {c:Nat},(Ev.at ⟨f,jd7⟩ (k+2)).e ρ (.BinOp (.Name "post" q) .Sub (.Constant (.int 1) c q') r)=some (.int (-((sufN A1 B1+1:Nat):Int)),0):=je4 rfl (ja2 rfl rfl hp) (je3 rfl) (by
   show some (PyData.int (-(sufN A1 B1:Int) - 1),0)=_
   congr 3; (simp +arith))
  by_cases g1:sufN A1 B1 < A1.length
  ·by_cases g2:sufN A1 B1 < B1.length
   ·refine jk4 (b:=true) (c:=false) ?_ λzw=>jk4 (b:=true) (c:=false) ?_ λzw=>jk4 (b:=false) (c:=true) ?_ λz=>by cases z
    ·exact(jx4 rfl rfl rfl rfl rfl rfl L.a hp hsl.1 hA_1).trans (congrArg some (decide_eq_true g1))
    ·exact(jx4 rfl rfl rfl rfl rfl rfl L.b hp hsl.2 hB_1).trans (congrArg some (decide_eq_true g2))
    ·refine ji0 rfl (jv8 rfl rfl (ja2 rfl rfl L.a) hp1 (jk0 (by (exact Nat.le_trans (by assumption) (by decide))) (jo2 (by (exact Nat.le_add_left _ _)) (by assumption)) (by omega))) (jv8 rfl rfl (ja2 rfl rfl L.b) hp1 (jk0 (by (exact Nat.le_trans (by assumption) (by decide))) (jo2 (by (exact Nat.le_add_left _ _)) (by assumption)) (by omega))) ?_
     show some ((S [A1[A1.length - (sufN A1 B1+1)]]).cps.toList==(S [B1[B1.length - (sufN A1 B1+1)]]).cps.toList)=_
     rw [jj8,jj8]
     have:=uc0 A1 B1 g1 g2
     simpa using this
   ·refine jk4 (b:=true) (c:=false) ?_ λzw=>jk4 (b:=false) (c:=true) ?_ λz=>by cases z
    ·exact(jx4 rfl rfl rfl rfl rfl rfl L.a hp hsl.1 hA_1).trans (congrArg some (decide_eq_true g1))
    ·exact(jx4 rfl rfl rfl rfl rfl rfl L.b hp hsl.2 hB_1).trans (congrArg some (decide_eq_false g2))
  ·refine jk4 (b:=false) (c:=true) ?_ λz=>by cases z
   exact(jx4 rfl rfl rfl rfl rfl rfl L.a hp hsl.1 hA_1).trans (congrArg some (decide_eq_false g1))
 ·intro ρ hJ0
  obtain⟨L,hp⟩:=hJ0
  have eA:=jg2 (l:=A1) (j:=sufN A1 B1) (by grind)
  have eB:=jg2 (l:=B1) (j:=sufN A1 B1) (by grind)
  refine jh6 (by decide) (L.st rfl) rfl ((qw8 rfl (ja2 rfl rfl L.a) rfl (jy2 rfl rfl rfl rfl hp) (by rw [jq3]; (exact Nat.le_trans (by assumption) (by decide)))).trans (by rw [eA])) ?_
  refine jh6 (by decide) (L.st rfl) rfl ((qw8 rfl (ja2 rfl rfl (jb2 rfl L.b)) rfl (jy2 rfl rfl rfl rfl (jb2 rfl hp)) (by rw [jq3]; (exact Nat.le_trans (by assumption) (by decide)))).trans (by rw [eB])) ?_
  exact lev_tab hf (by rw [List.length_take]; exact Nat.le_trans (Nat.min_le_right _ _) hB) (by rw [List.length_take,List.length_take]; omega) (by rw [List.length_take,List.length_take]; omega) ⟨L.sc,jb2 rfl lk_same,lk_same,jb2 rfl (jb2 rfl L.c),L.l,L.g⟩
theorem lev_eval (f:Str->List D->Option D)(hf:∀x y:Nat,f "_substitution_cost" [.str (S [x]),.str (S [y])]=some (.int (subC x y)))(A B:List Nat)(m:Int)(hB4:B.length<=40)(hl:A.length<=B.length)(hm:((B.length:Int) - A.length)*2<=m) :
  jf8 (Ev.at ⟨f,jd7⟩ 12) ["row"] 400 ⟨(fnOf "_levenshtein_distance").2.1,[("a",(.str (S A),0)),("b",(.str (S B),0)),("max_cost",(.int m,0))]⟩ (fnOf "_levenshtein_distance").1=some (.int (levF A B m)):=by
 have hcap:cap=100000:=rfl
 have hB:B.length<=100:=Nat.le_trans hB4 (by decide)
 have hA:A.length<=100:=Nat.le_trans hl hB
 have L0:=lv0 (A:=A) (B:=B) (m:=m)
 generalize (fnOf "_levenshtein_distance").2.1=names at L0 ⊢
 revert L0
 revert names
 refine id ?_
 intro names L0
 conv =>
  lhs
  arg 5
  whnf
 by_cases hAB:A=B
 ·refine jv3 rfl (qw2 (ji0 rfl (ja2 rfl rfl rfl) (ja2 rfl rfl rfl) ?_) (jt3 (qe6 (k:=0) ?_)))
  ·show some ((S A).cps.toList==(S B).cps.toList)=_
   rw [jj8,jj8,hAB]; simp
  ·unfold levF; rw [if_pos hAB]; rfl
 ·refine jk2 (ρ':=_) rfl (qe7 (ji0 rfl (ja2 rfl rfl rfl) (ja2 rfl rfl rfl) ?_) rfl) ?_
  ·show some ((S A).cps.toList==(S B).cps.toList)=_
   rw [jj8,jj8]; simpa using hAB
  refine jh6 (by decide) (L0.st rfl) rfl (je3 rfl) ?_
  have hpl:=qn4 A B
  refine qu5 (λj ρ=>LvM names A B m ρ/\ρ.vars.lookup ("pre":Str)=some (.int (j:Int),0)) (preN A B) ⟨L0.put rfl rfl rfl,rfl⟩ (by grind) ?_ ?_ ?_
  ·intro j ρ hj hJ0
   obtain⟨L,hp⟩:=hJ0
   obtain⟨h1,h2,h3⟩:=jy1 A B j hj
   refine⟨jk4 (b:=true) (c:=true) ?_ λzw=>jk4 (b:=true) (c:=true) ?_ λzw=>jk4 (b:=true) (c:=true) ?_ λzw=>ub9,ρ.put "pre" (.int ((j:Int)+1)) 0,λq hq=>?_,L.put rfl rfl rfl,lk_same⟩
   ·exact(qm6 rfl rfl rfl rfl L.a hp (Nat.le_of_lt h1) hA).trans (congrArg some (decide_eq_true h1))
   ·exact(qm6 rfl rfl rfl rfl L.b hp (Nat.le_of_lt h2) hB).trans (congrArg some (decide_eq_true h2))
   ·refine ji0 rfl (jv8 rfl rfl (ja2 rfl rfl L.a) (ja2 rfl rfl hp) (jk0 (by (exact Nat.le_trans (by assumption) (by decide))) (jg4 h1) h1)) (jv8 rfl rfl (ja2 rfl rfl L.b) (ja2 rfl rfl hp) (jk0 (by (exact Nat.le_trans (by assumption) (by decide))) (jg4 h2) h2)) ?_
    show some ((S [A[j]]).cps.toList==(S [B[j]]).cps.toList)=_
    rw [h3]; simp
   ·obtain⟨q,rfl⟩:∃q',q=q'+2:=⟨q - 2,by grind⟩
    exact jd6 (s_aug (L.st rfl) hp (je3 rfl) rfl) rfl
  ·intro ρ hJ0
   obtain⟨L,hp⟩:=hJ0
   have eA:=jk5 (l:=A) (i:=preN A B) (by grind)
   have eB:=jk5 (l:=B) (i:=preN A B) (by grind)
   by_cases g1:preN A B < A.length
   ·by_cases g2:preN A B < B.length
    ·refine jk4 (b:=true) (c:=false) ?_ λzw=>jk4 (b:=true) (c:=false) ?_ λzw=>jk4 (b:=false) (c:=true) ?_ λz=>by cases z
     ·exact(qm6 rfl rfl rfl rfl L.a hp hpl.1 hA).trans (congrArg some (decide_eq_true g1))
     ·exact(qm6 rfl rfl rfl rfl L.b hp hpl.2 hB).trans (congrArg some (decide_eq_true g2))
     ·refine ji0 rfl (jv8 rfl rfl (ja2 rfl rfl L.a) (ja2 rfl rfl hp) (jk0 (by (exact Nat.le_trans (by assumption) (by decide))) (jg4 g1) g1)) (jv8 rfl rfl (ja2 rfl rfl L.b) (ja2 rfl rfl hp) (jk0 (by (exact Nat.le_trans (by assumption) (by decide))) (jg4 g2) g2)) ?_
      show some ((S [A[preN A B]]).cps.toList==(S [B[preN A B]]).cps.toList)=_
      rw [jj8,jj8]
      have:=jy0 A B g1 g2
      simpa using this
    ·refine jk4 (b:=true) (c:=false) ?_ λzw=>jk4 (b:=false) (c:=true) ?_ λz=>by cases z
     ·exact(qm6 rfl rfl rfl rfl L.a hp hpl.1 hA).trans (congrArg some (decide_eq_true g1))
     ·exact(qm6 rfl rfl rfl rfl L.b hp hpl.2 hB).trans (congrArg some (decide_eq_false g2))
   ·refine jk4 (b:=false) (c:=true) ?_ λz=>by cases z
    exact(qm6 rfl rfl rfl rfl L.a hp hpl.1 hA).trans (congrArg some (decide_eq_false g1))
  ·intro ρ hJ0
   obtain⟨L,hp⟩:=hJ0
   have eA:=jk5 (l:=A) (i:=preN A B) (by grind)
   have eB:=jk5 (l:=B) (i:=preN A B) (by grind)
   refine jh6 (by decide) (L.st rfl) rfl ((qw8 rfl (ja2 rfl rfl L.a) (jg9 (ja2 rfl rfl hp)) rfl (by rw [jq3]; (exact Nat.le_trans (by assumption) (by decide)))).trans (by rw [eA])) ?_
   refine jh6 (by decide) (L.st rfl) rfl ((qw8 rfl (ja2 rfl rfl (jb2 rfl L.b)) (jg9 (ja2 rfl rfl (jb2 rfl hp))) rfl (by rw [jq3]; (exact Nat.le_trans (by assumption) (by decide)))).trans (by rw [eB])) ?_
   have hgoal:levF A B m=levS ((A.drop (preN A B)).take ((A.drop (preN A B)).length - sufN (A.drop (preN A B)) (B.drop (preN A B)))) ((B.drop (preN A B)).take ((B.drop (preN A B)).length - sufN (A.drop (preN A B)) (B.drop (preN A B)))) m:=by
    unfold levF; rw [if_neg hAB]
   rw [hgoal]
   exact lev_post hf (by rw [List.length_drop]; exact Nat.le_trans (Nat.sub_le _ _) hB4) (by rw [List.length_drop,List.length_drop]; omega) (by rw [List.length_drop,List.length_drop]; grind) ⟨L.sc,jb2 rfl lk_same,lk_same,jb2 rfl (jb2 rfl L.c),L.l,L.g⟩
end
set_option backward.match.sparseCases true
section
open PySem.Builtin.Str
theorem qf8 (x:Nat):(Txt.lower (S [x])).length<=cap:=by
 have h:(Txt.lower (S [x])).length<=3*(S [x]).length:=len_lower (S [x])
 have hc:cap=100000:=rfl
 have e:(S [x]).length=1:=rfl
 rw [e] at h
 (exact Nat.le_trans (by assumption) (by decide))
theorem jt6 {T:Tab}{o:Expr}{ap p:Pos}(hk:T.hook ρ (.Call (.Attribute o "lower" ap) [] [] p)=none)(hs:je2 o=true)(hl:(ap.endLine==p.line)=true)(h:(Ev.at T n).e ρ o=some (.str x,k))(hx:(Txt.lower x).length<=cap):(Ev.at T (n+1)).e ρ (.Call (.Attribute o "lower" ap) [] [] p)=some (.str (Txt.lower x),0) :=
 jm3 hk (show(if je2 o=true/\(ap.endLine==p.line)=true then uf7 (Ev.at T n) ρ o "lower" [] else none)=_ from(if_pos ⟨hs,hl⟩).trans (show dkS ((Ev.at T n).e ρ o) (λx zw=>if (Txt.lower x).length<=cap then some (PyData.str (Txt.lower x),0) else none)=_ from(gS h).trans (if_pos hx)))
theorem sub_eval (f:Str->List D->Option D)(x y:Nat) :
  jf8 (Ev.at ⟨f,jd7⟩ 12) [] 20 ⟨(fnOf "_substitution_cost").2.1,[("ch_a",(.str (S [x]),0)),("ch_b",(.str (S [y]),0))]⟩ (fnOf "_substitution_cost").1=some (.int (subC x y)):=by
 have gm:(fnOf "_substitution_cost").2.1.lookup ("_MOVE_COST":Str)=some .globalImplicit:=by rfl
 have gc:(fnOf "_substitution_cost").2.1.lookup ("_CASE_COST":Str)=some .globalImplicit:=by rfl
 generalize (fnOf "_substitution_cost").2.1=names at gm gc ⊢
 conv =>
  lhs
  arg 5
  whnf
 unfold subC
 by_cases h:x=y
 ·rw [if_pos (by simpa using h)]
  refine jv3 rfl (qw2 (ji0 rfl (ja2 rfl rfl rfl) (ja2 rfl rfl rfl) ?_) (jt3 (qe6 (je3 rfl))))
  show some ((S [x]).cps.toList==(S [y]).cps.toList)=_
  rw [jj8,jj8,h]; simp
 ·rw [if_neg (by simpa using h)]
  refine jk2 rfl (qe7 (ji0 rfl (ja2 rfl rfl rfl) (ja2 rfl rfl rfl) ?_) rfl) ?_
  ·show some ((S [x]).cps.toList==(S [y]).cps.toList)=_
   rw [jj8,jj8]; simpa using h
  by_cases h2:((Txt.lower (S [x])).cps.toList==(Txt.lower (S [y])).cps.toList)=true
  ·rw [if_pos h2]
   refine jv3 rfl (qw2 (ji0 rfl (jt6 rfl rfl rfl (ja2 rfl rfl rfl) (qf8 x)) (jt6 rfl rfl rfl (ja2 rfl rfl rfl) (qf8 y)) ?_) (jt3 (qe6 (k:=0) (r_hk ?_))))
   ·show some ((Txt.lower (S [x])).cps.toList==(Txt.lower (S [y])).cps.toList)=_
    rw [h2]
   ·show(if names.lookup ("_CASE_COST":Str)=some .globalImplicit then some (PyData.int 1,0) else none)=_
    rw [if_pos gc]
  ·rw [if_neg h2]
   refine jk2 rfl (qe7 (ji0 rfl (jt6 rfl rfl rfl (ja2 rfl rfl rfl) (qf8 x)) (jt6 rfl rfl rfl (ja2 rfl rfl rfl) (qf8 y)) ?_) rfl) ?_
   ·show some ((Txt.lower (S [x])).cps.toList==(Txt.lower (S [y])).cps.toList)=_
    rw [Bool.eq_false_iff.mpr h2]
   refine jv3 rfl (qe6 (k:=0) (r_hk ?_))
   show(if names.lookup ("_MOVE_COST":Str)=some .globalImplicit then some (PyData.int 2,0) else none)=_
   rw [if_pos gm]
end
section
open PySem.Builtin.Str
section
variable {g:Glob} {n:Nat} {P:Params}
theorem jz7 {p:Pos}{i:Int}{t:Tok}(hs:ρ.sc.lookup x=some .globalImplicit)(hv:nsIn g.K mainGlobals x=some (some (.int i t)))(hd:(x==("__debug__":Str))=false):EvS g n ρ (.Name x p) (.int i) k :=
 λO M env A s E u rm aO aM eo=>je8 u eo hs hv hd ⟨ja3 s,.int⟩
theorem ql2 (hg:g.K=K1 P)(ρ:Rho)(e:Expr)(d:D)(k:Nat)(h:jd7 ρ e=some (d,k)):EvS g n ρ e d k:=by
 exact bd h λx hx h=>qx6 (P:=λe=>EvS g n ρ e d k) hx λp=>jh9 (P:=λx=>EvS g n ρ (.Name x p) d k) h (λh=>(gd h).elim λhs h=>sm (P:=λr=>EvS g n ρ (.Name _ p) r.1 r.2) h (jz7 hs (by rw [hg]; rfl) (by decide))) λh =>
  jh9 (P:=λx=>EvS g n ρ (.Name x p) d k) h (λh=>(gd h).elim λhs h=>sm (P:=λr=>EvS g n ρ (.Name _ p) r.1 r.2) h (jz7 hs (by rw [hg]; rfl) (by decide))) λh =>
  jh9 (P:=λx=>EvS g n ρ (.Name x p) d k) h (λh=>(gd h).elim λhs h=>sm (P:=λr=>EvS g n ρ (.Name _ p) r.1 r.2) h (jz7 hs (by rw [hg]; rfl) (by decide))) λh=>no h
theorem sub_call (hg:g.K=K1 P)(hn:1<=n)(N:Names g)(hcl:Callee g "list" (.type "list"))(x y:Nat):jc1 g (n+1) (.ref 28) [.str (S [x]),.str (S [y])] 0 (.int (subC x y)) 0:=by
 have tok:TabOk ⟨λzw zw=>none,jd7⟩ g n:=⟨λzw zw zw h=>(by cases h),ql2 hg⟩
 have hK:(K1 P).lookup 28=some _:=rfl
 rw [<- hg] at hK
 refine qu2 (params:=["ch_a","ch_b"]) (body:=(fnOf "_substitution_cost").1) hK ⟨rfl,rfl,rfl,rfl,rfl,rfl⟩ rfl (ji6 g.X (by rw [hg]; rfl)) (jw9 λzw zw=>rfl) rfl ?_ ?_ rfl (js6 (owns:=[]) N hcl (jq1 hn N tok 12) 20 (sub_eval _ x y)).r
 ·rfl
 ·rfl
noncomputable def subT (ds:List D):Option D:=one2 (λzw=>none) (λa b=>onS (λa=>onS (λb=>l1 (λx=>l1 (λy=>some (.int (subC x y))) b.cps.toList) a.cps.toList) b) a) ds
theorem S_of {a:Str}{l:List Nat}(h:a.cps.toList=l):a=S l:=by
 obtain⟨c⟩:=a
 obtain⟨l'⟩:=c
 cases h
 rfl
noncomputable def subF (f:Str) (ds:List D):Option D:=if f==("_substitution_cost":Str) then subT ds else none
theorem subF_ok (hg:g.K=K1 P)(hn:1<=n)(N:Names g)(hcl:Callee g "list" (.type "list")):TabOk ⟨subF,jd7⟩ g (n+1):=by
 refine⟨λf ds d h0=>?_,ql2 hg⟩
 have hK:(K1 P).lookup 28=some _:=rfl
 rw [<- hg] at hK
 exact jh9 (P:=λf=>∃v,Callee g f v/\jc1 g (n+1) v ds 0 d 0) h0 (λh=>qn5 (P:=λds=>∃v,Callee g _ v/\jc1 g (n+1) v ds 0 d 0) h (λzw h=>no h) λa b h=>jr7 (P:=λa=>∃v,Callee g _ v/\jc1 g (n+1) v [a,b] 0 d 0) h λa h=>jr7 (P:=λb=>∃v,Callee g _ v/\jc1 g (n+1) v [.str a,b] 0 d 0) h λb h =>
  l1E (P:=λl=>a.cps.toList=l->∃v,Callee g _ v/\jc1 g (n+1) v [.str a,.str b] 0 d 0) h (λx h hx=>l1E (P:=λl=>b.cps.toList=l->∃v,Callee g _ v/\jc1 g (n+1) v [.str a,.str b] 0 d 0) h (λy h hy=>sm (P:=λd=>∃v,Callee g _ v/\jc1 g (n+1) v [.str a,.str b] 0 d 0) h ⟨.ref 28,.fn (by rw [hg]; rfl) hK,by
   rw [S_of hx,S_of hy]
   exact sub_call hg hn N hcl x y⟩) rfl) rfl) λh=>no h
theorem lev_call (hg:g.K=K1 P)(hn:1<=n)(N:Names g)(hcl:Callee g "list" (.type "list"))(A B:List Nat)(m:Int)(hA:B.length<=40)(hB:A.length<=B.length)(hm:((B.length:Int) - A.length)*2<=m):jc1 g (n+2) (.ref 35) [.str (S A),.str (S B),.int m] 0 (.int (levF A B m)) 0:=by
 have hK:(K1 P).lookup 35=some _:=rfl
 rw [<- hg] at hK
 refine qu2 (params:=["a","b","max_cost"]) (body:=(fnOf "_levenshtein_distance").1) hK ⟨rfl,rfl,rfl,rfl,rfl,rfl⟩ rfl (ji6 g.X (by rw [hg]; rfl)) (qe0 λzw zw zw=>rfl) rfl ?_ ?_ rfl (js6 (owns:=["row"]) N hcl (jq1 (by (exact Nat.le_add_left _ _)) N (subF_ok hg hn N hcl) 12) 400 (lev_eval _ (λx y=>rfl) A B m hA hB hm)).r
 ·rfl
 ·rfl
end
end
section
noncomputable def T1:Topo:=⟨160,63,64,65,66,96,59,103,110,115,122,129,143,150⟩
theorem topo1 (P:Params):TopoOk (K1 P) T1 where
 c:=⟨λzw=>by kernel_rfl,by kernel_rfl,by kernel_rfl,by kernel_rfl,by kernel_rfl,by kernel_rfl⟩
 n:=⟨λzw=>by kernel_rfl,by kernel_rfl,by kernel_rfl,by kernel_rfl,by kernel_rfl,by kernel_rfl⟩
 dict:=by kernel_rfl
 s0:=⟨by kernel_rfl,by kernel_rfl,by kernel_rfl,by kernel_rfl,by kernel_rfl,by kernel_rfl⟩
 s1:=⟨by kernel_rfl,by kernel_rfl,by kernel_rfl,by kernel_rfl,by kernel_rfl,by kernel_rfl⟩
 s2:=⟨by kernel_rfl,by kernel_rfl,by kernel_rfl,by kernel_rfl,by kernel_rfl,by kernel_rfl⟩
 a1:=⟨by kernel_rfl,by kernel_rfl⟩
 a2:=⟨by kernel_rfl,by kernel_rfl⟩
 a3:=⟨by kernel_rfl,by kernel_rfl⟩
 a4:=⟨by kernel_rfl,by kernel_rfl⟩
 minit:=by kernel_rfl
 tinit:=by kernel_rfl
 mninit:=by kernel_rfl
 tninit:=by kernel_rfl
 mgni:=⟨by kernel_rfl,by kernel_rfl,by kernel_rfl⟩
 madd:=⟨by kernel_rfl,by kernel_rfl,by kernel_rfl⟩
 mprep:=⟨by kernel_rfl,by kernel_rfl,by kernel_rfl⟩
 mready:=⟨by kernel_rfl,by kernel_rfl,by kernel_rfl⟩
 mactive:=⟨by kernel_rfl,by kernel_rfl,by kernel_rfl⟩
 mdone:=⟨by kernel_rfl,by kernel_rfl,by kernel_rfl⟩
 mcyc:=⟨by kernel_rfl,by kernel_rfl,by kernel_rfl⟩
theorem fnm1 {f:Addr}{c:Str}{params:List Str}(h:∃cc dd fd sl,(K1 P).lookup f=some ⟨cc,dd,.func fd,sl⟩/\FnData fd (mOf c x).1/\fd.closure=[]/\qd0 (K1 P) fd.code fd.qualname=true/\fd.scope.names=(mOf c x).2.1/\(∀vs:List Value,vs.length=params.length->bindArgs fd ⟨vs,[]⟩=pure (params.zip vs)))(hn:jh7 (mOf c x).2.1 []=true):∃code,FnM (K1 P) f c x params code:=by
 obtain⟨cc,dd,fd,sl,h1,h2,h3,h4,h5,h6⟩:=h
 exact⟨fd.code,⟨cc,dd,fd,sl,h1,h2,h3,h4,h5,rfl,h6⟩,hn⟩
theorem ninit1 (P:Params):∃c,FnM (K1 P) T1.ninit "_NodeInfo" "__init__" ["self","node"] c:=fnm1 ⟨_,_,_,_,rfl,⟨rfl,rfl,rfl,rfl,rfl,rfl⟩,rfl,by kernel_rfl,rfl,jw9 λzw zw=>rfl⟩ rfl
theorem topofn1 (P:Params):TopoFn (K1 P) T1 where
 ninit:=ninit1 P
 gni:=fnm1 ⟨_,_,_,_,rfl,⟨rfl,rfl,rfl,rfl,rfl,rfl⟩,rfl,by kernel_rfl,rfl,jw9 λzw zw=>rfl⟩ rfl
 add:=⟨_,⟨_,_,_,_,rfl,⟨rfl,rfl,rfl,rfl,rfl,rfl⟩,rfl,by kernel_rfl,rfl,rfl,λvs ws h=>jw9 (Q:=λvs=>bindArgs _ ⟨vs++ws,[]⟩=(do let t <- newTuple ws; pure ((_++[_]).zip (vs++[t])))) (λa b=>by cases ws <;> kernel_rfl) vs h⟩,rfl⟩
 prep:=fnm1 ⟨_,_,_,_,rfl,⟨rfl,rfl,rfl,rfl,rfl,rfl⟩,rfl,by kernel_rfl,rfl,jv1 λzw=>rfl⟩ rfl
 ready:=fnm1 ⟨_,_,_,_,rfl,⟨rfl,rfl,rfl,rfl,rfl,rfl⟩,rfl,by kernel_rfl,rfl,jv1 λzw=>rfl⟩ rfl
 active:=fnm1 ⟨_,_,_,_,rfl,⟨rfl,rfl,rfl,rfl,rfl,rfl⟩,rfl,by kernel_rfl,rfl,jv1 λzw=>rfl⟩ rfl
 done:=⟨_,⟨_,_,_,_,rfl,⟨rfl,rfl,rfl,rfl,rfl,rfl⟩,rfl,by kernel_rfl,rfl,rfl,λvs ws h=>jv1 (Q:=λvs=>bindArgs _ ⟨vs++ws,[]⟩=(do let t <- newTuple ws; pure ((_++[_]).zip (vs++[t])))) (λa=>by cases ws <;> kernel_rfl) vs h⟩,rfl⟩
 cyc:=fnm1 ⟨_,_,_,_,rfl,⟨rfl,rfl,rfl,rfl,rfl,rfl⟩,rfl,by kernel_rfl,rfl,jv1 λzw=>rfl⟩ rfl
 node:=rfl
 out:=⟨_,rfl⟩
 dn:=⟨_,rfl⟩
theorem red1 (P:Params):∃c,RedFn (K1 P) 44 36 c :=
 ⟨_,⟨⟨_,_,_,_,rfl,⟨rfl,rfl,rfl,rfl,rfl,rfl⟩,rfl,by kernel_rfl,rfl,rfl,qe0 λzw zw zw zw=>by kernel_rfl⟩,rfl⟩,rfl,⟨_,rfl,rfl⟩⟩
section
variable {g:Glob} {P:Params}
theorem bt1 (hg:g.K=K1 P){id:String}(h1:nsIn (K1 P) mainGlobals x=some none)(h2:bootBuiltins x=some (.builtin id))(h3:x≠"__name__"):Callee g x (.builtin id):=.bt (by rw [hg]; exact h1) h2 h3
theorem ty1 (hg:g.K=K1 P){id:String}(h1:nsIn (K1 P) mainGlobals x=some none)(h2:bootBuiltins x=some (.type id))(h3:x≠"__name__"):Callee g x (.type id):=.ty (by rw [hg]; exact h1) h2 h3
theorem names1 (hg:g.K=K1 P):Names g where
 int:=ty1 hg rfl rfl (by decide)
 len:=bt1 hg rfl rfl (by decide)
 min:=bt1 hg rfl rfl (by decide)
 max:=bt1 hg rfl rfl (by decide)
 sum:=bt1 hg rfl rfl (by decide)
 range:=ty1 hg rfl rfl (by decide)
 enum:=ty1 hg rfl rfl (by decide)
 zip:=ty1 hg rfl rfl (by decide)
structure Gr1 (g:Glob) (P:Params):Prop where
 k:g.K=K1 P
 names:Names g
 list:Callee g "list" (.type "list")
 set:Callee g "set" (.type "set")
 iter:Callee g "iter" (.builtin "iter")
 bool:Callee g "bool" (.type "bool")
 tuple:Callee g "tuple" (.type "tuple")
 stop:nsIn g.K mainGlobals "StopIteration"=some none
 topo:TopoOk g.K T1
 fns:TopoFn g.K T1
theorem gr1 (hg:g.K=K1 P):Gr1 g P where
 k:=hg
 names:=names1 hg
 list:=ty1 hg rfl rfl (by decide)
 set:=ty1 hg rfl rfl (by decide)
 iter:=bt1 hg rfl rfl (by decide)
 bool:=ty1 hg rfl rfl (by decide)
 tuple:=ty1 hg rfl rfl (by decide)
 stop:=by rw [hg]; rfl
 topo:=by rw [hg]; exact topo1 P
 fns:=by rw [hg]; exact topofn1 P
end
end
set_option backward.match.sparseCases false
theorem qo6 {kvs:List (Int×Value)}(ev:EvS g n ρ e (objD a) k)(hsys:(a==sysModules)=false)(I:g.h.DictOf (intKind g.prog g.w) a kvs)(hO:¬O a)(hM:¬M a):ql9 g n O M ρ false e ((kvs.map (·.1)).map .int):=by
 intro env A s E Q u rm aO aM eo q
 ((show let Q0:=_; wpAny _ _ _ Q0 _ _); intro Q0)
 refine ev.use u rm aO aM eo λv sa k_1 r_1 u_1 o_1 m_1 e_1=>?_
 have:=jb0 r_1; subst this
 obtain⟨ep,D0⟩:=I.dictAt
 have D1:=D0.keep (h':=sa.heap) λb o=>u_1 b o
 have k_2:Keeps sa { sa with heap:=sa.heap.push { cls:=.type "dict_keyiterator",data:=.fields #[.ref a,.int 0 0,.int kvs.length 0,.int ep 0] } }:=ja6 sa _ _
 have hne:a≠sa.heap.objs.size:=λz=>by
  have:=D1.lt_size
  rw [<- z] at this
  exact absurd this (Nat.lt_irrefl _)
 refine wpAny_pyIter_dict hsys D1 (q _ _ (λb=>b=sa.heap.objs.size) (λi h=>h.IsKeyIter sa.heap.objs.size a i kvs.length ep/\h.DictAt (intKind g.prog g.w) a kvs ep) (ja1 k_1 k_2) ⟨⟨⟨_,Heap.get?_push_size _ rfl,rfl,rfl⟩,D1.keep (ja0 k_2)⟩,λb hb=>by subst hb; exact⟨jc2 k_1,_,Heap.get?_push_size _ rfl⟩,λi h st b hb=>by
   subst hb
   obtain⟨o,ho,hc,hd⟩:=st.1
   exact⟨o,ho,by unfold isFS; rw [hd]⟩,λi h h' st hk=>?_,?_,?_,?_⟩)
 ·obtain⟨⟨o,ho,hr⟩,⟨od,es,hod,rr⟩⟩:=st
  have ha:∃o',(sa.heap.push { cls:=.type "dict_keyiterator",data:=.fields #[.ref a,.int 0 0,.int kvs.length 0,.int ep 0] }).get? a=some o':=by
   obtain⟨o',_,h',_⟩:=D1.keep (ja0 k_2)
   exact⟨o',h'⟩
  exact⟨⟨o,hk _ _ o_1.new m_1.new ⟨_,Heap.get?_push_size _ rfl⟩ ho,hr⟩,⟨od,es,hk _ _ hO hM ha hod,rr⟩⟩
 ·intro O' M' i d t target E' Q' wd' wd htg hd st aO' aM' q'
  ((show let Q0:=_; wpAny _ _ _ Q0 _ _); intro Q0)
  rw [List.getElem?_map,Option.map_eq_some_iff] at hd
  obtain⟨x,hx,rfl⟩:=hd
  rw [List.getElem?_map,Option.map_eq_some_iff] at hx
  obtain⟨⟨x',v⟩,hx,rfl⟩:=hx
  refine wpAny_pyNext_dict_item st.1 st.2 hx λkey h' hkey hit' hs'=>⟨_,rfl,?_⟩
  obtain⟨tk,rfl⟩:=Value.isInt_shape hkey
  exact jd5 htg (q' _ { t with heap:=h' } ⟨⟨h',t.toks,rfl⟩,λb o hb e=>hs'.extBut b o hb e⟩ .int ⟨hit',st.2.extBut hs'.extBut hne⟩)
 ·intro t E' Q' st q'
  exact wpAny_pyNext_dict_end rm.handled st.1 st.2 (by simp) λh' he'=>q' _ ⟨⟨h',t.toks,rfl⟩,λb o hb e=>he' b o hb e⟩
 ·intro t E' Q' st q'
  exact wpAny_pyIter_keyiter st.1 q'
structure PlainIn (ρ1 ρ:Rho):Prop where
 sc:ρ1.sc=ρ.sc
 vs:∀y d k,ρ1.vars.lookup y=some (d,k)->ρ.vars.lookup y=some (d,k)/\k=0/\((∃i,d=.int i)\/∃b,d=objD b)
theorem PlainIn.envO {ρ1:Rho}{O' M':Avoid}(x:PlainIn ρ1 ρ)(e:EnvOk O M ρ env h):EnvOk O' M' ρ1 env h:=by
 refine⟨e.kind,e.gl,e.bl,e.sc.trans x.sc.symm,e.apart,λy d k hy=>?_⟩
 obtain⟨hy,rfl,hd⟩:=x.vs y d k hy
 obtain⟨v,h1,h2,h3⟩:=e.vars y d 0 hy
 refine⟨v,h1,?_,λz=>absurd rfl z⟩
 rcases hd with ⟨i,rfl⟩ | ⟨b,rfl⟩
 ·obtain⟨t,rfl⟩:=ja4 h2; exact .int
 ·have:=jb0 h2; subst this; exact .obj
theorem Run.compKeys {W:Avoid}{ρ1:Rho}{R:Ev}{kvs:List (Int×Value)}{tn:Str}{px tp cp:Pos}{ifs:List Expr}{scope:Scope}{outs:List (List D)}{res:List Int}(r:Run c O M W ρ s)(okR:R.Ok (c.g.now s r.act.up) c.n)
  (D:s.heap.DictOf (intKind c.g.prog c.g.w) a kvs) (hsys:(a==sysModules)=false) (hp:PlainIn ρ1 ρ) (hx:ρ1.vars.lookup x=some (objD a,0)) (hd:(x==("__debug__":Str))=false)
  (hk:scope.kind=.function) (ok:jf1 ρ1 scope.names=true) (hi:jd8 scope.names [tn]=true) (hm:mapO (jz0 R elt (.Name tn tp) ifs (ρ1.inner scope.names)) ((kvs.map (·.1)).map .int)=some outs) (hres:outs.flatten=res.map .int) (hz:res.length<=cap)
  (q:∀z s',Keeps s s'->s.heap.get? z=none->Ints s'.heap z res->Run c O M W ρ s'->Q (.ref z) s') :
  wpAny c.g.M c.Ar (eval (.ListComp elt [⟨.Name tn tp,.Name x px,ifs,0⟩] scope cp) c.env) Q E s:=by
 rw [eval_ListComp]
 let O1:Avoid:=λb=>(∃o,s.heap.get? b=some o)/\b≠a
 obtain⟨h1,h2⟩:=je9 hm
 refine ji5 (g:=c.g.now s r.act.up) (n:=c.n) (use:=none) (ρ:=ρ1) (O:=O1) (M:=No) (tt:=false) (items:=(kvs.map (·.1)).map .int) (outs:=outs) (xs:=[tn]) r.rm (λit Z env'=>jq7 ..) (jd3 rfl c.env) hk ok
  (qo6 (k:=0) (jb8 hx hd) hsys D (λz=>z.2 rfl) id) ⟨_,_,rfl⟩ rfl hi h1 (λO' P env' Z pl i d out a b=>(js0 okR (h2 i d out a b)).item r.rm pl) (by rw [hres,List.length_map]; exact hz) (Glob.now_up _) (λb h=>h.1) (λzw h=>h.elim) (hp.envO r.act.eo) λZ C t' m k hm hC rd=>?_
 rw [hres] at rd
 refine⟨m,hm,λh' hs'=>?_⟩
 have rd':=rd.seqs λb c vs q e=>hs'.extBut b _ (jj0 hm e) e
 obtain⟨z,hz,hI,hO⟩:=qe9 rd'
 have hz:Z=z:=by cases hz; rfl
 subst hz
 have kk:=jl0 k hC hs'
 refine q Z _ kk ?_ hI (r.keeps kk)
 cases hz:s.heap.get? Z with
 | none=>rfl
 | some o =>
  have hzm:Z=a:=Classical.byContradiction λe=>hO ⟨⟨o,hz⟩,e⟩
  obtain⟨o',es,ep,h1,h2,h3,_⟩:=D
  obtain⟨vs,n',i1,_⟩:=hI
  have:=ja0 kk _ _ h1
  rw [<- hzm,i1] at this
  cases this
  cases h3
section
theorem Run.effS {W V:Avoid}(r:Run c O M W ρ s)(sub:∀b,V b->W b)(e:Eff V c.Fc s V s'):Run c O M W ρ s'/\(∀b o,W b->¬V b->s.heap.get? b=some o->s'.heap.get? b=some o):=by
 have kp:∀b o,W b->¬V b->s.heap.get? b=some o->s'.heap.get? b=some o:=λb o hw hv eo=>(e.cx.2 b o hv eo).2 (r.at.wf b hw)
 refine⟨Run.back r.wo (r.eff (W':=W) (e.cx.mono sub λzw h=>h) (λzw h=>h) (λzw h=>.inl h) λb hb=>?_),kp⟩
 by_cases hv:V b
 ·exact e.al b hv
 ·obtain⟨o,eo⟩:=r.act.aO b (r.wo b hb)
  exact⟨o,kp b o hb hv eo⟩
noncomputable abbrev T0:Tab:=⟨λzw zw=>none,λzw zw=>none⟩
theorem jo6 {names:List (Str×NameKind)}{dk:D×Nat}(h:names.lookup x=some .free)(hx:ρ.vars.lookup x=some dk):(ρ.inner names).vars.lookup x=some dk:=by
 show(ρ.vars.filter λp=>names.lookup p.1==some .free).lookup x=_
 rw [jf7 (λy=>names.lookup y==some .free),h]
 exact hx
theorem jo0 {y:Str}{dk:D×Nat}(h:ρ.vars.lookup y=some dk)(hne:(y==x)=false):(ρ.set x d 0).vars.lookup y=some dk:=by
 show((x,(d,0))::ρ.vars).lookup y=_
 rw [List.lookup_cons,hne]
 exact h
theorem jm6:(ρ.set x d 0).vars.lookup x=some (d,0):=by
 show((x,(d,0))::ρ.vars).lookup x=_
 rw [List.lookup_cons]; simp
theorem ui4 {ρ0:Rho}{names:List (Str×NameKind)}(h:jf1 ρ0 names=true)(hsc:ρ.sc=ρ0.sc)(hv:∀p∈ρ0.vars,(ρ.vars.lookup p.1).isSome=true):jf1 ρ names=true:=by
 unfold jf1 at h ⊢
 rw [List.all_eq_true] at h ⊢
 intro p hp
 have:=h p hp
 rw [hsc]
 simp only [Bool.and_eq_true,Bool.or_eq_true] at this ⊢
 refine⟨this.1,?_⟩
 rcases this.2 with h1 | ⟨⟨h1,h2⟩,h3⟩
 ·exact .inl h1
 ·refine .inr ⟨⟨?_,h2⟩,h3⟩
  obtain⟨b,hb⟩:=Option.isSome_iff_exists.mp h1
  exact hv _ (PySem.mem_of_lookup hb)
theorem uh5 {i:Nat}(h:ds[i]?=some d):idxD (.list ds) (i:Int)=some d:=by
 have hl:=(List.getElem?_eq_some_iff.mp h).1
 have e:seqIndex? (i:Int) ds.length=some i:=by
  unfold seqIndex?
  have h1:¬((i:Int) < 0):=by (simp +arith)
  simp only [h1,if_false]
  have h3:(0:Int)<=i:=by (simp +arith)
  simp [h3,hl]
 show(seqIndex? (i:Int) ds.length).bind _=_
 rw [e]; exact h
theorem qs7 {α β:Type}{f:α->Option β}{h:α->β}:∀{l:List α},(∀x∈l,f x=some (h x))->mapO f l=some (l.map h)
 | [],_=>rfl
 | x::l,e=>by
  unfold mapO
  rw [e x (by simp),qs7 (l:=l) λy hy=>e y (by simp [hy])]
  rfl
theorem jn0 {β:Type}{f:D->Option β}{h:Int->β}{l:List Int}(e:∀x∈l,f (.int x)=some (h x)):mapO f (l.map .int)=some (l.map h):=by
 have:=qs7 (f:=f) (h:=λd=>match d with | .int x=>h x | _=>h 0) (l:=l.map .int) λd hd=>by
  obtain⟨x,hx,rfl⟩:=List.mem_map.mp hd
  exact e x hx
 rw [this,List.map_map]; rfl
theorem js5 {R:Ev}{ifs:List Expr}{scope:Scope}{xs:List Str}{items:List D}{outs:List (List D)}(hn:jb3 target=some xs)(hc:jh4 iter=true/\scope.kind=.function/\jf1 ρ scope.names=true/\jd8 scope.names xs=true)
  (hi:R.i ρ (ttOf target) iter=some items) (hm:mapO (jz0 R elt target ifs (ρ.inner scope.names)) items=some outs) (hz:outs.flatten.length<=cap):jv2 R ρ elt target iter ifs scope=some (.list outs.flatten,0):=by
 exact(bO hn).trans ((if_pos hc).trans ((bO hi).trans ((bO hm).trans (if_pos hz))))
theorem uk3 {R:Ev}{target' iter':Expr}{ifs ifs':List Expr}{scope:Scope}{xs xs':List Str}{items:List D}{outs:List (List D)}(hn:jb3 target=some xs)(hn':jb3 target'=some xs')(hc:jh4 iter=true/\jh4 iter'=true/\scope.kind=.function/\jf1 ρ scope.names=true/\jd8 scope.names xs=true/\jd8 scope.names xs'=true/\xs'.all (λx=>!xs.contains x)=true)
  (hi:R.i ρ (ttOf target) iter=some items) (hm:mapO (qt4 R elt target ifs target' iter' ifs' (ρ.inner scope.names)) items=some outs) (hz:outs.flatten.length<=cap):qc8 R ρ elt target iter ifs target' iter' ifs' scope=some (.list outs.flatten,0):=by
 exact(bO hn).trans ((bO hn').trans ((if_pos hc).trans ((bO hi).trans ((bO hm).trans (if_pos hz)))))
theorem jk9 {R:Ev}{p:Pos}{e:D}(h:R.e (ρ.set x d 0) elt=some (e,0)):jz0 R elt (.Name x p) [] ρ d=some [e]:=by
 exact(show dkV (R.e (ρ.set x d 0) elt) (λe k=>if k=0 then some [e] else none)=_ from(gV h).trans rfl)
theorem qp5 {R:Ev}{target' iter':Expr}{ifs':List Expr}{p:Pos}{items:List D}{outs:List (List D)}(hi:R.i (ρ.set x d 0) (ttOf target') iter'=some items)(hm:mapO (jz0 R elt target' ifs' (ρ.set x d 0)) items=some outs):qt4 R elt (.Name x p) [] target' iter' ifs' ρ d=some outs.flatten:=by
 exact(show((R.i (ρ.set x d 0) (ttOf target') iter').bind λitems=>(mapO (jz0 R elt target' ifs' (ρ.set x d 0)) items).bind λouts=>some outs.flatten)=_ from(bO hi).trans (bO hm))
section
variable {T:Tab} {n:Nat} {ρ:Rho} {p:Pos} {R:Ev} {X:Rho->List Stmt->Option (Fl×Rho)}
theorem r_ix {o i:Expr}{a:D}{kz:Nat}{z:Int}(hk:T.hook ρ (.Subscript o i p)=none)(hs:SubS.notSlice i=true)(x:(Ev.at T n).e ρ o=some (a,0))(y:(Ev.at T n).e ρ i=some (.int z,kz))(h:idxD a z=some d):(Ev.at T (n+1)).e ρ (.Subscript o i p)=some (d,0):=jv8 hk hs x y h
end
section
variable {T:Tab} {n:Nat} {ρ:Rho} {p:Pos} {R:Ev} {X:Rho->List Stmt->Option (Fl×Rho)}
theorem qn3 {ifs:List Expr}{scope:Scope}{r:Option DK}(hk:T.hook ρ (.ListComp elt [⟨target,iter,ifs,0⟩] scope p)=none)(h:jv2 (Ev.at T n) ρ elt target iter ifs scope=r):(Ev.at T (n+1)).e ρ (.ListComp elt [⟨target,iter,ifs,0⟩] scope p)=r:=by
 exact jm3 hk h
end
section
variable {T:Tab} {n:Nat} {ρ:Rho} {p:Pos} {R:Ev} {X:Rho->List Stmt->Option (Fl×Rho)}
end
section
variable {T:Tab} {n:Nat} {ρ:Rho} {p:Pos} {R:Ev} {X:Rho->List Stmt->Option (Fl×Rho)}
theorem qk2 (hp:ua7 e=none)(h:(Ev.at T n).e ρ e=some (.list ds,0)):(Ev.at T (n+1)).i ρ false e=some ds :=
 show orE ((ua7 e).bind _) id (ud9 (Ev.at T n) ρ false e)=_ from(oN (by rw [hp]; rfl)).trans ((gAl h).trans rfl)
end
section
variable {T:Tab} {n:Nat} {ρ:Rho} {p:Pos} {R:Ev} {X:Rho->List Stmt->Option (Fl×Rho)}
theorem s_comp {np cp:Pos}{ifs:List Expr}{scope:Scope}(hx:stOk ρ x=true)(hs:jf3 ρ scope x np cp=true)(h:jv2 R ρ elt target iter ifs scope=some (d,0)):jc9 R X ρ (.Assign [.Name x np] (.ListComp elt [⟨target,iter,ifs,0⟩] scope cp) p)=some (.next,ρ.put x d 0):=by
 exact(show qn9 (if stOk ρ x=true then put0 ρ x (if jf3 ρ scope x np cp=true then jv2 R ρ elt target iter ifs scope else R.e ρ (.ListComp elt [⟨target,iter,ifs,0⟩] scope cp)) else none)=_ from bO (show(if stOk ρ x=true then put0 ρ x (if jf3 ρ scope x np cp=true then jv2 R ρ elt target iter ifs scope else R.e ρ (.ListComp elt [⟨target,iter,ifs,0⟩] scope cp)) else none)=some (ρ.put x d 0) from(if_pos hx).trans (by rw [if_pos hs]; exact(gV h).trans rfl)))
end
section
variable {T:Tab} {n:Nat} {ρ:Rho} {p:Pos} {R:Ev} {X:Rho->List Stmt->Option (Fl×Rho)}
theorem s_comp' {np cp:Pos}{ifs:List Expr}{scope:Scope}(hx:stOk ρ x=true)(hs:jf3 ρ scope x np cp=false)(h:R.e ρ (.ListComp elt [⟨target,iter,ifs,0⟩] scope cp)=some (d,0)):jc9 R X ρ (.Assign [.Name x np] (.ListComp elt [⟨target,iter,ifs,0⟩] scope cp) p)=some (.next,ρ.put x d 0):=by
 exact(show qn9 (if stOk ρ x=true then put0 ρ x (if jf3 ρ scope x np cp=true then jv2 R ρ elt target iter ifs scope else R.e ρ (.ListComp elt [⟨target,iter,ifs,0⟩] scope cp)) else none)=_ from bO ((if_pos hx).trans (by rw [if_neg (by rw [hs]; decide)]; exact(gV h).trans rfl)))
end
section
variable {T:Tab} {n:Nat} {ρ:Rho} {p:Pos} {R:Ev} {X:Rho->List Stmt->Option (Fl×Rho)}
end
theorem jd4 {α β:Type}{f:α->β}:∀(l:List α),(l.map λx=>[f x]).flatten=l.map f
 | []=>rfl
 | x::l=>by simp [jd4 l]
theorem s_append {R:Ev}{X:Rho->List Stmt->Option (Fl×Rho)}{np ap cp p:Pos}{a:Expr}{xs:List D}(hc:(("append":Str)==("append":Str))=true/\jb1 a=true/\jk7 ρ x=true/\(x==("__debug__":Str))=false/\(ap.endLine==cp.line)=true)(hl:ρ.vars.lookup x=some (.list xs,1))(h:R.e ρ a=some (d,0))(hz:xs.length+1<=cap) :
  jc9 R X ρ (.Expr (.Call (.Attribute (.Name x np) "append" ap) [a] [] cp) p)=some (.next,ρ.put x (.list (xs++[d])) 1):=by
 exact(show appE R ρ x "append" ap cp a=_ from(if_pos hc).trans ((gL hl).trans ((gV h).trans (if_pos ⟨rfl,rfl,hz⟩))))
theorem r_list {T:Tab}{p:Pos}{es:List Expr}{vs:List DK}(hk:T.hook ρ (.List es p)=none)(hs:es.all jb1=true)(h:mapO ((Ev.at T n).e ρ) es=some vs)(h0:lvl0 vs=true/\vs.length<=cap):(Ev.at T (n+1)).e ρ (.List es p)=some (.list (vs.map (·.1)),0):=by
 exact jm3 hk (show seqE (Ev.at T n) ρ .list es=_ from(if_pos hs).trans ((bO h).trans (if_pos h0)))
theorem bt_sum {is:List Int}:btD "sum" [.list (is.map .int)]=some (.int is.sum):=by
 exact(show lsI (λis=>some (.int is.sum)) (.list (is.map .int))=_ from(bO (toInts_map is)).trans rfl)
theorem qa3 {x y:List D}{ka kb:Nat}(h:x.length+y.length<=cap/\ka<=1/\kb<=1):binD .Add (.list x) ka (.list y) kb=some (.list (x++y),0):=by
 show(if x.length+y.length<=cap/\ka<=1/\kb<=1 then some (PyData.list (x++y),0) else none)=_
 rw [if_pos h]
section
variable {g:Glob} {n:Nat} {P:Params}
end
theorem Run.pureS {W:Avoid}{R:Ev}{m:Nat}{st:Stmt}{ss:List Stmt}{Q:Flow->Shared->Prop}(r:Run c O M W ρ s)(okR:R.Ok c.g c.n)(hs:jc9 R (run R m) ρ st=some (.next,ρ'))
  (q:∀s',Chg (PM c.P M) s s'->Run c O M W ρ' s'->wpAny c.g.M c.Ar (execs ss c.env) Q E s'):wpAny c.g.M c.Ar (execs (st::ss) c.env) Q E s :=
 wpAny_execs_cons (r.stm (qe3 okR m hs) λfl s' hfl ch r'=>by
  have:fl=.next:=hfl
  subst this
  exact q s' ch r')
theorem Ints.old {xs:List Int}(x:Ints h a xs):∃o,h.get? a=some o:=by
 obtain⟨vs,n,e,_⟩:=x
 exact⟨_,e⟩
noncomputable def jp2 (xs:List Int) (lo hi st:Option Int):List Int :=
 (sliceRange (sliceBounds lo hi st xs.length).1 (sliceBounds lo hi st xs.length).2.1 (sliceBounds lo hi st xs.length).2.2).filterMap (xs[·]?)
theorem qm9 (xs:List Int)(lo hi st:Option Int):jp1 (xs.map .int) lo hi st=(jp2 xs lo hi st).map .int:=by
 unfold jp1 jp2
 rw [List.length_map,List.map_filterMap]
 congr 1
 funext i
 rw [List.getElem?_map]
theorem r_cutL {T:Tab}{o:Expr}{lo hi st:Option Expr}{q p:Pos}{xs:List Int}{l h t:Option Int}(hk:T.hook ρ (.Subscript o (.Slice lo hi st q) p)=none)(hx:(Ev.at T n).e ρ o=some (.list (xs.map .int),k))(hl:jo9 (Ev.at T n) ρ lo=some l)(hh:jo9 (Ev.at T n) ρ hi=some h)(hs:jo9 (Ev.at T n) ρ st=some t)(hc:k<=1/\t≠some 0) :
  (Ev.at T (n+1)).e ρ (.Subscript o (.Slice lo hi st q) p)=some (.list ((jp2 xs l h t).map .int),0):=by
 exact jm3 hk (show orE (cutS (Ev.at T n) ρ o lo hi st) id _=_ from oS ((bO hl).trans ((bO hh).trans ((gAl hx).trans ((bO hs).trans ((if_pos hc).trans (by rw [qm9])))))))
theorem qf6 {α β γ:Type}{f:β->Option γ}{g:α->β}{h:α->γ}:∀{l:List α},(∀x∈l,f (g x)=some (h x))->mapO f (l.map g)=some (l.map h)
 | [],_=>rfl
 | x::l,e=>by
  rw [List.map_cons]
  exact(bO (e x (by simp))).trans ((bO (qf6 (l:=l) λy hy=>e y (by simp [hy]))).trans rfl)
theorem qy1 {R:Ev}{y:Str}{p q r:Pos}{d1 d2 e:D}(h:R.e ((ρ.set x d1 0).set y d2 0) elt=some (e,0)):jz0 R elt (.Tuple [.Name x p,.Name y q] k r) [] ρ (.tuple [d1,d2])=some [e]:=by
 exact(show dkV (R.e ((ρ.set x d1 0).set y d2 0) elt) (λe k=>if k=0 then some [e] else none)=_ from(gV h).trans rfl)
theorem qi3 (xs:List Int):(jp2 xs none (some 12) none).length<=12:=by
 unfold jp2
 refine Nat.le_trans (List.length_filterMap_le _ _) ?_
 show(sliceRange 0 (max 0 (min 12 (xs.length:Int))) 1).length<=12
 unfold sliceRange
 rw [List.length_map,List.length_range]
 simp only [show(1:Int) > 0 from by decide,if_true]
 split
 ·rw [Int.ediv_one]; omega
 ·decide
theorem S_append (a b:List Nat):S a++S b=S (a++b):=by
 show(⟨a.toArray++b.toArray⟩:Str)=⟨(a++b).toArray⟩
 rw [List.append_toArray]
noncomputable def defOf (s:Stmt):Str×Arguments×List Stmt×Scope×Pos:=if h:s.ctorIdx=0 then Stmt.FunctionDef.elim (motive_2:=λzw=>Str×Arguments×List Stmt×Scope×Pos) s h λn a b zw zw zw c zw zw p=>(n,a,b,c,p) else ("",⟨[],[],none,[],[],none,[]⟩,[],default,default)
theorem qx4:TabOk ⟨λzw zw=>none,λzw zw=>none⟩ g n:=⟨λzw zw zw h=>(by cases h),λzw zw zw zw h=>(by cases h)⟩
end
section
open PySem.Builtin.Str
noncomputable abbrev Ent:=Str×(List D->Option D)
noncomputable def qm5 (l:List Ent):Tab:=⟨λf ds=>(l.lookup f).bind λF=>F ds,λzw zw=>none⟩
structure EntOk (g:Glob) (n:Nat) (e:Ent):Prop where
 ok:∃v,Callee g e.1 v/\∀ds d,e.2 ds=some d->jc1 g n v ds 0 d 0
theorem qe1 {l:List Ent}(h:∀e∈l,EntOk g n e):TabOk (qm5 l) g n :=
 ⟨λf ds d hd=>bd hd λF hF hd=>by
  obtain⟨v,h1,h2⟩:=(h _ (PySem.mem_of_lookup hF)).ok
  exact⟨v,h1,h2 _ _ hd⟩,λzw zw zw zw h=>(by cases h)⟩
theorem jl4 (xs:List D)(j:Nat)(h:j<=xs.length):jp1 xs none (some j) none=xs.take j:=by
 unfold jp1
 rw [sliceBounds_plain]
 have e:clipAt xs.length (j:Int)=j:=by
  have:=clipAt_cast xs.length (j:Int)
  rw [if_neg (by (simp +arith))] at this
  grind
 show((sliceRange ((0:Nat):Int) ((clipAt xs.length (j:Int):Nat):Int) 1).filterMap (xs[·]?))=_
 rw [e,sliceRange_one,ue0 xs _ _ (by simpa using h)]
 ·rfl
 ·exact Nat.zero_le _
section
variable {T:Tab} {n:Nat} {ρ:Rho} {p:Pos}
theorem qr9 {o:Expr}{lo hi st:Option Expr}{q:Pos}{xs:List D}{l h t:Option Int}(hk:T.hook ρ (.Subscript o (.Slice lo hi st q) p)=none)(hx:(Ev.at T n).e ρ o=some (.list xs,k))(hl:jo9 (Ev.at T n) ρ lo=some l)(hh:jo9 (Ev.at T n) ρ hi=some h)(hs:jo9 (Ev.at T n) ρ st=some t)(hc:k<=1/\t≠some 0) :
  (Ev.at T (n+1)).e ρ (.Subscript o (.Slice lo hi st q) p)=some (.list (jp1 xs l h t),0) :=
 jm3 hk (show orE (cutS (Ev.at T n) ρ o lo hi st) id _=_ from oS ((bO hl).trans ((bO hh).trans ((gAl hx).trans ((bO hs).trans (if_pos hc))))))
end
section
variable {g:Glob} {n:Nat} {P:Params}
end
section
variable {T:Tab} {n:Nat} {ρ:Rho} {p:Pos}
theorem qw7 {c:Nat}(hk:T.hook ρ (.Constant (.str x) c p)=none):(Ev.at T (n+1)).e ρ (.Constant (.str x) c p)=some (.str x,0):=jm3 hk rfl
end
section
variable {T:Tab} {n:Nat} {ρ:Rho} {p:Pos}
theorem r_if {c a b:Expr}{t:Bool}{r:Option DK}(hk:T.hook ρ (.IfExp c a b p)=none)(hc:(Ev.at T n).t ρ c=some t)(h:(if t=true then (Ev.at T n).e ρ a else (Ev.at T n).e ρ b)=r):(Ev.at T (n+1)).e ρ (.IfExp c a b p)=r :=
 jm3 hk (show ifE (Ev.at T n) ρ c a b=r from(bO hc).trans h)
end
theorem lastE_if {R:Ev}{c:Expr}{p:Pos}{e:D}{b:Bool}(hc:R.t (ρ.set x d 0) c=some b)(h:R.e (ρ.set x d 0) elt=some (e,0)):jz0 R elt (.Name x p) [c] ρ d=some (if b=true then [e] else []):=by
 refine(show((l0 (R.t (ρ.set x d 0) c) ([]:List Expr)).bind λb=>if b=true then dkV (R.e (ρ.set x d 0) elt) λe k=>if k=0 then some [e] else none else some [])=_ from(bO (show l0 (R.t (ρ.set x d 0) c) ([]:List Expr)=some b from hc)).trans ?_)
 cases b
 ·rfl
 ·exact(if_pos rfl).trans ((gV h).trans rfl)
theorem jz3 {α β:Type}{f:α->β}{p:α->Bool}:∀(l:List α),(l.map λx=>if p x=true then [f x] else []).flatten=(l.filter p).map f
 | []=>rfl
 | x::l=>by
  rw [List.map_cons,List.flatten_cons,jz3 l,List.filter_cons]
  split <;> rfl
theorem qa4:∀ps:List Int,PyData.canLayAll0 (ps.map .int)=true
 | []=>rfl
 | p::ps=>(show(true && PyData.canLayAll0 (ps.map .int))=true from qa4 ps)
theorem jz9:∀xs ys:List Int,PyData.eqvAll (xs.map .int) (ys.map .int)=(xs==ys)
 | [],[]=>rfl
 | [],_::_=>rfl
 | _::_,[]=>rfl
 | x::xs,y::ys=>(show((x==y) && PyData.eqvAll (xs.map .int) (ys.map .int))=((x==y) && (xs==ys)) by rw [jz9])
theorem qc7:∀ps:List Int,PyData.depthAll (ps.map .int)<=0
 | []=>Nat.le_refl _
 | p::ps=>(show max 0 (PyData.depthAll (ps.map .int))<=0 from Nat.max_le.mpr ⟨Nat.le_refl _,qc7 ps⟩)
theorem jx8 (ps:List Int):SeqAt.shaped (.list (ps.map .int))=true:=by
 have h1:=qa4 ps
 have h2:=qc7 ps
 refine Bool.and_eq_true_iff.mpr ⟨h1,decide_eq_true (show PyData.depthAll _+1<=64 by omega)⟩
theorem ne_ints (xs ys:List Int):cmpD .NotEq (.list (xs.map .int)) (.list (ys.map .int))=some (xs != ys) :=
 (if_pos ⟨jx8 xs,jx8 ys⟩).trans (congrArg some (congrArg (!·) (jz9 xs ys)))
theorem r_cmp {T:Tab}{p:Pos}{l r:Expr}{op:CmpOp}{a b:D}{ka kb:Nat}{c:Bool}(hk:T.hook ρ (.Compare l [op] [r] p)=none)(hm:behindInMarks op r=false)(ha:(Ev.at T n).e ρ l=some (a,ka))(hb:(Ev.at T n).e ρ r=some (b,kb))(hc:cmpD op a b=some c):(Ev.at T (n+1)).e ρ (.Compare l [op] [r] p)=some (.bool c,0) :=
 jm3 hk (show cmpE1 (Ev.at T n) ρ l (λb=>(PyData.bool b,0)) op r=_ from(if_pos hm).trans ((gV ha).trans ((gV hb).trans ((bO hc).trans rfl))))
structure Has (sc:List (Str×NameKind)) (l:List (Str×D)) (ρ:Rho):Prop where
 sc:ρ.sc=sc
 is:∀x d,l.lookup x=some d->ρ.is x d
section
variable {sc:List (Str×NameKind)} {l:List (Str×D)} {ρ:Rho} (H:Has sc l ρ)
include H
theorem Has.put:Has sc ((x,d)::l) (ρ.put x d 0):=⟨H.sc,λy e hy=>by
 rw [List.lookup_cons] at hy
 show(ρ.put x d 0).vars.lookup y=some (e,0)
 rw [ji3]
 cases h:y==x with
 | true=>rw [h] at hy; cases hy; rfl
 | false=>rw [h] at hy; exact H.is y e hy⟩
end
section
variable {sc:List (Str×NameKind)} {l:List (Str×D)} {ρ:Rho} (H:Has sc l ρ)
include H
theorem Has.st (hx:(sc.lookup x==some .local || sc.lookup x==some .cell)=true):stOk ρ x=true:=stn H.sc hx
end
section
variable {sc:List (Str×NameKind)} {l:List (Str×D)} {ρ:Rho} (H:Has sc l ρ)
include H
theorem Has.glob {k:NameKind}(h:sc.lookup x=some k):ρ.sc.lookup x=some k:=by rw [H.sc]; exact h
end
section
variable {sc:List (Str×NameKind)} {l:List (Str×D)} {ρ:Rho} (H:Has sc l ρ)
include H
theorem Has.free {names:List (Str×NameKind)}(h:jf1 ⟨sc,l.map λp=>(p.1,(.none,0))⟩ names=true):jf1 ρ names=true:=by
 refine ui4 h H.sc λp hp=>?_
 obtain⟨q,hq,rfl⟩:=List.mem_map.mp hp
 have e:∀l:List (Str×D),q∈l->(l.lookup q.1).isSome=true:=λl=>by
  induction l with
  | nil=>intro h; cases h
  | cons a l ih =>
   intro h
   rw [List.lookup_cons]
   cases e:q.1==a.1 with
   | true=>rfl
   | false =>
    rcases List.mem_cons.mp h with h | h
    ·rw [h] at e; simp at e
    ·exact ih h
 obtain⟨d,hd⟩:=Option.isSome_iff_exists.mp (e l hq)
 have:ρ.vars.lookup q.1=some (d,0):=H.is _ _ hd
 rw [this]; rfl
end
section
variable {sc:List (Str×NameKind)} {l:List (Str×D)} {ρ:Rho} (H:Has sc l ρ)
include H
theorem Has.swaps {scope:Scope}{np cp:Pos}{b:Bool}(h:jf3 ⟨sc,[]⟩ scope x np cp=b):jf3 ρ scope x np cp=b:=by
 unfold jf3 at h ⊢
 rw [H.sc]; exact h
end
section
variable {T:Tab} {n:Nat} {ρ:Rho} {p:Pos}
theorem r_join {o x:Expr}{ap:Pos}{s:Str}{ys:List Str}{k':Nat}(hk:T.hook ρ (.Call (.Attribute o "join" ap) [x] [] p)=none)(hb:je2 o=true)(hl:(ap.endLine==p.line)=true)(hs:jb1 x=true)(ho:(Ev.at T n).e ρ o=some (.str s,k))(hx:(Ev.at T n).e ρ x=some (.list (ys.map .str),k'))(hj:JoinOk s ys=true) :
  (Ev.at T (n+1)).e ρ (.Call (.Attribute o "join" ap) [x] [] p)=some (.str (Txt.join s ys),0) :=
 jm3 hk (show(if je2 o=true/\(ap.endLine==p.line)=true then uf7 (Ev.at T n) ρ o "join" [x] else none)=_ from(if_pos ⟨hb,hl⟩).trans
  (show dkS ((Ev.at T n).e ρ o) (λs zw=>if jb1 x=true then dkL ((Ev.at T n).e ρ x) λds zw=>(qb3 ds).bind λys=>if JoinOk s ys=true then some (PyData.str (Txt.join s ys),0) else none else none)=_ from(gS ho).trans ((if_pos hs).trans ((gL hx).trans ((bO (toStrs_map ys)).trans (if_pos hj))))))
end
theorem Run.cxKeep {W:Avoid}(r:Run c O No W ρ s)(cx:Cx No c.Fc s s'):Run c O No W ρ s'/\∀b o,W b->s.heap.get? b=some o->s'.heap.get? b=some o:=by
 have wF:∀b,W b->¬c.Fc b:=r.at.wf
 have kp:∀b o,W b->s.heap.get? b=some o->s'.heap.get? b=some o:=λb o hb e=>(cx.2 b o id e).2 (wF b hb)
 have al:Alloc W s':=λb hb=>by
  obtain⟨o,e⟩:=r.act.aO b (r.wo b hb)
  exact⟨_,kp b o hb e⟩
 have r_4:=r.eff (W':=W) (cx.mono (λzw h=>h.elim) λzw h=>h) (λzw h=>h) (λzw h=>.inl h) al
 rw [or_self r.wo] at r_4
 exact⟨r_4,kp⟩
section
variable {T:Tab} {n:Nat} {ρ:Rho} {p:Pos}
end
section
variable {T:Tab} {n:Nat} {ρ:Rho} {p:Pos}
end
section
variable {c:Fx} {P:Params} {O W:Avoid} {ρ:Rho} {s:Shared} {l:List (Str×D)} {E:Value->Shared->Prop} {Q:Flow->Shared->Prop}
theorem Run.pureH {R:Ev}{sc:List (Str×NameKind)}{m:Nat}{st:Stmt}{ss:List Stmt}(r:Run c O M W ρ s)(H:Has sc l ρ)(okR:R.Ok c.g c.n)(hs:jc9 R (run R m) ρ st=some (.next,ρ.put x d 0))
  (q:∀ρ' s',(∀b o,W b->s.heap.get? b=some o->s'.heap.get? b=some o)->Run c O M W ρ' s'->Has sc ((x,d)::l) ρ'->wpAny c.g.M c.Ar (execs ss c.env) Q E s'):wpAny c.g.M c.Ar (execs (st::ss) c.env) Q E s :=
 r.pureS okR hs λs' c' r'=>q _ s' (r.same c') r' H.put
end
section
variable {c:Fx} {P:Params} {O W:Avoid} {ρ:Rho} {s:Shared} {l:List (Str×D)} {E:Value->Shared->Prop} {Q:Flow->Shared->Prop}
end
section
variable {c:Fx} {P:Params} {O W:Avoid} {ρ:Rho} {s:Shared} {l:List (Str×D)} {E:Value->Shared->Prop} {Q:Flow->Shared->Prop}
theorem Run.pureR {R:Ev}{m:Nat}{st:Stmt}{ss:List Stmt}(r:Run c O M W ρ s)(okR:R.Ok c.g c.n)(hs:jc9 R (run R m) ρ st=some (.ret (.bool true),ρ))
  (q:∀s',(∀b o,W b->s.heap.get? b=some o->s'.heap.get? b=some o)->Run c O M W ρ s'->Q (.ret (.bool true)) s'):wpAny c.g.M c.Ar (execs (st::ss) c.env) Q E s :=
 wpAny_execs_cons (r.stm (qe3 okR m hs) λfl s' hfl ch r'=>by
  obtain⟨v,k,rfl,rv⟩:=hfl
  obtain rfl:=jt5 rv
  exact q s' (r.same ch) r')
end
section
variable {c:Fx} {P:Params} {O W:Avoid} {ρ:Rho} {s:Shared} {l:List (Str×D)} {E:Value->Shared->Prop} {Q:Flow->Shared->Prop}
end
theorem grown_of {st:Option Addr}{p:Addr}{q:Str}(T:TabAt h p pos q st):GrownAt p h:=by
 cases st with
 | none=>exact⟨_,T⟩
 | some c=>exact⟨_,T.1⟩
theorem GrownAt.keep {p:Addr}(g:GrownAt p h)(k:∀o,h.get? p=some o->h'.get? p=some o):GrownAt p h':=by
 obtain⟨ps,e⟩:=g
 exact⟨ps,k _ e⟩
theorem Run.testG {W:Avoid}{b:Bool}{Q:Bool->Shared->Prop}(r:Run c O M W ρ s)(x:TestS c.g c.n ρ e b)
  (q:∀s',Keeps s s'->Run c O M W ρ s'->Q b s'):wpAny c.g.M c.Ar (isTrue e c.env (eval e c.env)) Q E s :=
 wpAny_mono (x O M c.env c.Ar s E r.act.up r.rm r.act.aO r.act.aM r.act.eo) (λv s' ⟨k,rd⟩=>by subst rd; exact q s' k (r.keeps k)) λzw zw z=>z
end
noncomputable abbrev T3:=Int×Int×Int
noncomputable def jm5 (w x:T3):T3 :=
 let y1:=max (max 0 x.1) w.1
 let y2:=max (max (y1 - 2) x.2.1) (x.1+w.2.1)
 (y1,y2,max (max (y2 - 2) x.2.2) (x.2.1+w.2.2))
noncomputable def rowX (x:T3) (t:Nat):List Int:=[2*(t:Int) - x.1,2*(t:Int) - x.2.1,2*(t:Int) - x.2.2]
noncomputable def gain (a0 a1 a2 c:Nat):T3:=(2 - subC c a0,2 - subC c a1,2 - subC c a2)
theorem uf4 (a x y:Int):min (a - x) (a - y)=a - max x y:=by omega
theorem mn3 (t y x x1 s:Int):min (min (t+2 - y) (t - x)+2) (t - x1+s)=t+2 - max (max (y - 2) x) (x1+(2 - s)):=by
 have a:t+2 - y=t - (y - 2):=by omega
 have b:t - max (y - 2) x+2=t+2 - max (y - 2) x:=by omega
 have c:t - x1+s=t+2 - (x1+(2 - s)):=by omega
 rw [a,uf4,b,c,uf4]
theorem line3 (a0 a1 a2 c i:Nat)(x:T3):(jn1 [a0,a1,a2] c i (rowX x i)).1=rowX (jm5 (gain a0 a1 a2 c) x) (i+1)/\(jn1 [a0,a1,a2] c i (rowX x i)).2.2.1=2*((i+1:Nat):Int) - (jm5 (gain a0 a1 a2 c) x).2.2/\(jn1 [a0,a1,a2] c i (rowX x i)).2.2.2<=2*((i+1:Nat):Int) - (jm5 (gain a0 a1 a2 c) x).1:=by
 obtain⟨x1,x2,x3⟩:=x
 have hM:(jn1 [a0,a1,a2] c i (rowX (x1,x2,x3) i)).2.2.2<=min (min (2*(i:Int)) (2*(i:Int) - x1)+2) (2*(i:Int)+subC c a0):=by
  have k:∀e m:Int,(if e < m then e else m)<=m:=λe m=>by split <;> omega
  have k0:∀e b:Int,(if e < b then e else b)<=e:=λe m=>by split <;> omega
  exact Int.le_trans (k _ _) (Int.le_trans (k _ _) (k0 _ _))
 have hL:jn1 [a0,a1,a2] c i (rowX (x1,x2,x3) i)=([min (min (2*(i:Int)) (2*(i:Int) - x1)+2) (2*(i:Int)+subC c a0),min (min (min (min (2*(i:Int)) (2*(i:Int) - x1)+2) (2*(i:Int)+subC c a0)) (2*(i:Int) - x2)+2) (2*(i:Int) - x1+subC c a1),min (min (min (min (min (min (2*(i:Int)) (2*(i:Int) - x1)+2) (2*(i:Int)+subC c a0)) (2*(i:Int) - x2)+2) (2*(i:Int) - x1+subC c a1)) (2*(i:Int) - x3)+2) (2*(i:Int) - x2+subC c a2)],2*(i:Int) - x3,min (min (min (min (min (min (2*(i:Int)) (2*(i:Int) - x1)+2) (2*(i:Int)+subC c a0)) (2*(i:Int) - x2)+2) (2*(i:Int) - x1+subC c a1)) (2*(i:Int) - x3)+2) (2*(i:Int) - x2+subC c a2),(jn1 [a0,a1,a2] c i (rowX (x1,x2,x3) i)).2.2.2):=rfl
 show _=[2*((i+1:Nat):Int) - max (max 0 x1) (2 - subC c a0),2*((i+1:Nat):Int) - max (max (max (max 0 x1) (2 - subC c a0) - 2) x2) (x1+(2 - subC c a1)),2*((i+1:Nat):Int) - max (max (max (max (max (max 0 x1) (2 - subC c a0) - 2) x2) (x1+(2 - subC c a1)) - 2) x3) (x2+(2 - subC c a2))]/\_=2*((i+1:Nat):Int) - max (max (max (max (max (max 0 x1) (2 - subC c a0) - 2) x2) (x1+(2 - subC c a1)) - 2) x3) (x2+(2 - subC c a2))/\_<=2*((i+1:Nat):Int) - max (max 0 x1) (2 - subC c a0)
 have et:2*((i+1:Nat):Int)=2*(i:Int)+2:=by omega
 rw [hL,et]
 generalize 2*(i:Int)=t at hM ⊢
 have e0:min (min t (t - x1)+2) (t+subC c a0)=t+2 - max (max 0 x1) (2 - subC c a0):=by
  have h:=mn3 t 2 x1 0 (subC c a0)
  rw [Int.add_sub_cancel,Int.sub_zero,Int.zero_add] at h
  exact h
 rw [e0] at hM ⊢
 rw [mn3,mn3]
 exact⟨rfl,rfl,hM⟩
theorem qb4 (a0 a1 a2:Nat)(m:Int):∀(b:List Nat) (t:Nat) (x:T3) (r:Int),2*((t:Int)+b.length)<=m->qb5 [a0,a1,a2] m b t (rowX x t) r=if b=[] then r else 2*((t:Int)+b.length) - (b.foldl (λx c=>jm5 (gain a0 a1 a2 c) x) x).2.2
 | [],t,x,r,_=>rfl
 | c::b,t,x,r,hm=>by
  obtain⟨l1,l2,l3⟩:=line3 a0 a1 a2 c t x
  rw [List.length_cons] at hm
  have h0:0<=(jm5 (gain a0 a1 a2 c) x).1:=by
   show 0<=max (max 0 x.1) _
   omega
  have hle:¬(jn1 [a0,a1,a2] c t (rowX x t)).2.2.2 > m:=by omega
  rw [if_neg (List.cons_ne_nil c b)]
  show(if (jn1 [a0,a1,a2] c t (rowX x t)).2.2.2 > m then m+1 else qb5 [a0,a1,a2] m b (t+1) (jn1 [a0,a1,a2] c t (rowX x t)).1 (jn1 [a0,a1,a2] c t (rowX x t)).2.2.1)=_
  rw [if_neg hle,l1,l2,qb4 a0 a1 a2 m b (t+1) _ _ (by omega),List.length_cons]
  split
  ·rename_i hb
   subst hb
   simp
  ·show 2*(((t+1:Nat):Int)+b.length) - _=2*((t:Int)+((b.length+1:Nat):Int)) - _
   congr 1
   omega
noncomputable def jd1 (w u:T3):T3:=(max u.1 w.1,max (max u.1 w.1) (max u.2.1 (u.1+w.2.1)),max (max (max u.1 w.1) (max u.2.1 (u.1+w.2.1))) (max u.2.2 (u.2.1+w.2.2)))
theorem qo0 {a z:Int}(t:Int)(h:a<=z):max z (max a t)=max z t:=by rw [<- Int.max_assoc,Int.max_eq_left h]
theorem block_is (w u:T3)(h:0<=u.1):jm5 (0,0,0) (jm5 (0,0,0) (jm5 w u))=jd1 w u:=by
 obtain⟨u1,u2,u3⟩:=u
 obtain⟨w1,w2,w3⟩:=w
 have A:∀y t:Int,max (max (y - 2) t) y=max y t:=λy t=>by rw [Int.max_comm _ y,qo0 _ (Int.sub_le_self y (by decide))]
 have p1:0<=max u1 w1:=Int.le_trans h (Int.le_max_left _ _)
 unfold jm5 jd1
 dsimp only
 rw [Int.max_eq_right h]
 generalize max u1 w1=y1 at p1
 rw [Int.max_eq_right p1,Int.max_eq_left p1,Int.max_eq_right p1,Int.max_eq_left p1,Int.add_zero,Int.add_zero,Int.add_zero,A,A,Int.max_assoc (y1 - 2),qo0 _ (Int.sub_le_self y1 (by decide)),<- Int.max_assoc y1 y1,Int.max_self]
 generalize hz:max y1 (max u2 (u1+w2))=z
 have hy:max (y1 - 2) (max u2 (u1+w2))<=z:=Int.max_le.mpr ⟨Int.le_trans (Int.sub_le_self y1 (by decide)) (hz ▸ Int.le_max_left _ _),hz ▸ Int.le_max_right _ _⟩
 generalize max (y1 - 2) (max u2 (u1+w2))=y2 at hy
 rw [A,Int.max_assoc (z - 2),qo0 _ (Int.sub_le_self z (by decide)),Int.max_comm _ y2,qo0 _ hy,Int.max_assoc,qo0 _ (Int.le_trans (Int.sub_le_self y2 (by decide)) hy)]
noncomputable def jb4 (l:List Nat):List Nat:=[46,46]++(l.map λc=>[c,46,46]).flatten
theorem jt1 (l:List Nat):(jb4 l).length=2+3*l.length:=by
 have:∀l:List Nat,((l.map λc=>[c,46,46]).flatten).length=3*l.length:=λl=>by
  induction l with
  | nil=>rfl
  | cons c l ih=>rw [List.map_cons,List.flatten_cons,List.length_append,ih]; show 3+3*l.length=3*(l.length+1); omega
 unfold jb4
 rw [List.length_append,this]; rfl
theorem blocks (a0 a1 a2:Nat)(hd:gain a0 a1 a2 46=(0,0,0)):∀(l:List Nat) (u:T3),0<=u.1->((l.map λc=>[c,46,46]).flatten).foldl (λx c=>jm5 (gain a0 a1 a2 c) x) u=l.foldl (λu c=>jd1 (gain a0 a1 a2 c) u) u
 | [],_,_=>rfl
 | c::l,u,h=>by
  rw [List.map_cons,List.flatten_cons,List.foldl_append,List.foldl_cons]
  show List.foldl _ (jm5 (gain a0 a1 a2 46) (jm5 (gain a0 a1 a2 46) (jm5 (gain a0 a1 a2 c) u))) _=_
  rw [hd,block_is _ _ h,blocks a0 a1 a2 hd l _ (by show 0<=max u.1 _; omega)]
  rfl
theorem qc5 (a0 a1 a2:Nat)(l:List Nat)(hl:l.length<=5)(hl1:1<=l.length)(h0:a0≠46)(h2:a2≠46)(hd:gain a0 a1 a2 46=(0,0,0)) :
  levF [a0,a1,a2] (jb4 l) 34=2*(2+3*(l.length:Int)) - (l.foldl (λu c=>jd1 (gain a0 a1 a2 c) u) (0,0,-2)).2.2:=by
 have hlen:=jt1 l
 have hne:[a0,a1,a2]≠jb4 l:=λe=>by
  have:=congrArg List.length e
  rw [hlen] at this
  have:3=2+3*l.length:=this
  omega
 have p0:preN [a0,a1,a2] (jb4 l)=0:=by
  show(if a0==46 then _ else 0)=0
  rw [beq_eq_false_iff_ne.mpr h0]; rfl
 have hlast:∃r,(jb4 l).reverse=46::r:=by
  obtain⟨c,l',rfl⟩:∃c l',l=l'++[c]:=⟨l.getLast (by intro z; rw [z] at hl1; cases hl1),l.dropLast,(List.dropLast_concat_getLast _).symm⟩
  unfold jb4
  rw [List.map_append,List.flatten_append,List.reverse_append,List.reverse_append]
  exact⟨_,rfl⟩
 obtain⟨r,hr⟩:=hlast
 have s0:sufN [a0,a1,a2] (jb4 l)=0:=by
  unfold sufN
  rw [hr]
  show(if a2==46 then _ else 0)=0
  rw [beq_eq_false_iff_ne.mpr h2]; rfl
 unfold levF
 rw [if_neg hne]
 dsimp only
 rw [p0,List.drop_zero,List.drop_zero,s0,Nat.sub_zero,Nat.sub_zero,List.take_length,List.take_length]
 unfold levS
 have hb:jb4 l≠[]:=λz=>by
  rw [z] at hlen
  have:0=2+3*l.length:=hlen
  omega
 rw [if_neg (by simp [hb]),if_neg (by rw [hlen]; show ¬(3 > 40\/_); omega),if_neg (by rw [hlen]; show ¬_ < 3; omega),if_neg (by rw [hlen]; show ¬(((2+3*l.length:Nat):Int) - 3)*2 > 34; omega)]
 show qb5 [a0,a1,a2] 34 (jb4 l) 0 (rowX (-2,-4,-6) 0) 0=_
 rw [qb4 a0 a1 a2 34 (jb4 l) 0 _ _ (by rw [hlen]; omega),if_neg hb,hlen]
 have e:(jb4 l).foldl (λx c=>jm5 (gain a0 a1 a2 c) x) (-2,-4,-6)=l.foldl (λu c=>jd1 (gain a0 a1 a2 c) u) (0,0,-2):=by
  unfold jb4
  rw [List.foldl_append]
  have:List.foldl (λx c=>jm5 (gain a0 a1 a2 c) x) (-2,-4,-6) [46,46]=((0,0,-2):T3):=by
   show jm5 (gain a0 a1 a2 46) (jm5 (gain a0 a1 a2 46) (-2,-4,-6))=_
   rw [hd]; rfl
  rw [this,blocks a0 a1 a2 hd l _ (by decide)]
 rw [e]
 omega
section
theorem blk {c:Bool}{a b s v w B:Int}(hb:0<=b)(hs:s<=a)(h1:c=true->B=w+s)(h0:c=false->w=0)(hw:0<=w)(hv:v=max (max a b) (if c=true then B else 0)):v=max a (max b (s+w)):=by
 cases c with
 | true=>rw [hv,if_pos rfl,h1 rfl,Int.max_assoc,Int.add_comm w s]
 | false=>rw [hv,if_neg Bool.false_ne_true,h0 rfl,Int.add_zero,Int.max_comm b s,<- Int.max_assoc,Int.max_eq_left hs,Int.max_eq_left (Int.le_trans hb (Int.le_max_right _ _))]
structure Sup (meet:Nat->Nat->Bool) (B S:Nat->Nat->Int):Prop where
 le:∀i j z,S i j<=z↔0<=z/\∀i' < i,∀j' < j,meet i' j'=true->B i' j'<=z
section
variable {meet:Nat->Nat->Bool} {B S wt:Nat->Nat->Int} (H:Sup meet B S)
include H
theorem Sup.zero (j:Nat):S 0 j=0:=by
 have a:=(H.le 0 j 0).mpr ⟨Int.le_refl _,λzw h=>absurd h (Nat.not_lt_zero _)⟩
 have b:=((H.le 0 j (S 0 j)).mp (Int.le_refl _)).1
 omega
theorem Sup.col (i:Nat):S i 0=0:=by
 have a:=(H.le i 0 0).mpr ⟨Int.le_refl _,λzw zw zw h=>absurd h (Nat.not_lt_zero _)⟩
 have b:=((H.le i 0 (S i 0)).mp (Int.le_refl _)).1
 omega
theorem Sup.nn (i j:Nat):0<=S i j:=((H.le i j (S i j)).mp (Int.le_refl _)).1
theorem Sup.step (i j:Nat):S (i+1) (j+1)=max (max (S i (j+1)) (S (i+1) j)) (if meet i j=true then B i j else 0):=by
 have key:∀z,S (i+1) (j+1)<=z↔max (max (S i (j+1)) (S (i+1) j)) (if meet i j=true then B i j else 0)<=z:=λz=>by
  rw [H.le,Int.max_le,Int.max_le,H.le,H.le]
  refine⟨λ⟨h0,h⟩=>⟨⟨⟨h0,λi' hi j' hj=>h i' (by omega) j' hj⟩,⟨h0,λi' hi j' hj=>h i' hi j' (by omega)⟩⟩,?_⟩,λ⟨⟨⟨h0,h1⟩,⟨_,h2⟩⟩,h3⟩=>⟨h0,λi' hi j' hj hm=>?_⟩⟩
  ·split
   ·rename_i hm; exact h i (by omega) j (by omega) hm
   ·exact h0
  ·by_cases e1:i' < i
   ·exact h1 i' e1 j' hj hm
   ·by_cases e2:j' < j
    ·exact h2 i' hi j' e2 hm
    ·have a1:i'=i:=by omega
     have a2:j'=j:=by omega
     rw [a1,a2] at hm ⊢
     rw [if_pos hm] at h3
     exact h3
 exact Int.le_antisymm ((key _).mpr (Int.le_refl _)) ((key _).mp (Int.le_refl _))
theorem Sup.block (hB:∀i j,i < 3->meet i j=true->B i j=wt i j+S i j)(h0:∀i j,meet i j=false->wt i j=0)(hw:∀i j,0<=wt i j)(j:Nat) :
  (S 1 (j+1),S 2 (j+1),S 3 (j+1))=jd1 (wt 0 j,wt 1 j,wt 2 j) (S 1 j,S 2 j,S 3 j):=by
 have s1:=blk (H.nn 1 j) (Int.le_of_eq ((H.zero j).trans (H.zero (j+1)).symm)) (hB 0 j (by decide)) (h0 0 j) (hw 0 j) (H.step 0 j)
 have s2:=blk (H.nn 2 j) (by rw [H.step 0 j]; exact Int.le_trans (Int.le_max_right _ _) (Int.le_max_left _ _)) (hB 1 j (by decide)) (h0 1 j) (hw 1 j) (H.step 1 j)
 have s3:=blk (H.nn 3 j) (by rw [H.step 1 j]; exact Int.le_trans (Int.le_max_right _ _) (Int.le_max_left _ _)) (hB 2 j (by decide)) (h0 2 j) (hw 2 j) (H.step 2 j)
 rw [H.zero,H.zero,Int.zero_add,Int.max_comm,Int.max_eq_left (Int.le_trans (H.nn 1 j) (Int.le_max_left _ _))] at s1
 unfold jd1
 dsimp only
 rw [s3,s2,s1]
theorem Sup.fold (hB:∀i j,i < 3->meet i j=true->B i j=wt i j+S i j)(h0:∀i j,meet i j=false->wt i j=0)(hw:∀i j,0<=wt i j):∀n,(S 1 n,S 2 n,S 3 n)=(List.range n).foldl (λu j=>jd1 (wt 0 j,wt 1 j,wt 2 j) u) (0,0,0)
 | 0=>by rw [H.col,H.col,H.col]; rfl
 | n+1=>by
  rw [List.range_succ,List.foldl_append,<- Sup.fold hB h0 hw n]
  exact H.block hB h0 hw n
end
theorem qq8 {w:T3}(h:0<=w.1):jd1 w (0,0,-2)=jd1 w (0,0,0):=by
 obtain⟨w1,w2,w3⟩:=w
 unfold jd1
 dsimp only
 have hA:0<=max (max 0 w1) (max 0 (0+w2)):=Int.le_trans (Int.le_max_left 0 w1) (Int.le_max_left _ _)
 rw [qo0 _ hA,qo0 _ (Int.le_trans (by decide) hA)]
end
set_option backward.match.sparseCases true
section
section
variable {g:Glob} {n:Nat} {ks k:Nat}
end
end
section
noncomputable def insI (x:Int):List Int->List Int
 | []=>[x]
 | y::ys=>if x<=y then x::y::ys else y::insI x ys
noncomputable def jr0:List Int->List Int
 | []=>[]
 | x::xs=>insI x (jr0 xs)
theorem qk0 (x:Int)(l:List Int):(insI x l).Perm (x::l):=by
 induction l with
 | nil=>exact .refl _
 | cons y ys ih =>
  unfold insI
  split
  ·exact .refl _
  ·exact(List.Perm.cons y ih).trans (List.Perm.swap x y ys)
theorem je0 (l:List Int):(jr0 l).Perm l:=by
 induction l with
 | nil=>exact .refl _
 | cons x xs ih=>exact(qk0 x _).trans (List.Perm.cons x ih)
theorem qo9 {x:Int}{l:List Int}(h:l.Pairwise (·<=·)):(insI x l).Pairwise (·<=·):=by
 induction l with
 | nil=>exact List.pairwise_singleton _ _
 | cons y ys ih =>
  obtain⟨h1,h2⟩:=List.pairwise_cons.mp h
  unfold insI
  split
  ·rename_i hc
   exact List.pairwise_cons.mpr ⟨λz hz=>(List.mem_cons.mp hz).elim (λe=>e ▸ hc) λhz=>Int.le_trans hc (h1 z hz),h⟩
  ·rename_i hc
   exact List.pairwise_cons.mpr ⟨λz hz=>(List.mem_cons.mp ((qk0 x ys).mem_iff.mp hz)).elim (λe=>e ▸ Int.le_of_lt (Int.not_le.mp hc)) λhz=>h1 z hz,ih h2⟩
theorem jj5 (l:List Int):(jr0 l).Pairwise (·<=·):=by
 induction l with
 | nil=>exact .nil
 | cons x xs ih=>exact qo9 ih
section
variable {g:Glob} {n:Nat} {ks k:Nat}
theorem qq5 {is:List Int}(hl:is.length < 64):jc1 g n (.builtin "sorted") [.list (is.map .int)] ks (.list ((jr0 is).map .int)) k:=λO M A s E vs u r aO aM rs=>by
 obtain⟨v,rfl,ra⟩:=rs.one_inv
 obtain⟨l,us,m,rfl,g1,g2,g3,g4,g5⟩:=jc5 ra
 have hI:=qg2 g3
 have hlen:=g3.length
 rw [List.length_map] at hlen
 refine sorted_ints (IsL.isList g2) hI (by rw [hlen]; exact hl) λout ns' a1 a2 a3=>?_
 have e:ns'=jr0 is:=List.Perm.eq_of_pairwise (λx y zw zw h1 h2=>Int.le_antisymm h1 h2) a3 (jj5 is) (a2.trans (je0 is).symm)
 subst e
 obtain⟨c,hc⟩:=sortedAll_at s.heap us.toList out
 have nO:∀b:Addr,@LE.le Nat _ s.heap.objs.size b->¬O b/\¬M b:=λb hb=>⟨λz=>by obtain⟨o,e⟩:=aO _ z; exact absurd (Heap.lt_size e) (Nat.not_lt.mpr hb),λz=>by obtain⟨o,e⟩:=aM _ z; exact absurd (Heap.lt_size e) (Nat.not_lt.mpr hb)⟩
 have h1:=nO (s.heap.objs.size+1:Nat) (Nat.le_add_right _ 1)
 have rl:=qu7 (O:=O) (M:=M) (h:=sortedAll s.heap us.toList out) (k:=k - 1) a1
 exact⟨ji1 (tk:=s.toks) λb o e=>sortedAll_old e,.list h1.1 (λzw=>h1.2) (by have:=rl.length; rw [List.length_map,(je0 is).length_eq,Array.length_toList] at this; rw [this]; exact Nat.le_trans (Nat.le_of_lt hl) (by decide)) hc rl⟩
end
end
set_option backward.match.sparseCases false
noncomputable def ahS (M:List Bool):Nat->List (Int×List Int)
 | 0=>[]
 | n+1=>if M.getD n false=true then ahS M n++[((n:Int),((ahS M n).map (·.1)).filter λq=>decide (q.fdiv 5 < ((n / 5:Nat):Int)) && decide (q.fmod 5 < ((n % 5:Nat):Int)))] else ahS M n
noncomputable def ji2 (ah:List (Int×List Int)):SS:=ah.foldl (λσ q=>σ.add q.1 q.2) SS.new
noncomputable def runR:Nat->SS->List (List Int)->Option (List (List Int))
 | 0,_,_=>none
 | n+1,σ,rs=>if σ.ready.isNone then none else if σ.active then
   (if (σ.ready.getD []).all σ.has && σ.getReady.2.okDone σ.getReady.1 && decide (σ.getReady.1.length<=100) then runR n (σ.getReady.2.done σ.getReady.1) (rs++[σ.getReady.1]) else none)
  else some rs
noncomputable def js8 (ah:List (Int×List Int)):List Int->List Int->Bool
 | _,[]=>true
 | seen,p::ps=>((ah.lookup p).getD []).all seen.contains && js8 ah (p::seen) ps
noncomputable def gain2 (M:List Bool) (j:Nat):T3:=(if M.getD j false=true then 2 else 0,if M.getD (5+j) false=true then 2 else 0,if M.getD (10+j) false=true then 2 else 0)
noncomputable def okR (M:List Bool) (rs:List (List Int)):Bool:=jr0 rs.flatten==(ahS M 15).map (·.1) && js8 (ahS M 15) [] rs.flatten && (2*(rs.length:Int)==((List.range 5).foldl (λu j=>jd1 (gain2 M j) u) (0,0,0)).2.2)
noncomputable def chkA (M:List Bool):Bool:=let σ:=ji2 (ahS M 15); σ.fine && σ.cyc==some none && ((runR 8 { σ with ready:=some σ.roots } []).map (okR M)).getD false
noncomputable def mat (s l:List Nat):List Bool:=(s.map λa=>l.map λb=>a==b).flatten
noncomputable def jl1 (as:List Nat):Nat->List (List Nat)
 | 0=>[[]]
 | n+1=>(jl1 as n).flatMap λl=>as.map (·::l)
theorem pat000:((jl1 [0,3] 5).all λl=>chkA (mat [0,0,0] l))=true:=by decide +kernel
theorem pat012:((jl1 [0,1,2] 5).all λl=>chkA (mat [0,1,2] l))=true:=by decide +kernel
theorem qo1 {l:List Int}(h:l≠[])(z:Int):maxI l<=z↔∀x∈l,x<=z:=by
 obtain⟨m1,m2⟩:=jy7 h
 exact⟨λhz x hx=>Int.le_trans (m2 x hx) hz,λhz=>hz _ m1⟩
theorem qh4 (M:List Bool):∀n,(ahS M n).map (·.1)=((List.range n).filter λk=>M.getD k false).map λk:Nat=>(k:Int)
 | 0=>rfl
 | n+1=>by
  rw [List.range_succ,List.filter_append,List.map_append]
  unfold ahS
  cases h:M.getD n false with
  | true =>
   rw [if_pos rfl,List.map_append,qh4 M n]
   have e:[n].filter (λk=>M.getD k false)=[n]:=by rw [List.filter_cons,h]; rfl
   rw [e]; rfl
  | false =>
   rw [if_neg (by decide),qh4 M n]
   have e:[n].filter (λk=>M.getD k false)=[]:=by rw [List.filter_cons,h]; rfl
   rw [e,List.map_nil,List.append_nil]
theorem key_mem {M:List Bool}{q:Int}:q∈(ahS M n).map (·.1)↔∃k:Nat,k < n/\M.getD k false=true/\q=(k:Int):=by
 rw [qh4,List.mem_map]
 constructor
 ·rintro⟨k,hk,rfl⟩
  obtain⟨h1,h2⟩:=List.mem_filter.mp hk
  exact⟨k,List.mem_range.mp h1,h2,rfl⟩
 ·rintro⟨k,h1,h2,rfl⟩
  exact⟨k,List.mem_filter.mpr ⟨List.mem_range.mpr h1,h2⟩,rfl⟩
theorem jj7 (M:List Bool)(n:Nat):ahS M (n+1)=if M.getD n false=true then ahS M n++[((n:Int),((ahS M n).map (·.1)).filter λq=>decide (q.fdiv 5 < ((n / 5:Nat):Int)) && decide (q.fmod 5 < ((n % 5:Nat):Int)))] else ahS M n:=rfl
theorem qh3 {M:List Bool}{k:Nat}(hk:M.getD k false=true):∀n,k < n->(ahS M n).lookup (k:Int)=some (((ahS M k).map (·.1)).filter λq=>decide (q.fdiv 5 < ((k / 5:Nat):Int)) && decide (q.fmod 5 < ((k % 5:Nat):Int)))
 | 0,h=>absurd h (Nat.not_lt_zero _)
 | n+1,h=>by
  by_cases e:k=n
  ·subst e
   rw [jj7 M k,if_pos hk,List.lookup_append]
   have none:(ahS M k).lookup (k:Int)=none:=by
    rw [List.lookup_eq_none_iff]
    intro p hp
    have:p.1∈(ahS M k).map (·.1):=List.mem_map.mpr ⟨p,hp,rfl⟩
    obtain⟨j,hj,_,ej⟩:=key_mem.mp this
    simp only [beq_eq_false_iff_ne,bne_iff_ne,ne_eq]
    rw [ej]
    omega
   rw [none]
   simp
  ·have h':k < n:=by omega
   have ih:=qh3 hk n h'
   cases hn:M.getD n false with
   | true=>rw [jj7 M n,hn,if_pos rfl,List.lookup_append,ih]; rfl
   | false=>rw [jj7 M n,hn,if_neg (by decide)]; exact ih
theorem jw3 {M:List Bool}(hk:M.getD k false=true)(hn:k < n){q:Int}:q∈((ahS M n).lookup (k:Int)).getD []↔∃j:Nat,j < n/\M.getD j false=true/\q=(j:Int)/\j / 5 < k / 5/\j % 5 < k % 5:=by
 rw [qh3 hk n hn,Option.getD_some,List.mem_filter,key_mem,Bool.and_eq_true,decide_eq_true_eq,decide_eq_true_eq]
 have ediv:∀j:Nat,((j:Int)).fdiv 5=((j / 5:Nat):Int):=λj=>by
  rw [Int.fdiv_eq_ediv_of_nonneg _ (by decide)]; omega
 have emod:∀j:Nat,((j:Int)).fmod 5=((j % 5:Nat):Int):=λj=>by
  rw [Int.fmod_eq_emod_of_nonneg _ (by decide)]; omega
 constructor
 ·rintro⟨⟨j,h1,h2,rfl⟩,h3,h4⟩
  rw [ediv] at h3
  rw [emod] at h4
  exact⟨j,by omega,h2,rfl,by omega,by omega⟩
 ·rintro⟨j,h1,h2,rfl,h3,h4⟩
  refine⟨⟨j,by omega,h2,rfl⟩,?_,?_⟩
  ·rw [ediv]; omega
  ·rw [emod]; omega
noncomputable def ownW (s l:List Nat) (k:Nat):Int:=if s.getD (k / 5) 9=l.getD (k % 5) 9 then 2 else 1
noncomputable def sumW (M:List Bool) (s l:List Nat) (best:List Int) (k:Nat):Int:=ownW s l k+maxI ((((ahS M 15).lookup (k:Int)).getD []).map (λo=>best.getD o.toNat 0)++[0])
noncomputable def js2 (M:List Bool) (s l:List Nat) (best:List Int) (p:Int):List Int:=best.take p.toNat++[sumW M s l best p.toNat]++best.drop (p.toNat+1)
theorem qs9 {M:List Bool}{s l:List Nat}{best:List Int}(h:k < best.length):js2 M s l best (k:Int)=best.set k (sumW M s l best k):=by
 unfold js2
 rw [Int.toNat_natCast,List.set_eq_take_append_cons_drop,if_pos h,List.append_assoc]; rfl
structure Done (M:List Bool) (s l:List Nat) (seen:List Int) (best:List Int):Prop where
 len:best.length=15
 off:∀k < 15,((k:Nat):Int)∉seen->best.getD k 0=0
 on:∀k < 15,((k:Nat):Int)∈seen->best.getD k 0=sumW M s l best k
 sub:∀k < 15,((k:Nat):Int)∈seen->∀q∈((ahS M 15).lookup (k:Int)).getD [],q∈seen
theorem qt8 {M:List Bool}{s l:List Nat}:∀(ps seen:List Int) (best:List Int),Done M s l seen best->(∀p∈ps,p∈(ahS M 15).map (·.1))->ps.Nodup->(∀p∈ps,p∉seen)->js8 (ahS M 15) seen ps=true->∃seen',Done M s l seen' (ps.foldl (js2 M s l) best)/\∀q,q∈seen'↔q∈seen\/q∈ps
 | [],seen,best,D,_,_,_,_=>⟨seen,D,λq=>⟨.inl,λh=>h.elim id λh=>by cases h⟩⟩
 | p::ps,seen,best,D,hk,nd,hs,hb=>by
  obtain⟨k,hk15,hM,rfl⟩:=key_mem.mp (hk p (by simp))
  unfold js8 at hb
  rw [Bool.and_eq_true,List.all_eq_true] at hb
  obtain⟨hp,hb⟩:=hb
  have hsub:∀q∈((ahS M 15).lookup (k:Int)).getD [],q∈seen:=λq hq=>List.contains_iff_mem.mp (hp q hq)
  have hns:((k:Nat):Int)∉seen:=hs _ (by simp)
  obtain⟨nd1,nd2⟩:=List.nodup_cons.mp nd
  have hlen:k < best.length:=by rw [D.len]; exact hk15
  have same:∀m:Nat,m < 15->(∀q∈((ahS M 15).lookup (m:Int)).getD [],q∈seen)->sumW M s l (best.set k (sumW M s l best k)) m=sumW M s l best m:=λm hm h=>by
   unfold sumW
   congr 2
   congr 1
   refine List.map_congr_left λq hq=>?_
   have hq':=h q hq
   by_cases hm':M.getD m false=true
   ·obtain⟨j,_,_,rfl,_⟩:=(jw3 hm' hm).mp hq
    have:j≠k:=λz=>hns (z ▸ hq')
    simp only [Int.toNat_natCast]
    rw [List.getD_eq_getElem?_getD,List.getD_eq_getElem?_getD,List.getElem?_set_ne this.symm]
   ·have hno:(ahS M 15).lookup (m:Int)=none:=by
     rw [List.lookup_eq_none_iff]
     intro p hp
     obtain⟨j,_,h2,ej⟩:=key_mem.mp (List.mem_map.mpr ⟨p,hp,rfl⟩:p.1∈(ahS M 15).map (·.1))
     simp only [beq_eq_false_iff_ne,bne_iff_ne,ne_eq]
     rw [ej]
     intro z
     have:m=j:=by omega
     exact hm' (this ▸ h2)
    rw [hno] at hq; cases hq
  have D':Done M s l ((k:Int)::seen) (best.set k (sumW M s l best k)):=by
   refine⟨by rw [List.length_set]; exact D.len,λm hm hms=>?_,λm hm hms=>?_,λm hm hms q hq=>?_⟩
   ·have hne:m≠k:=λz=>hms (by rw [z]; simp)
    rw [List.getD_eq_getElem?_getD,List.getElem?_set_ne hne.symm,<- List.getD_eq_getElem?_getD]
    exact D.off m hm λz=>hms (List.mem_cons_of_mem _ z)
   ·by_cases e:m=k
    ·subst e
     rw [same _ hm hsub,List.getD_eq_getElem?_getD,List.getElem?_set_self hlen]; rfl
    ·have hms':((m:Nat):Int)∈seen:=(List.mem_cons.mp hms).resolve_left λz=>e (by omega)
     rw [same _ hm (D.sub m hm hms'),List.getD_eq_getElem?_getD,List.getElem?_set_ne (λz=>e z.symm),<- List.getD_eq_getElem?_getD]
     exact D.on m hm hms'
   ·by_cases e:m=k
    ·subst e; exact List.mem_cons_of_mem _ (hsub q hq)
    ·exact List.mem_cons_of_mem _ (D.sub m hm ((List.mem_cons.mp hms).resolve_left λz=>e (by omega)) q hq)
  rw [List.foldl_cons,qs9 hlen]
  obtain⟨seen',E,hq⟩:=qt8 ps ((k:Int)::seen) _ D' (λp hp=>hk p (by simp [hp])) nd2 (λp hp z=>by
   rcases List.mem_cons.mp z with z | z
   ·exact nd1 (z ▸ hp)
   ·exact hs p (by simp [hp]) z) hb
  exact⟨seen',E,λq=>by rw [hq q,List.mem_cons,List.mem_cons]; exact⟨λh=>h.elim (λh=>h.elim (λz=>.inr (.inl z)) .inl) λz=>.inr (.inr z),λh=>h.elim (λz=>.inl (.inr z)) λh=>h.elim (λz=>.inl (.inl z)) .inr⟩⟩
theorem Names.now (u:g.Up s)(N:Names g):Names (g.now s u):=⟨N.int.now u,N.len.now u,N.min.now u,N.max.now u,N.sum.now u,N.range.now u,N.enum.now u,N.zip.now u⟩
structure AhAt (g:Glob) (h:Heap) (a:Addr) (es:List (Int×Addr×List Int)):Prop where
 dict:h.DictOf (intKind g.prog g.w) a (es.map λe=>(e.1,.ref e.2.1))
 lst:∀e∈es,Ints h e.2.1 e.2.2
 sys:(a==sysModules)=false
 ne:∀e∈es,e.2.1≠a
noncomputable abbrev inA (a:Addr) (es:List (Int×Addr×List Int)):Avoid:=λb=>b=a\/∃e∈es,e.2.1=b
theorem AhAt.keeps {es:List (Int×Addr×List Int)}(x:AhAt g h a es)(k:∀b o,inA a es b->h.get? b=some o->h'.get? b=some o):AhAt g h' a es:=by
 refine⟨?_,λe he=>(x.lst e he).keeps λo=>k _ o (.inr ⟨e,he,rfl⟩),x.sys,x.ne⟩
 obtain⟨o,es',ep,h1,h2⟩:=x.dict
 exact⟨o,es',ep,k _ _ (.inl rfl) h1,h2⟩
theorem AhAt.alloc {es:List (Int×Addr×List Int)}(x:AhAt g h a es):∀b,inA a es b->∃o,h.get? b=some o:=λb hb=>by
 rcases hb with rfl | ⟨e,he,rfl⟩
 ·obtain⟨o,es',ep,h1,_⟩:=x.dict; exact⟨o,h1⟩
 ·exact(x.lst e he).old
noncomputable def ahB:List Stmt:=(fnOf "_law_ahead").1
noncomputable def ahN:List (Str×NameKind):=(fnOf "_law_ahead").2.1
theorem ah1 (P:Params):∃c,FnK (K1 P) 169 ahB ahN ["short","long"] c :=
 ⟨_,⟨_,_,_,_,rfl,⟨rfl,rfl,rfl,rfl,rfl,rfl⟩,rfl,by kernel_rfl,rfl,rfl,jw9 λzw zw=>rfl⟩,rfl⟩
noncomputable abbrev natD (l:List Nat):D:=.list ((l.map λk:Nat=>(k:Int)).map .int)
theorem qf5 {l:List Nat}{i:Nat}(h:i < l.length):idxD (natD l) (i:Int)=some (.int ((l.getD i 9:Nat):Int)):=by
 refine uh5 ?_
 rw [List.getElem?_map,List.getElem?_map,List.getD_eq_getElem?_getD,List.getElem?_eq_getElem h]; rfl
theorem qv2 {kvs:List (Int×Value)}{k:Int}(h:∀p∈kvs,p.1≠k):stored kvs k v=kvs++[(k,v)]:=by
 unfold stored
 have:(kvs.any λkv=>decide (kv.1=k))=false:=by
  rw [List.any_eq_false]
  intro p hp
  simpa using h p hp
 rw [this,if_neg (by decide)]
structure AhN (s l:List Nat) (a:Addr) (ρ:Rho):Prop where
 sc:ρ.sc=ahN
 sh:ρ.is "short" (natD s)
 lo:ρ.is "long" (natD l)
 ah:ρ.is "ahead" (objD a)
theorem AhN.start {s l:List Nat}(h:AhN s l a ρ):AhN s l a (ρ.put "start" d 0):=⟨h.sc,Rho.is_ne h.sh rfl,Rho.is_ne h.lo rfl,Rho.is_ne h.ah rfl⟩
theorem AhN.end_ {s l:List Nat}(h:AhN s l a ρ):AhN s l a (ρ.put "end" d 0):=⟨h.sc,Rho.is_ne h.sh rfl,Rho.is_ne h.lo rfl,Rho.is_ne h.ah rfl⟩
structure AhJ (g:Glob) (a:Addr) (M:List Bool) (n:Nat) (W:Avoid) (s:Shared) (es:List (Int×Addr×List Int)):Prop where
 w:∀b,W b↔inA a es b
 at_:AhAt g s.heap a es
 es:es.map (λe=>(e.1,e.2.2))=ahS M n
noncomputable def ahIf:Stmt:=(qb6 ((qb6 (ahB.getD 1 noSt)).getD 0 noSt)).getD 0 noSt
theorem jv5 (M:List Bool):∀n,(ahS M n).length<=n
 | 0=>Nat.le_refl _
 | n+1=>by
  have:=jv5 M n
  rw [jj7]
  split
  ·rw [List.length_append]; show _+1<=_; omega
  ·omega
theorem ah_turn {W:Avoid}{sc lc:List Nat}{M:List Bool}{i j:Nat}{es:List (Int×Addr×List Int)}{Q:Flow->Shared->Prop}(G:Gr1 c.g P)(hn:1<=c.n)(r:Run c O No W ρ s)(J:AhJ c.g a M (5*i+j) W s es)(N:AhN sc lc a ρ)(hsl:sc.length=3)(hll:lc.length=5)(hi:i < 3)(hj:j < 5)
  (hst:ρ.is "start" (.int (i:Int))) (hen:ρ.is "end" (.int (j:Int))) (hM:M.getD (5*i+j) false=(sc.getD i 9 / 2==lc.getD j 9 / 2))
  (q:∀O' W' s' es',Run c O' No W' ρ s'->AhJ c.g a M (5*i+j+1) W' s' es'->Q .next s'):wpAny c.g.M c.Ar (exec ahIf c.env) Q E s:=by
 have ok0:(Ev.at T0 12).Ok c.g c.n:=jq1 hn G.names qx4 12
 conv in ahIf=>whnf
 have ediv:∀k:Nat,((k:Int)).fdiv 2=((k / 2:Nat):Int):=λk=>by
  rw [Int.fdiv_eq_ediv_of_nonneg _ (by decide)]; omega
 refine wpAny_If (r.testG (b:=(sc.getD i 9 / 2==lc.getD j 9 / 2)) (ok0.t _ _ _ ((ji0 rfl (je4 rfl (r_ix rfl rfl (ja2 rfl rfl N.sh) (ja2 rfl rfl hst) (qf5 (by omega))) (je3 rfl) rfl) (je4 rfl (r_ix rfl rfl (ja2 rfl rfl N.lo) (ja2 rfl rfl hen) (qf5 (by omega))) (je3 rfl) rfl) rfl).trans (congrArg some ?_))) λs_1 k_1 r_1=>?_)
 ·show(((sc.getD i 9:Nat):Int).fdiv 2==((lc.getD j 9:Nat):Int).fdiv 2)=_
  rw [ediv,ediv,Bool.eq_iff_iff,beq_iff_eq,beq_iff_eq]
  omega
 have J1:AhAt c.g s_1.heap a es:=J.at_.keeps λb o zw e=>ja0 k_1 b o e
 cases hm:(sc.getD i 9 / 2==lc.getD j 9 / 2) with
 | false =>
  refine(if_neg (by decide)).mpr (wpAny_execs_nil (q _ _ _ es r_1 ⟨J.w,J1,?_⟩))
  rw [jj7,hM,hm]; exact J.es
 | true =>
  have hkeys:(es.map λe=>(e.1,(Value.ref e.2.1))).map (·.1)=(ahS M (5*i+j)).map (·.1):=by
   rw [<- J.es,List.map_map,List.map_map]; rfl
  have hcap:cap=100000:=rfl
  have hlen15:es.length<=15:=by
   have:=jv5 M (5*i+j)
   rw [<- J.es,List.length_map] at this
   omega
  have hz:((ahS M (5*i+j)).map (·.1)).length<=15:=by rw [<- hkeys,List.length_map,List.length_map]; exact hlen15
  refine(if_pos rfl).mpr (wpAny_execs_cons (wpAny_Assign_Subscript (r_1.compKeys (ρ1:=⟨ahN,[("ahead",(objD a,0)),("start",(.int (i:Int),0)),("end",(.int (j:Int),0))]⟩) (R:=Ev.at T0 12) (a:=a) (kvs:=es.map λe=>(e.1,.ref e.2.1)) (res:=((ahS M (5*i+j)).map (λp:Int×List Int=>p.1)).filter λq=>decide (q.fdiv 5 < (i:Int)) && decide (q.fmod 5 < (j:Int)))
   (jq1 hn (G.names.now _) qx4 12) J1.dict J1.sys ⟨N.sc.symm,λy d k hy=>?_⟩ rfl (by decide) rfl rfl rfl ((congrArg (λl:List Int=>mapO _ (l.map PyData.int)) hkeys).trans (qf6 λq zw=>lastE_if ?_ (ja2 rfl rfl jm6))) (jz3 _) ?_ λz s_2 k_2 hz2 hI r_2=>?_)))
  ·have:=PySem.mem_of_lookup hy
   simp only [List.mem_cons,List.not_mem_nil,or_false,Prod.mk.injEq] at this
   rcases this with ⟨rfl,rfl,rfl⟩ | ⟨rfl,rfl,rfl⟩ | ⟨rfl,rfl,rfl⟩
   ·exact⟨N.ah,rfl,.inr ⟨a,rfl⟩⟩
   ·exact⟨hst,rfl,.inl ⟨_,rfl⟩⟩
   ·exact⟨hen,rfl,.inl ⟨_,rfl⟩⟩
  ·exact jk4 (b:=decide (q.fdiv 5 < (i:Int))) (c:=decide (q.fmod 5 < (j:Int))) (ji0 rfl (je4 rfl (ja2 rfl rfl jm6) (je3 rfl) rfl) (ja2 rfl rfl (jo0 (jo6 (dk:=(.int (i:Int),0)) rfl rfl) rfl)) rfl) λzw=>(jk4 (b:=decide (q.fmod 5 < (j:Int))) (c:=true) (ji0 rfl (je4 rfl (ja2 rfl rfl jm6) (je3 rfl) rfl) (ja2 rfl rfl (jo0 (jo6 (dk:=(.int (j:Int),0)) rfl rfl) rfl)) rfl) λzw=>ub9).trans (congrArg some (Bool.and_true _))
  ·have:=List.length_filter_le (λq:Int=>decide (q.fdiv 5 < (i:Int)) && decide (q.fmod 5 < (j:Int))) ((ahS M (5*i+j)).map (·.1))
   omega
  have J2:AhAt c.g s_2.heap a es:=J1.keeps λb o zw e=>ja0 k_2 b o e
  have r_3:=r_1.grow k_2 hz2 hI.old
  have hWa:(λb=>W b\/b=z) a:=.inl ((J.w a).mpr (.inl rfl))
  have hza:z≠a:=λe=>by
   obtain⟨o,eo⟩:=J1.alloc a (.inl rfl)
   rw [e,eo] at hz2; cases hz2
  refine r_3.nameA N.ah (by decide) (r_3.evG (d:=.int ((5*i+j:Nat):Int)) (k:=0) (ok0.e _ _ _ _ (je4 rfl (je4 rfl (je3 rfl) (ja2 rfl rfl hst) rfl) (ja2 rfl rfl hen) ?_)) λv_4 s_4 k_4 rv4 r_4=>?_)
  ·show some (PyData.int (5*(i:Int)+(j:Int)),0)=_
   rw [show(5*(i:Int)+(j:Int))=((5*i+j:Nat):Int) by omega]
  obtain⟨tk,rfl⟩:=ja4 rv4
  have J4:AhAt c.g s_4.heap a es:=J2.keeps λb o zw e=>ja0 k_4 b o e
  have hI4:=hI.keeps (h':=s_4.heap) λo e=>ja0 k_4 _ _ e
  refine wpAny_setItem_pairs (intKind_is c.g.prog c.g.w _ tk) J4.dict (λh_5 hd5 hs5=>?_) (by rw [List.length_map]; exact Nat.le_trans hlen15 (by decide))
  have hnew:∀p∈es.map (λe=>(e.1,(Value.ref e.2.1))),p.1≠((5*i+j:Nat):Int):=λp hp e=>by
   have:p.1∈(es.map λe=>(e.1,(Value.ref e.2.1))).map (·.1):=List.mem_map.mpr ⟨p,hp,rfl⟩
   rw [hkeys] at this
   obtain⟨k,hk,_,ek⟩:=key_mem.mp this
   omega
  rw [qv2 hnew] at hd5
  have r_5:=jk1 (tk:=s_4.toks+1) r_4 hs5 hWa (by obtain⟨o,es',ep,h1,_⟩:=hd5; exact⟨o,h1⟩)
  refine wpAny_execs_nil (q _ _ _ (es++[(((5*i+j:Nat):Int),z,((ahS M (5*i+j)).map (λp:Int×List Int=>p.1)).filter λq=>decide (q.fdiv 5 < (i:Int)) && decide (q.fmod 5 < (j:Int)))]) r_5 ⟨λb=>?_,⟨?_,λe he=>?_,J4.sys,λe he=>?_⟩,?_⟩)
  ·constructor
   ·rintro(h | rfl)
    ·rcases(J.w b).mp h with h | ⟨e,he,h⟩
     ·exact .inl h
     ·exact .inr ⟨e,List.mem_append.mpr (.inl he),h⟩
    ·exact .inr ⟨_,List.mem_append.mpr (.inr (List.mem_singleton.mpr rfl)),rfl⟩
   ·rintro(h | ⟨e,he,h⟩)
    ·exact .inl ((J.w b).mpr (.inl h))
    ·rcases List.mem_append.mp he with he | he
     ·exact .inl ((J.w b).mpr (.inr ⟨e,he,h⟩))
     ·rw [List.mem_singleton.mp he] at h; exact .inr h.symm
  ·rw [List.map_append]; exact hd5
  ·rcases List.mem_append.mp he with he | he
   ·exact(J4.lst e he).keeps λo eo=>(hs5.2 _ (J4.ne e he)).trans eo
   ·rw [List.mem_singleton.mp he]
    exact hI4.keeps λo eo=>(hs5.2 _ hza).trans eo
  ·rcases List.mem_append.mp he with he | he
   ·exact J4.ne e he
   ·rw [List.mem_singleton.mp he]; exact hza
  ·rw [List.map_append,J.es,jj7,hM,hm,if_pos rfl]
   have d5:(5*i+j) / 5=i:=by omega
   have m5:(5*i+j) % 5=j:=by omega
   rw [d5,m5]; rfl
theorem AhJ.stays {M:List Bool}{W:Avoid}{es:List (Int×Addr×List Int)}(J:AhJ g a M n W s es)(k:∀b o,W b->s.heap.get? b=some o->s'.heap.get? b=some o):AhJ g a M n W s' es:=⟨J.w,J.at_.keeps λb o hb=>k b o ((J.w b).mpr hb),J.es⟩
noncomputable def ahRow:List Stmt:=qb6 (ahB.getD 1 noSt)
theorem ah_row {W:Avoid}{sc lc:List Nat}{M:List Bool}{i:Nat}{es:List (Int×Addr×List Int)}{Q:Flow->Shared->Prop}(G:Gr1 c.g P)(hn:1<=c.n)(r:Run c O No W ρ s)(J:AhJ c.g a M (5*i) W s es)(N:AhN sc lc a ρ)(hsl:sc.length=3)(hll:lc.length=5)(hi:i < 3)
  (hst:ρ.is "start" (.int (i:Int))) (hM:∀j < 5,M.getD (5*i+j) false=(sc.getD i 9 / 2==lc.getD j 9 / 2))
  (q:∀O' W' ρ' s' es',Run c O' No W' ρ' s'->AhJ c.g a M (5*(i+1)) W' s' es'->AhN sc lc a ρ'->Q .next s'):wpAny c.g.M c.Ar (execs ahRow c.env) Q E s:=by
 conv in ahRow=>whnf
 refine wpAny_execs_cons (r.forL (items:=(jd9 0 5 1).map .int) (xs:=["end"]) rfl rfl (jp8 (k:=0) (b:=5) (G.names.range.now _) (by rw [N.sc]; rfl) jn6 rfl rfl) (λj W ρ s=>∃es,AhJ c.g a M (5*i+j) W s es/\AhN sc lc a ρ/\ρ.is "start" (.int (i:Int))) (λzw zw zw=>False) (λzw zw zw zw zw=>False)
  ?_ ⟨es,J,N,hst⟩ ?_ ?_ ?_ (λzw zw zw zw zw zw h=>h.elim) (λzw zw zw zw zw zw zw h=>h.elim))
 ·rintro j W ρ s s' ⟨es,J,N,h⟩ k
  exact⟨es,J.stays k,N,h⟩
 ·rintro j d W ρ s hd ⟨es,J,N,h⟩
  exact⟨by rw [List.all_cons,jj9 N.sc (x:="end") rfl]; rfl,_,rfl⟩
 ·intro Z O0 t j d O' W' ρ' ρ1 s' E' hd hbd hJ r'
  refine wp_q λQ' hQ=>?_
  obtain⟨es,J,N,hst⟩:=hJ
  obtain⟨hj,rfl⟩:=qj8 (n:=5) hd
  have hbd:ρ1=ρ'.put "end" (.int (j:Int)) 0:=(Option.some.inj hbd).symm
  subst hbd
  exact wpAny_execs_cons (ah_turn (c:=c.prot Z O0 t) G hn r' J N.end_ hsl hll hi hj (Rho.is_ne hst rfl) Rho.is_put (hM j hj) λO2 W_2 s_2 es2 r_2 J2=>wpAny_execs_nil (hQ _ _ ⟨_,_,_,r_2,es2,J2,N.end_,Rho.is_ne hst rfl⟩))
 ·intro O1 W_1 ρ1 s_1 hO r_1 hJ
  obtain⟨es,J,N,_⟩:=hJ
  exact wpAny_execs_nil (q _ _ _ _ es r_1 J N)
theorem ub3 {sc lc:List Nat}{v_1 v_2:Value}(G:Gr1 g P)(at_:At g (n+2) A O M No F s)(rv_1:Rd O M s.heap 0 v_1 (natD sc))(rv_2:Rd O M s.heap 0 v_2 (natD lc))(hsl:sc.length=3)(hll:lc.length=5)
  (hM:∀i < 3,∀j < 5,(mat (sc.map (· / 2)) (lc.map (· / 2))).getD (5*i+j) false=(sc.getD i 9 / 2==lc.getD j 9 / 2))
  (q:∀a es s',Cx No F s s'->AhAt g s'.heap a es->es.map (λe=>(e.1,e.2.2))=ahS (mat (sc.map (· / 2)) (lc.map (· / 2))) 15->(∀b,inA a es b->s.heap.get? b=none)->R (.ok (.ret (.ref a))) s'):codeAny g.M A (.call (.ref 169) ⟨[v_1,v_2],[]⟩) R s:=by
 obtain⟨cc,fk⟩:=ah1 P
 rw [<- G.k] at fk
 refine jn8 (ds:=[natD sc,natD lc]) at_ fk (.cons rv_1 (.cons rv_2 .nil)) rfl rfl rfl λenv Pp O' s_2 r hc hk=>?_
 revert r
 (show let c:Fx:=_; Run c _ _ _ _ _->_)
 intro c r
 ((show let Q0:=_; wpAny _ _ _ Q0 _ _); intro Q0)
 have hsh:(((⟨ahN,[]⟩:Rho).put "short" (natD sc) 0).put "long" (natD lc) 0).is "short" (natD sc):=rfl
 have hlo:(((⟨ahN,[]⟩:Rho).put "short" (natD sc) 0).put "long" (natD lc) 0).is "long" (natD lc):=rfl
 have hsc:(((⟨ahN,[]⟩:Rho).put "short" (natD sc) 0).put "long" (natD lc) 0).sc=ahN:=rfl
 generalize ((⟨ahN,[]⟩:Rho).put "short" (natD sc) 0).put "long" (natD lc) 0=ρ at hsh hlo hsc r
 generalize hMM:mat (sc.map (· / 2)) (lc.map (· / 2))=M at hM q
 have hB:ahB=[ahB.getD 0 noSt,ahB.getD 1 noSt,ahB.getD 2 noSt]:=rfl
 rw [hB]
 have hn:1<=c.n:=by show 1<=n+1; omega
 have step0:∀{Q:Flow->Shared->Prop} {E:Value->Shared->Prop},(∀O4 s_4 a W,Run c O4 No W (ρ.put "ahead" (objD a) 0) s_4->AhJ c.g a M 0 W s_4 []->Q .next s_4)->wpAny g.M (A.deeper env) (exec (ahB.getD 0 noSt) env) Q E s_2:=λ{Q E} q0=>by
  conv in ahB.getD 0 noSt=>whnf
  refine r.assignS rfl (wpAny_Dict_empty ?_)
  have k_3:Keeps s_2 { s_2 with heap:=s_2.heap.push { cls:=.type "dict",data:=.dict #[] } }:=ja6 s_2 _ _
  have hm0:s_2.heap.get? s_2.heap.objs.size=none:=jc2 (ja3 s_2)
  have hsys:=qe5 r.act.up
  have hm3:({ s_2 with heap:=s_2.heap.push { cls:=.type "dict",data:=.dict #[] } }:Shared).heap.DictOf (intKind g.prog g.w) s_2.heap.objs.size []:=Heap.DictOf.new _
  have r_3:=r.grow k_3 hm0 (by obtain⟨o,es',ep,h1,_⟩:=hm3; exact⟨o,h1⟩)
  refine r_3.store (d:=objD s_2.heap.objs.size) (jj9 hsc rfl) .obj λs_4 c_4 r_4=>?_
  refine q0 _ s_4 _ _ r_4 ⟨λb=>⟨λh=>h.elim False.elim .inl,λh=>h.elim .inr λ⟨e,he,_⟩=>(by cases he)⟩,⟨?_,λe he=>(by cases he),hsys,λe he=>(by cases he)⟩,rfl⟩
  obtain⟨o,es',ep,h1,h2⟩:=hm3
  exact⟨o,es',ep,r_3.same c_4 _ _ (.inr rfl) h1,h2⟩
 refine wpAny_execs_cons (step0 λO4 s_4 a W r_4 J4=>?_)
 have N4:AhN sc lc a (ρ.put "ahead" (objD a) 0):=⟨hsc,Rho.is_ne hsh rfl,Rho.is_ne hlo rfl,Rho.is_put⟩
 generalize ρ.put "ahead" (objD a) 0=ρ4 at N4 r_4
 have step1:∀{Q:Flow->Shared->Prop} {E:Value->Shared->Prop},(∀O5 W5 ρ5 s_5 es,Run c O5 No W5 ρ5 s_5->AhJ c.g a M 15 W5 s_5 es->AhN sc lc a ρ5->Q .next s_5)->wpAny g.M (A.deeper env) (exec (ahB.getD 1 noSt) env) Q E s_4:=λ{Q E} q0=>by
  conv in ahB.getD 1 noSt=>whnf
  refine r_4.forL (items:=(jd9 0 3 1).map .int) (xs:=["start"]) rfl rfl (jp8 (k:=0) (b:=3) (G.names.range.now _) (by rw [N4.sc]; rfl) jn6 rfl rfl) (λi W ρ s=>∃es,AhJ c.g a M (5*i) W s es/\AhN sc lc a ρ) (λzw zw zw=>False) (λzw zw zw zw zw=>False)
   ?_ ⟨[],J4,N4⟩ ?_ ?_ ?_ (λzw zw zw zw zw zw h=>h.elim) (λzw zw zw zw zw zw zw h=>h.elim)
  ·rintro j W ρ s s' ⟨es,J,N⟩ k
   exact⟨es,J.stays k,N⟩
  ·rintro j d W ρ s hd ⟨es,J,N⟩
   exact⟨by rw [List.all_cons,jj9 N.sc (x:="start") rfl]; rfl,_,rfl⟩
  ·intro Z O0 t i d O' W' ρ' ρ1 s' E' hd hbd hJ r'
   refine wp_q λQ' hQ=>?_
   obtain⟨es,J,N⟩:=hJ
   obtain⟨hi,rfl⟩:=qj8 (n:=3) hd
   have hbd:ρ1=ρ'.put "start" (.int (i:Int)) 0:=(Option.some.inj hbd).symm
   subst hbd
   exact ah_row (c:=c.prot Z O0 t) G hn r' J N.start hsl hll hi Rho.is_put (hM i hi) λO2 W_2 ρ2 s_2 es2 r_2 J2 N2=>hQ _ _ ⟨_,_,_,r_2,es2,J2,N2⟩
  ·intro O1 W_1 ρ1 s_1 hO r_1 hJ
   obtain⟨es,J,N⟩:=hJ
   exact q0 _ _ _ _ es r_1 J N
 refine wpAny_execs_cons (step1 λO5 W5 ρ5 s_5 es r_5 J5 N5=>?_)
 conv in ahB.getD 2 noSt=>whnf
 refine wpAny_execs_cons (wpAny_Return_some (r_5.nameA N5.ah (by decide) ?_))
 exact q a es s_5 r_5.cx J5.at_ J5.es λb hb=>(r_5.ww b ((J5.w b).mpr hb)).elim (λh=>h.elim) id
theorem qo5 {X:Avoid}{p p':Pos}{pl:Env->Sem Bool}{kas:List (Int×Addr)}(he:∀env,eval (.Call (.Attribute e "items" p) [] [] p') env=(do let ov <- eval e env; standAt p.atName; let (f,first) <- holding [ov] (getMethod ov "items" (pl env)); callWith p' f first (backTo p' (starEach [] env)) []))(ev:EvS g n ρ e (objD a) k)(hsys:(a==sysModules)=false)(I:g.h.DictOf (intKind g.prog g.w) a (kas.map λe=>(e.1,.ref e.2)))(hXa:X a) :
  um6 g n X ρ true (.Call (.Attribute e "items" p) [] [] p') (kas.map λe=>.tuple [.int e.1,objD e.2]):=by
 intro O M env A s E Q u rm aO aM eo hXM q
 ((show let Q0:=_; wpAny _ _ _ Q0 _ _); intro Q0)
 refine MethodCall_ (ev.use u rm aO aM eo λv sa k_1 r_1 u_1 o_1 m_1 e_1=>?_) (he env)
 have:=jb0 r_1; subst this
 generalize hkv:(kas.map λe=>(e.1,Value.ref e.2))=kvs at I
 have klen:kvs.length=kas.length:=by rw [<- hkv,List.length_map]
 obtain⟨ep,D0⟩:=I.dictAt
 have D1:=D0.keep (h':=sa.heap) λb o=>u_1 b o
 refine getMethod_builtin D1.dictOf.typeIs PySem.F.plainAttrs_dict PySem.F.slot_dict_items PySem.F.type_dict_items D1.dictOf.mapOf.noDict (callWith_builtin (ja9 rfl) (ja8 rfl (wpAny_items_nil ?_)))
 refine call_meetsIn PySem.F.slot_dict_items D1.dictOf.typeIs PySem.F.entry_dict_items (PySem.F.args_dict_items_1 _) (meets_dict_items (intKind g.prog g.w) a hsys) ⟨⟨_,D1.dictOf⟩,?_⟩
 have k_2:Keeps sa { sa with heap:=sa.heap.push { cls:=.type "dict_items",data:=.fields #[.ref a] } }:=ja6 sa _ _
 have hvw:({ sa with heap:=sa.heap.push { cls:=.type "dict_items",data:=.fields #[.ref a] } }:Shared).heap.IsItemsView sa.heap.objs.size a:=⟨_,Heap.get?_push_size _ rfl,rfl,rfl⟩
 generalize ({ sa with heap:=sa.heap.push { cls:=.type "dict_items",data:=.fields #[.ref a] } }:Shared)=sb at k_2 hvw ⊢
 revert hvw
 revert k_2
 revert sb
 refine id ?_
 intro sb k_2 hvw
 generalize sa.heap.objs.size=vw at hvw ⊢
 have D2:=D1.keep (ja0 k_2)
 have ob:=o_1.keeps k_2
 have mb:=m_1.keeps k_2
 have k_3:Keeps sb { sb with heap:=sb.heap.push { cls:=.type "dict_itemiterator",data:=.fields #[.none,.bool false,.ref a,.int 0 0,.int kvs.length 0,.int ep 0,.none,.none] } }:=ja6 sb _ _
 have hne:a≠sb.heap.objs.size:=λz=>by
  have:=D2.lt_size
  rw [<- z] at this
  exact absurd this (Nat.lt_irrefl _)
 refine wpAny_pyIter_items hvw D2 (q _ _ (λb=>b=sb.heap.objs.size) (λi h=>(∃ok ov,IsItemIter h sb.heap.objs.size a i kvs.length ep ok ov)/\h.DictAt (intKind g.prog g.w) a kvs ep) (ja1 k_1 (ja1 k_2 k_3)) ⟨⟨⟨.none,.none,Heap.get?_push_size _ rfl⟩,D2.keep (ja0 k_3)⟩,λb hb=>by subst hb; exact⟨jc2 (ja1 k_1 k_2),_,Heap.get?_push_size _ rfl⟩,λi h st b hb=>by
   subst hb
   obtain⟨ok,ov,ho⟩:=st.1
   exact⟨_,ho,rfl⟩,λi h h' st hk=>?_,?_,?_⟩)
 ·obtain⟨⟨ok,ov,ho⟩,⟨od,es,hod,rr⟩⟩:=st
  have ha:∃o',(sb.heap.push { cls:=.type "dict_itemiterator",data:=.fields #[.none,.bool false,.ref a,.int 0 0,.int kvs.length 0,.int ep 0,.none,.none] }).get? a=some o':=by
   obtain⟨o',_,h',_⟩:=D2.keep (ja0 k_3)
   exact⟨o',h'⟩
  exact⟨⟨ok,ov,hk _ _ (.inl ob.new) mb.new ⟨_,Heap.get?_push_size _ rfl⟩ ho⟩,⟨od,es,hk _ _ (.inr hXa) (hXM a hXa) ha hod,rr⟩⟩
 ·intro O' M' i d t target E' Q' wd' wd htg hd st aO' aM' q'
  ((show let Q0:=_; wpAny _ _ _ Q0 _ _); intro Q0)
  rw [List.getElem?_map,Option.map_eq_some_iff] at hd
  obtain⟨⟨x,b⟩,hx,rfl⟩:=hd
  obtain⟨elts,x1,tp,rfl⟩:=htg
  have hxk:kvs[i]?=some (x,.ref b):=by rw [<- hkv,List.getElem?_map,hx]; rfl
  obtain⟨⟨ok,ov,ho⟩,hD⟩:=st
  refine wpAny_pyNext_items_item ho hD hxk λkey h' hkey hit' hT hsz hk=>⟨_,rfl,?_⟩
  obtain⟨tk,rfl⟩:=Value.isInt_shape hkey
  refine wpAny_letOwnedTupleGo_items hit' λh'' he'' hs''=>?_
  have hne':t.heap.objs.size≠sb.heap.objs.size:=Nat.ne_of_gt (Heap.lt_size ho)
  refine q' _ { t with heap:=h'' } ⟨⟨h'',t.toks,rfl⟩,λb o hb e=>hs''.extBut b o hb (hk b o hb e)⟩ ?_ ⟨⟨_,_,he''⟩,?_⟩
  ·exact .tup aO'.new (λzw=>aM'.new) (by show 2<=cap; decide) (hs''.extBut _ _ hne' hT) (.cons .int (.cons .obj .nil))
  ·obtain⟨od,es,hod,rr⟩:=hD
   exact⟨od,es,hs''.extBut _ _ hne (hk _ _ hne hod),rr⟩
 ·intro t E' Q' st q'
  obtain⟨⟨ok,ov,ho⟩,hD⟩:=st
  rw [List.length_map] at ho
  exact wpAny_pyNext_items_end rm.handled ho hD (by rw [List.getElem?_eq_none_iff,klen]; exact Nat.le_refl _) λh' he'=>q' _ ⟨⟨h',t.toks,rfl⟩,λb o hb e=>he' b o hb e⟩
theorem jv6:∀(ah:List (Int×List Int)) (σ:SS) (m:Nat),σ.sucLe m->(∀q∈ah,q.2.length<=15)->(ah.foldl (λσ q=>σ.add q.1 q.2) σ).nodes.length<=σ.nodes.length+16*ah.length/\(ah.foldl (λσ q=>σ.add q.1 q.2) σ).sucLe (m+15*ah.length)
 | [],σ,m,h,_=>⟨Nat.le_refl _,h⟩
 | q::ah,σ,m,h,hl=>by
  have h1:((σ.touch q.1).upd q.1 λn=>{ n with np:=n.np+q.2.length }).sucLe m:=qm1 (jq8 h) (λzw hn=>hn) (Nat.le_refl _)
  obtain⟨e1,e2⟩:=jq0 q.1 q.2 _ m h1
  have:=jx1 σ q.1
  have hq:=hl q (List.mem_cons_self ..)
  rw [qm2] at e1
  have e2':(σ.add q.1 q.2).sucLe (m+15):=λnd hnd=>Nat.le_trans (e2 nd hnd) (by omega)
  have e1':(σ.add q.1 q.2).nodes.length<=σ.nodes.length+1+q.2.length:=Nat.le_trans e1 (by omega)
  obtain⟨d1,d2⟩:=jv6 ah (σ.add q.1 q.2) (m+15) e2' λx hx=>hl x (List.mem_cons_of_mem _ hx)
  refine⟨?_,λnd hnd=>Nat.le_trans (d2 nd hnd) (by rw [List.length_cons]; omega)⟩
  rw [List.foldl_cons,List.length_cons]; omega
theorem qy6 {x dx:Addr}{es:List (Int×Addr×List Int)}{code:Value}(at_:At g (n+5) A O M (λb=>b=x\/b=dx) F s)(TK:TopoOk g.K T)(TF:TopoFn g.K T)(N:Names g)(bk:BoundK g.K T.add)(fk:FnDM g.K T.init "TopologicalSorter" "__init__" ["self","graph"] 2 [] code)
  (hx:s.heap.get? x=some (instObj T.C dx)) (hd:s.heap.get? dx=some (dictOf [] 0)) (hne:x≠dx) (I:AhAt g s.heap a es) (h15:es.length<=15) (hps:∀e∈es,e.2.2.length<=15) (hoff:∀b,inA a es b->b≠x/\b≠dx/\¬F b)
  (q:∀s' l,Eff (λb=>b=x\/b=dx) F s l.W s'->Srt g T s'.heap l (ji2 (es.map λe=>(e.1,e.2.2)))->l.rd=[]->l.a=x->R (.ok (.ret .none)) s'):codeAny g.M A (.call (.ref T.init) ⟨[.ref x,.ref a],[]⟩) R s:=by
 refine uk8 (ds:=[objD x,objD a]) (es:=[]) at_ fk (.cons .obj (.cons .obj .nil)) .nil rfl rfl rfl λenv P O' s_2 r hc hk=>?_
 revert r
 (show let c:Fx:=_; Run c _ _ _ _ _->_)
 intro c r
 ((show let Q0:=_; wpAny _ _ _ Q0 _ _); intro Q0)
 conv in (mOf _ _).1=>whnf
 have hx2:=hk _ _ hx
 have hd2:=hk _ _ hd
 have nn:=λb=>r.none0 (b:=b)
 refine wpAny_execs_cons (plainObj_wpAny_Assign_Attribute (wpAny_Dict_empty ?_) (ja7 rfl _ _ _))
 have hm0:s.heap.get? s_2.heap.objs.size=none:=nn _ (jc2 (ja3 s_2))
 have hsys:=qe5 r.act.up
 have hm2:s_2.heap.get? s_2.heap.objs.size=none:=jc2 (ja3 s_2)
 generalize hm:s_2.heap.objs.size=m at hm0 hm2 hsys ⊢
 have al:∀(s':Shared),(∃o,s'.heap.get? x=some o)->(∃o,s'.heap.get? dx=some o)->s'.heap.DictOf (intKind g.prog g.w) m []->Alloc (λb=>(b=x\/b=dx)\/b=m) s':=λs' h1 h2 h3 b hb=>by
  rcases hb with (rfl | rfl) | rfl
  ·exact h1
  ·exact h2
  ·obtain⟨o,es',ep,h,_⟩:=h3; exact⟨o,h⟩
 have k_3:Keeps s_2 { s_2 with heap:=s_2.heap.push { cls:=.type "dict",data:=.dict #[] } }:=ja6 s_2 _ _
 have hm3:({ s_2 with heap:=s_2.heap.push { cls:=.type "dict",data:=.dict #[] } }:Shared).heap.DictOf (intKind g.prog g.w) m []:=by rw [<- hm]; exact Heap.DictOf.new _
 have r_3:=r.grow k_3 hm2 (by obtain⟨o,es',ep,h,_⟩:=hm3; exact⟨o,h⟩)
 have hx3:=ja0 k_3 _ _ hx2
 have hd3:=ja0 k_3 _ _ hd2
 generalize ({ s_2 with heap:=s_2.heap.push { cls:=.type "dict",data:=.dict #[] } }:Shared)=s_3 at k_3 hm3 r_3 hx3 hd3 ⊢
 revert hd3
 revert hx3
 revert r_3
 revert hm3
 revert k_3
 revert s_3
 refine id ?_
 intro s_3 k_3 hm3 r_3 hx3 hd3
 ((show let Q0:=_; wpAny _ _ _ Q0 _ _); intro Q0)
 have hmx:m≠x:=λz=>by rw [z,hx] at hm0; cases hm0
 have hmd:m≠dx:=λz=>by rw [z,hd] at hm0; cases hm0
 refine r_3.name (d:=objD x) (k:=0) rfl (by decide) λv rv=>?_
 ((show let Q0:=_; wpAny _ _ _ Q0 _ _); intro Q0)
 have:=jb0 rv; subst this
 refine jg3 (es:=[]) (n:=0) (es':=[⟨PyData.keyHash g.w.params "_node2info",.str "_node2info" (s_3.toks+1),.ref m⟩]) r_3.now ⟨hx3,rfl,rfl,hd3⟩ rfl TK.c.set TK.c.over TK.a1.taker TK.dict rfl rfl (show 1<=1000 by decide) λh_4 hs4 ho4=>?_
 ((show let Q0:=_; wpAny _ _ _ Q0 _ _); intro Q0)
 have hx4:=(hs4.2 x hne).trans hx3
 have hm4:=hm3.sameBut hs4 hmd
 have r_4:=r_3.eff (s':={ s_3 with heap:=h_4,toks:=s_3.toks+2 }) ((jb5 hs4 (.inl (.inr rfl)) rfl).mono (λzw h=>h) No.le) (λzw h=>h) (λzw h=>.inl h) (al _ ⟨_,hx4⟩ ⟨_,ho4⟩ hm4)
 refine wpAny_execs_cons (plainObj_wpAny_Assign_Attribute (r_4.e0 jh8 λv s_5 k_5 rv r_5=>r_5.name (d:=objD x) (k:=0) rfl (by decide) λv' rv'=>?_) (ja7 rfl _ _ _))
 have:=jx9 rv; subst this
 have:=jb0 rv'; subst this
 refine jg3 (es':=[⟨PyData.keyHash g.w.params "_node2info",.str "_node2info" (s_3.toks+1),.ref m⟩,⟨PyData.keyHash g.w.params "_ready_nodes",.str "_ready_nodes" (s_5.toks+1),.none⟩]) r_5.now ⟨ja0 k_5 _ _ hx4,rfl,rfl,ja0 k_5 _ _ ho4⟩ rfl TK.c.set TK.c.over TK.a2.taker TK.dict rfl rfl (show 2<=1000 by decide) λh_6 hs_6 ho6=>?_
 ((show let Q0:=_; wpAny _ _ _ Q0 _ _); intro Q0)
 have hx6:=(hs_6.2 x hne).trans (ja0 k_5 _ _ hx4)
 have hm6:=(hm4.keep (ja0 k_5)).sameBut hs_6 hmd
 have r6:=r_5.eff (s':={ s_5 with heap:=h_6,toks:=s_5.toks+2 }) ((jb5 hs_6 (.inl (.inr rfl)) rfl).mono (λzw h=>h) No.le) (λzw h=>h) (λzw h=>.inl h) (al _ ⟨_,hx6⟩ ⟨_,ho6⟩ hm6)
 refine wpAny_execs_cons (plainObj_wpAny_Assign_Attribute (r6.e0 jn6 λv s7 k7 rv r7=>r7.name (d:=objD x) (k:=0) rfl (by decide) λv' rv'=>?_) (ja7 rfl _ _ _))
 obtain⟨t1,rfl⟩:=ja4 rv
 have:=jb0 rv'; subst this
 refine jg3 (es':=[⟨PyData.keyHash g.w.params "_node2info",.str "_node2info" (s_3.toks+1),.ref m⟩,⟨PyData.keyHash g.w.params "_ready_nodes",.str "_ready_nodes" (s_5.toks+1),.none⟩,⟨PyData.keyHash g.w.params "_npassedout",.str "_npassedout" (s7.toks+1),.int 0 t1⟩]) r7.now ⟨ja0 k7 _ _ hx6,rfl,rfl,ja0 k7 _ _ ho6⟩ rfl TK.c.set TK.c.over TK.a3.taker TK.dict rfl rfl (show 3<=1000 by decide) λh_8 hs8 ho8=>?_
 ((show let Q0:=_; wpAny _ _ _ Q0 _ _); intro Q0)
 have hx8:=(hs8.2 x hne).trans (ja0 k7 _ _ hx6)
 have hm8:=(hm6.keep (ja0 k7)).sameBut hs8 hmd
 have r8:=r7.eff (s':={ s7 with heap:=h_8,toks:=s7.toks+2 }) ((jb5 hs8 (.inl (.inr rfl)) rfl).mono (λzw h=>h) No.le) (λzw h=>h) (λzw h=>.inl h) (al _ ⟨_,hx8⟩ ⟨_,ho8⟩ hm8)
 refine wpAny_execs_cons (plainObj_wpAny_Assign_Attribute (r8.e0 jn6 λv s9 k9 rv r9=>r9.name (d:=objD x) (k:=0) rfl (by decide) λv' rv'=>?_) (ja7 rfl _ _ _))
 obtain⟨t2,rfl⟩:=ja4 rv
 have:=jb0 rv'; subst this
 refine jg3 (es':=jl9 g.w (s_3.toks+1) (s_5.toks+1) (s7.toks+1) (s9.toks+1) m .none 0 0 t1 t2) r9.now ⟨ja0 k9 _ _ hx8,rfl,rfl,ja0 k9 _ _ ho8⟩ rfl TK.c.set TK.c.over TK.a4.taker TK.dict rfl rfl (show 4<=1000 by decide) λh_1 hs1 ho1=>?_
 ((show let Q0:=_; wpAny _ _ _ Q0 _ _); intro Q0)
 have hx_1:=(hs1.2 x hne).trans (ja0 k9 _ _ hx8)
 have hm1:=(hm8.keep (ja0 k9)).sameBut hs1 hmd
 have r_1:=r9.eff (s':={ s9 with heap:=h_1,toks:=s9.toks+2 }) ((jb5 hs1 (.inl (.inr rfl)) rfl).mono (λzw h=>h) No.le) (λzw h=>h) (λzw h=>.inl h) (al _ ⟨_,hx_1⟩ ⟨_,ho1⟩ hm1)
 have S:Srt g T h_1 ⟨x,dx,m,[],[]⟩ SS.new:=⟨hx_1,⟨_,_,_,_,_,_,_,ho1⟩,hm1,hsys,rdy0,rfl,λi a nd h=>by simp at h,by
  simp only [LayS.all,List.flatMap_nil,List.append_nil,List.nodup_cons,List.mem_cons,List.not_mem_nil,or_false,not_or,not_false_eq_true,List.nodup_nil,and_true]
  exact⟨⟨hne,λz=>hmx z.symm⟩,λz=>hmd z.symm⟩,by simp [SS.new],by simp [SS.new]⟩
 refine wpAny_execs_cons (wpAny_If (wpAny_isTrue_Compare1 (r_1.name (d:=objD a) (k:=0) rfl (by decide) λv rv=>r_1.e0 jh8 λv' s' k' rv' r'=>jh1 (g:=g) (n:=n) _ No _ s' _ _ _ _ (r'.rm.le (by show n<=n+4; exact Nat.le_add_right _ _)) (rv.keeps (ja0 k')) rv' (wpAny_truthy_bool ?_)) rfl))
 have S':Srt g T s'.heap ⟨x,dx,m,[],[]⟩ SS.new:=Srt.keeps S λb o zw=>ja0 k' b o
 refine(if_pos rfl).mpr ?_
 ((show let Q0:=_; let E0:=_; wpAny _ _ _ Q0 E0 _); intro Q0 E0)
 have hIs:∀b,inA a es b->∃o,s.heap.get? b=some o:=I.alloc
 have keepX:∀(t:Shared),Cx (λb=>b=x\/b=dx) F s t->AhAt g t.heap a es:=λt c1=>I.keeps λb o hb e=>(c1.2 b o (λz=>by
   rcases z with z | z
   ·exact(hoff b hb).1 z
   ·exact(hoff b hb).2.1 z) e).2 (hoff b hb).2.2
 have hW0:∀b,((b=x\/b=dx)\/b=m)↔(⟨x,dx,m,[],[]⟩:LayS).W b:=λb=>by
  simp only [LayS.W,LayS.all,List.flatMap_nil,List.append_nil,List.mem_cons,List.not_mem_nil,or_false,or_assoc]
 have eW:(λb=>(b=x\/b=dx)\/b=m)=(⟨x,dx,m,[],[]⟩:LayS).W:=funext λb=>propext (hW0 b)
 have hX:∀b,inA a es b->(∃o,s'.heap.get? b=some o)/\¬P b/\¬No b/\¬(⟨x,dx,m,[],[]⟩:LayS).W b/\¬(F b\/b=env.locals):=λb hb=>by
  obtain⟨o,e⟩:=hIs b hb
  refine⟨(keepX _ r'.cx).alloc b hb,λz=>?_,id,λz=>?_,λz=>?_⟩
  ·have:=r'.np b z
   rw [show c.s.heap.get? b=some o from e] at this; cases this
  ·rcases(hW0 b).mpr z with (z | z) | z
   ·exact(hoff b hb).1 z
   ·exact(hoff b hb).2.1 z
   ·rw [z,hm0] at e; cases e
  ·rcases z with z | z
   ·exact(hoff b hb).2.2 z
   ·have:=r'.nl
    rw [show c.env.locals=b from z.symm,show c.s.heap.get? b=some o from e] at this; cases this
 rw [eW] at r'
 have hla:(⟨x,dx,m,[],[]⟩:LayS).a=x/\(⟨x,dx,m,[],[]⟩:LayS).dx=dx:=⟨rfl,rfl⟩
 have hrd:(⟨x,dx,m,[],[]⟩:LayS).rd=[]:=rfl
 generalize hl0:(⟨x,dx,m,[],[]⟩:LayS)=l_0 at S' r' hX hla hrd
 generalize hρ:((⟨(mOf "TopologicalSorter" "__init__").2.1,[]⟩:Rho).put "self" (objD x) 0).put "graph" (objD a) 0=ρ at r'
 have hsc:ρ.sc=(mOf "TopologicalSorter" "__init__").2.1:=by rw [<- hρ]; rfl
 have hse:ρ.is "self" (objD x):=by rw [<- hρ]; rfl
 have hgr:ρ.is "graph" (objD a):=by rw [<- hρ]; rfl
 clear hρ
 have hI':AhAt g s'.heap a es:=keepX _ r'.cx
 let kas:List (Int×Addr):=es.map λe=>(e.1,e.2.1)
 have ekas:(kas.map λe=>(e.1,Value.ref e.2))=es.map λe=>(e.1,.ref e.2.1):=by
  show(List.map _ (List.map _ _))=_
  rw [List.map_map]; rfl
 have eit:(kas.map λe=>(PyData.tuple [.int e.1,objD e.2]))=es.map λe=>.tuple [.int e.1,objD e.2.1]:=by
  show(List.map _ (List.map _ _))=_
  rw [List.map_map]; rfl
 refine wpAny_execs_cons (r'.forX (X:=inA a es) (items:=kas.map λe=>.tuple [.int e.1,objD e.2]) (xs:=["node","predecessors"]) rfl rfl hX (qo5 (k:=0) (λzw=>rfl) (jb8 hgr (by decide)) hI'.sys (by rw [ekas]; exact hI'.dict) (.inl rfl))
  (λi W ρ' s'=>∃l',W=l'.W/\Srt g T s'.heap l' (ji2 ((es.take i).map λe=>(e.1,e.2.2)))/\l'.rd=[]/\(l'.a=x/\l'.dx=dx)/\AhAt g s'.heap a es/\ρ'.sc=(mOf "TopologicalSorter" "__init__").2.1/\ρ'.is "self" (objD x)) (λzw zw zw=>False) (λzw zw zw zw zw=>False)
  ?_ ⟨l_0,rfl,S',hrd,hla,hI',hsc,hse⟩ ?_ ?_ ?_ (λzw zw zw zw zw zw h=>h.elim) (λzw zw zw zw zw zw zw h=>h.elim))
 ·intro i W ρ' s' s'' hJ k
  obtain⟨l',hW,S,h1,h2,h3,h4⟩:=hJ
  exact⟨l',hW,S.keeps λb o hb=>k b o (.inl (by rw [hW]; exact hb)),h1,h2,h3.keeps λb o hb=>k b o (.inr hb),h4⟩
 ·rintro i d W' ρ' s' hd ⟨l',hW,S,_,_,_,hsc',_⟩
  refine⟨?_,?_⟩
  ·have h1:stOk ρ' "node"=true:=jj9 hsc' rfl
   have h2:stOk ρ' "predecessors"=true:=jj9 hsc' rfl
   simp [h1,h2]
  ·rw [eit,List.getElem?_map,Option.map_eq_some_iff] at hd
   obtain⟨e,_,rfl⟩:=hd
   exact⟨_,rfl⟩
 ·intro Z O0 t i d O'' W' ρ' ρ1 s' E' hd hbd hJ r'
  refine wp_q λQ' hQ=>?_
  ((show let Q0:=_; wpAny _ _ _ Q0 _ _); intro Q0)
  obtain⟨l',hW,S',hrd',hla',hI',hsc',hse'⟩:=hJ
  subst hW
  rw [eit,List.getElem?_map,Option.map_eq_some_iff] at hd
  obtain⟨e,he,rfl⟩:=hd
  have hbd:ρ1=(ρ'.put "node" (.int e.1) 0).put "predecessors" (objD e.2.1) 0:=(Option.some.inj hbd).symm
  subst hbd
  have hse':=Rho.is_ne (x:="predecessors") (d':=objD e.2.1) (k:=0) (Rho.is_ne (x:="node") (d':=.int e.1) (k:=0) hse' rfl) rfl
  have hnd:((ρ'.put "node" (.int e.1) 0).put "predecessors" (objD e.2.1) 0).is "node" (.int e.1):=Rho.is_ne Rho.is_put rfl
  have hpr:((ρ'.put "node" (.int e.1) 0).put "predecessors" (objD e.2.1) 0).is "predecessors" (objD e.2.1):=Rho.is_put
  have hsc':((ρ'.put "node" (.int e.1) 0).put "predecessors" (objD e.2.1) 0).sc=(mOf "TopologicalSorter" "__init__").2.1:=hsc'
  generalize (ρ'.put "node" (.int e.1) 0).put "predecessors" (objD e.2.1) 0=ρ1 at hse' hnd hpr hsc' r'
  have hem:e∈es:=List.mem_of_getElem? he
  have hle:=hps e hem
  obtain⟨b1,b2⟩:=jv6 ((es.take i).map λe=>(e.1,e.2.2)) SS.new 0 (λnd h=>by simp [SS.new] at h) (λq hq=>by
   obtain⟨e',he',rfl⟩:=List.mem_map.mp hq
   exact hps e' (List.mem_of_mem_take he'))
  rw [List.length_map,List.length_take] at b1 b2
  have bn0:SS.new.nodes.length=0:=rfl
  rw [bn0] at b1
  have hse2:ρ1.is "self" (objD l'.a):=by rw [hla'.1]; exact hse'
  refine wpAny_execs_cons (wpAny_Expr_any (prog:=g.prog) (w:=g.w) (jv7 (r'.name hse2 (by decide) λv rv=>?_)) r'.inter (ja7 rfl _ _ _))
  have:=jb0 rv; subst this
  refine qu3 S' r'.now TK TK.madd bk (by decide) (by decide) ?_
  have k_4:Keeps s' { s' with heap:=s'.heap.push (methodObj (.ref T.add) (.ref l'.a)),toks:=s'.toks+1 }:=⟨_,_,rfl,λb o e=>Heap.get?_push_of_some _ e⟩
  have hm4:({ s' with heap:=s'.heap.push (methodObj (.ref T.add) (.ref l'.a)),toks:=s'.toks+1 }:Shared).heap.get? s'.heap.objs.size=some (methodObj (.ref T.add) (.ref l'.a)):=Heap.get?_push_size _ rfl
  generalize ({ s' with heap:=s'.heap.push (methodObj (.ref T.add) (.ref l'.a)),toks:=s'.toks+1 }:Shared)=s_4' at k_4 hm4 ⊢
  revert hm4
  revert k_4
  revert s_4'
  refine id ?_
  intro s_4' k_4 hm4
  generalize s'.heap.objs.size=mq at hm4 ⊢
  have r':=r'.keeps k_4
  have S':Srt g T s_4'.heap l' _:=S'.keeps λb o zw e=>ja0 k_4 _ _ e
  have hI':AhAt g s_4'.heap a es:=hI'.keeps λb o zw e=>ja0 k_4 _ _ e
  refine ql6 (K:=g.K) (f:=T.add) (self:=.ref l'.a) bk.fn (wpAny_items_cons (r'.name hnd (by decide) λv rv=>items_star (r'.name hpr (by decide) λv2 rv5=>?_)) rfl)
  have:=jb0 rv5; subst this
  refine uc4 (g:=g) (k:=0) (O:=No) (M:=No) (.inl ((hI'.lst e hem).rd id id)) λvs s_6 k6 rs6=>wpAny_items_nil ⟨⟨ja0 k6 _ _ hm4,(r'.keeps k6).now⟩,?_⟩
  obtain⟨t1,rfl⟩:=ja4 rv
  obtain⟨ys,rfl,e2⟩:=jf5 rs6
  have r6:=r'.keeps k6
  have S6:Srt g T s_6.heap l' _:=S'.keeps λb o zw e=>ja0 k6 _ _ e
  rw [List.append_nil]
  refine wpAny_call (method_call (ja0 k6 _ _ hm4) (add_code (n:=n) (l:=l') (m:=0+15*min i es.length) (ps:=e.2.2) r6.at TK TF N S6 hrd' (e2 ▸ jd2 ys) (Nat.lt_of_le_of_lt (Nat.add_le_add_right (Nat.add_le_add b1 hle) 1) (by omega)) b2 (by omega) λs7 l7 ef7 S7 le7=>?_))
  ((show let Q0:=_; wpAny _ _ _ Q0 _ _); intro Q0)
  have r7:=r6.effE ef7
  refine wpAny_execs_nil (hQ _ _ ⟨_,_,_,r7,l7,rfl,?_,?_,?_,keepX _ r7.cx,hsc',hse'⟩)
  ·have:ji2 ((es.take (i+1)).map λe=>(e.1,e.2.2))=(ji2 ((es.take i).map λe=>(e.1,e.2.2))).add e.1 e.2.2:=by
    rw [List.take_add_one,he,List.map_append]
    unfold ji2
    rw [List.foldl_append]; rfl
   rw [this]; exact S7
  ·rw [le7.rd]; exact hrd'
  ·rw [le7.a,le7.dx]; exact hla'
 ·intro O1 W_1 ρ1 s_1 hO r_1 hJ
  obtain⟨l_1,hW,S1,hrd1,hla1,_⟩:=hJ
  subst hW
  refine wpAny_execs_nil (wpAny_execs_nil (q s_1 l_1 (r_1.eff_out λb hb=>?_) ?_ hrd1 hla1.1))
  ·have hb:b=x\/b=dx:=hb
   show b∈l_1.all
   unfold LayS.all
   rw [hla1.1,hla1.2]
   rcases hb with rfl | rfl
   ·exact List.mem_cons_self ..
   ·exact List.mem_cons_of_mem _ (List.mem_cons_self ..)
  ·have:es.take (kas.map λe=>(PyData.tuple [.int e.1,objD e.2])).length=es:=by
    rw [List.length_map,List.length_map,List.take_length]
   rw [this] at S1
   exact S1
theorem qm8 {W:Avoid}{es:List (Int×Addr×List Int)}{code:Value}(at_:At g (n+6) A O M W F s)(TK:TopoOk g.K T)(TF:TopoFn g.K T)(N:Names g)(bk:BoundK g.K T.add)(fk:FnDM g.K T.init "TopologicalSorter" "__init__" ["self","graph"] 2 [] code)
  (I:AhAt g s.heap a es) (h15:es.length<=15) (hps:∀e∈es,e.2.2.length<=15) (hoff:∀b,inA a es b->¬F b)
  (q:∀s' l,Cx No F s s'->Srt g T s'.heap l (ji2 (es.map λe=>(e.1,e.2.2)))->l.rd=[]->(∀b∈l.all,s.heap.get? b=none)->R (.ok (.ret (.ref l.a))) s'):codeAny g.M A (.call (.ref T.C) ⟨[.ref a],[]⟩) R s:=by
 have X:=g.X.keeps at_.up
 refine ug0 X TK.c.makes TK.minit TK.tinit ?_
 have hsz:(s.heap.push emptyDict).objs.size=s.heap.objs.size+1:=Heap.size_push ..
 have k:Keeps s { s with heap:=(s.heap.push emptyDict).push (instObj T.C s.heap.objs.size) }:=⟨_,s.toks,rfl,λb o e=>Heap.get?_push_of_some _ (Heap.get?_push_of_some _ e)⟩
 have hx:((s.heap.push emptyDict).push (instObj T.C s.heap.objs.size)).get? (s.heap.objs.size+1)=some (instObj T.C s.heap.objs.size):=by rw [<- hsz]; exact Heap.get?_push_size _ rfl
 have hd:((s.heap.push emptyDict).push (instObj T.C s.heap.objs.size)).get? s.heap.objs.size=some emptyDict:=Heap.get?_push_of_some _ (Heap.get?_push_size _ rfl)
 have new:∀b,(b=s.heap.objs.size+1\/b=s.heap.objs.size)->s.heap.get? b=none:=λb hb=>je5 (ja3 s) (by
  rcases hb with rfl | rfl
  ·exact Nat.le_succ _
  ·exact Nat.le_refl _)
 have a':=(at_.push k (N:=λb=>b=s.heap.objs.size+1\/b=s.heap.objs.size) new λb hb=>by
  rcases hb with rfl | rfl
  ·exact⟨_,hx⟩
  ·exact⟨_,hd⟩).make (C:=T.C) (rest:=[.ref a])
 have old:∀b,inA a es b->¬(b=s.heap.objs.size+1\/b=s.heap.objs.size):=λb hb z=>by
  obtain⟨o,e⟩:=I.alloc b hb
  rw [new b z] at e; cases e
 refine qy6 a' TK TF N bk fk hx hd (Nat.succ_ne_self _) (I.keeps λb o zw e=>ja0 k b o e) h15 hps (λb hb=>⟨λz=>old b hb (.inl z),λz=>old b hb (.inr z),hoff b hb⟩) λs' l ef S hrd hla=>⟨rfl,?_⟩
 rw [<- hla]
 have hnew:∀b∈l.all,s.heap.get? b=none:=λb hb=>by
  rcases ef.new b hb with h | h
  ·exact new b h
  ·cases e:s.heap.get? b with
   | none=>rfl
   | some o=>have:=ja0 k _ _ e; rw [h] at this; cases this
 exact q s' l ((Cx.of_keeps (W:=No) (F:=F) k).step ef.cx (λb hb=>.inr (new b hb)) λzw h=>.inl h) S hrd hnew
noncomputable def rdB:List Stmt:=(fnOf "_law_rounds").1
noncomputable def rdN:List (Str×NameKind):=(fnOf "_law_rounds").2.1
theorem rd1 (P:Params):∃c,FnK (K1 P) 176 rdB rdN ["ahead"] c :=
 ⟨_,⟨_,_,_,_,rfl,⟨rfl,rfl,rfl,rfl,rfl,rfl⟩,rfl,by kernel_rfl,rfl,rfl,jv1 λzw=>rfl⟩,rfl⟩
theorem init2 (P:Params):∃c,FnDM (K1 P) T1.init "TopologicalSorter" "__init__" ["self","graph"] 2 [] c :=
 ⟨_,⟨_,_,_,_,rfl,⟨rfl,rfl,rfl,rfl,rfl,rfl⟩,rfl,by kernel_rfl,rfl,rfl,jw9 λzw zw zw=>by kernel_rfl⟩,rfl⟩
theorem badd1 (P:Params):BoundK (K1 P) T1.add:=⟨by kernel_rfl,by kernel_rfl,by kernel_rfl⟩
theorem bdone1 (P:Params):BoundK (K1 P) T1.done:=⟨by kernel_rfl,by kernel_rfl,by kernel_rfl⟩
noncomputable abbrev rdD (rs:List (List Int)):List D:=rs.map λg=>.list (g.map .int)
noncomputable def ug5:Ent:=("list",λds=>match ds with
 | [.tuple xs]=>some (.list xs)
 | _=>none)
noncomputable abbrev TG:Tab:=qm5 [ug5]
theorem TG_ok (G:Gr1 g P):TabOk TG g n:=qe1 λe he=>by
 cases List.mem_singleton.mp he
 refine⟨_,G.list,λds d h=>?_⟩
 unfold ug5 at h
 dsimp only at h
 split at h
 ·cases h; exact qq6
 ·cases h
structure RN (a:Addr) (rs:List (List Int)) (ρ:Rho):Prop where
 sc:ρ.sc=rdN
 so:ρ.is "sorter" (objD a)
 ro:ρ.vars.lookup ("rounds":Str)=some (.list (rdD rs),1)
 one:jk7 ρ "rounds"=true
theorem RN.group {rs:List (List Int)}(h:RN a rs ρ)(d:D):RN a rs (ρ.put "group" d 0):=⟨h.sc,Rho.is_ne h.so rfl,jb2 rfl h.ro,jc0 h.one rfl⟩
theorem RN.more {rs:List (List Int)}(h:RN a rs ρ)(g:List Int):RN a (rs++[g]) (ρ.put "rounds" (.list (rdD rs++[.list (g.map .int)])) 1):=⟨h.sc,Rho.is_ne h.so rfl,by rw [lk_same]; unfold rdD; rw [List.map_append]; rfl,jc0 h.one rfl⟩
theorem ud2 {rw' row:List (List Int)}(h:runR k σ rw'=some row):∃k' xs,k=k'+1/\σ.ready=some xs/\(σ.active=false->rw'=row)/\(σ.active=true->(∀x∈xs,σ.has x=true)/\σ.getReady.2.okDone σ.getReady.1=true/\σ.getReady.1.length<=100/\runR k' (σ.getReady.2.done σ.getReady.1) (rw'++[σ.getReady.1])=some row):=by
 cases k with
 | zero=>cases h
 | succ k =>
 unfold runR at h
 split at h
 ·cases h
 rename_i hs
 obtain⟨xs,hxs⟩:∃xs,σ.ready=some xs:=by
  cases h:σ.ready with
  | none=>rw [h] at hs; exact absurd rfl hs
  | some xs=>exact⟨xs,rfl⟩
 refine⟨k,xs,rfl,hxs,λha=>?_,λha=>?_⟩
 ·rw [ha,if_neg (by decide)] at h
  exact Option.some.inj h
 ·rw [ha,if_pos rfl] at h
  split at h
  ·rename_i hc
   rw [hxs] at hc
   simp only [Bool.and_eq_true,List.all_eq_true,decide_eq_true_eq] at hc
   exact⟨hc.1.1,hc.1.2,hc.2,h⟩
  ·cases h
theorem rd_while {W:Avoid}{σ0:SS}{rs:List (List Int)}{k_0:Nat}{Q:Flow->Shared->Prop}(G:Gr1 c.g P)(r:Run c O M W ρ s)(sub:∀b,l.W b->W b)(hn:4<=c.n)(S:Srt c.g T1 s.heap l σ0)(hrow:runR k_0 σ0 []=some rs)(hk0:k_0<=100)(H:RN l.a [] ρ)
  (q:∀O' ρ' s',Run c O' M W ρ' s'->RN l.a rs ρ'->Q .next s'):wpAny c.g.M c.Ar (exec (rdB.getD 3 noSt) c.env) Q E s:=by
 have K:=G.k
 have TK:=G.topo
 have TF:=G.fns
 have N:=G.names
 conv in rdB.getD 3 noSt=>whnf
 refine r.whileL (λk W' ρ s=>∃σ rw',runR k σ rw'=some rs/\rw'.length+k<=100/\W'=W/\Srt c.g T1 s.heap l σ/\RN l.a rw' ρ) k_0 ⟨_,[],hrow,by simpa using hk0,rfl,S,H⟩ ?_
 intro k O8 W8 ρ8 s8 E8 hJ r8
 ((show let Q0:=_; wpAny _ _ _ Q0 _ _); intro Q0)
 obtain⟨σ,rw',hrun,hkl,rfl,S8,H8⟩:=hJ
 obtain⟨k,xs,rfl,hxs,hfin,hmore⟩:=ud2 hrun
 refine wpAny_isTrue_value (MethodCall_ (r8.name H8.so (by decide) λv rv=>?_)) rfl
 have:=jb0 rv; subst this
 refine jt7 S8 r8.now TK TK.mactive (by decide) (callWith_K0 r8.now TK.mactive.keep (wpAny_call (qr2 (n:=c.n - 4) ((r8.at.le (by show c.n - 4+2<=c.n; omega)).sub sub) TK TF G.bool S8 hxs λs9 ef9 S9=>wpAny_truthy_bool ?_)))
 obtain⟨r9,kp_9⟩:=r8.effS sub ef9
 cases hact:σ.active with
 | false =>
  refine(if_neg (by decide)).mpr ?_
  have hrun:=hfin hact
  subst hrun
  exact wpAny_execs_nil (q _ _ _ r9 H8)
 | true =>
  refine(if_pos rfl).mpr ?_
  refine wp_q λQ' hQ=>?_
  ((show let Q0:=_; wpAny _ _ _ Q0 _ _); intro Q0)
  obtain⟨hin',hdone,hlen,hrun⟩:=hmore hact
  have bk:BoundK c.g.K T1.done:=by rw [K]; exact bdone1 _
  refine wpAny_execs_cons (r9.assignS rfl (MethodCall_ (r9.name H8.so (by decide) λv rv=>?_)))
  ((show let Q0:=_; wpAny _ _ _ Q0 _ _); intro Q0)
  have:=jb0 rv; subst this
  refine jt7 S9 r9.now TK TK.mready (by decide) (callWith_K0 r9.now TK.mready.keep (wpAny_call (qw6 (n:=c.n - 4) ((r9.at.le (by show c.n - 4+2<=c.n; omega)).sub sub) TK TF N G.tuple S9 hxs hin' λs10 v ef10 S10 rv10=>?_)))
  ((show let Q0:=_; wpAny _ _ _ Q0 _ _); intro Q0)
  obtain⟨r10,kp10⟩:=r9.effS sub ef10
  generalize hgr:σ.getReady.1=gr at rv10 hdone hlen hrun
  generalize hσ':σ.getReady.2=σ' at S10 hdone hrun
  have hr':σ'.ready=some []:=by rw [<- hσ']; rfl
  have rv10:=rv10.imp (O':=O8) (M':=M) (λb zw h z=>h (.inl z)) (λzw zw zw h=>h) (Nat.le_refl 0)
  refine r10.store (d:=.tuple (gr.map .int)) (jj9 H8.sc rfl) rv10 λs11 c11 r11=>?_
  ((show let Q0:=_; wpAny _ _ _ Q0 _ _); intro Q0)
  have S11:Srt c.g T1 s11.heap l σ':=S10.keeps λb o hb=>r10.same c11 b o (sub b hb)
  have H11:=H8.group (.tuple (gr.map .int))
  have hgr11:=Rho.is_put (ρ:=ρ8) (x:="group") (d:=.tuple (gr.map .int))
  generalize ρ8.put "group" (.tuple (gr.map .int)) 0=ρ11 at H11 hgr11 r11
  revert r11
  revert hgr11
  revert H11
  revert ρ11
  refine id ?_
  intro ρ11 H11 hgr11 r11
  have hcap:cap=100000:=rfl
  refine r11.pureS (R:=Ev.at TG 12) (m:=12) (jq1 (by omega) N (TG_ok G) 12) (s_append ⟨rfl,rfl,H11.one,rfl,rfl⟩ H11.ro (r_fn rfl (by rw [H11.sc]; rfl) rfl (congrArg (λo:Option DK=>o.bind λb=>some [b]) (ja2 rfl rfl hgr11)) rfl rfl rfl rfl rfl) (by rw [List.length_map]; omega)) λs14 c14 r14=>?_
  ((show let Q0:=_; wpAny _ _ _ Q0 _ _); intro Q0)
  have S14:Srt c.g T1 s14.heap l σ':=S11.keeps λb o hb=>r11.same c14 b o (sub b hb)
  have H14:=H11.more gr
  have hgr14:=Rho.is_ne (x:="rounds") (d':=.list (rdD rw'++[.list (gr.map .int)])) (k:=1) hgr11 rfl
  generalize ρ11.put "rounds" (.list (rdD rw'++[.list (gr.map .int)])) 1=ρ14 at H14 hgr14 r14
  revert r14
  revert hgr14
  revert H14
  revert ρ14
  refine id ?_
  intro ρ14 H14 hgr14 r14
  refine wpAny_execs_cons (wpAny_Expr_any (prog:=c.g.prog) (w:=c.g.w) (jv7 (r14.name H14.so (by decide) λv rv=>?_)) r14.inter (ja7 rfl _ _ _))
  have:=jb0 rv; subst this
  refine qu3 S14 r14.now TK TK.mdone bk (by decide) (by decide) ?_
  have k15:Keeps s14 { s14 with heap:=s14.heap.push (methodObj (.ref T1.done) (.ref l.a)),toks:=s14.toks+1 }:=⟨_,_,rfl,λb o e=>Heap.get?_push_of_some _ e⟩
  have hm15:({ s14 with heap:=s14.heap.push (methodObj (.ref T1.done) (.ref l.a)),toks:=s14.toks+1 }:Shared).heap.get? s14.heap.objs.size=some (methodObj (.ref T1.done) (.ref l.a)):=Heap.get?_push_size _ rfl
  generalize ({ s14 with heap:=s14.heap.push (methodObj (.ref T1.done) (.ref l.a)),toks:=s14.toks+1 }:Shared)=s15 at k15 hm15 ⊢
  generalize s14.heap.objs.size=mq at hm15 ⊢
  have r15:=r14.keeps k15
  refine qq7 (K:=c.g.K) (f:=T1.done) (self:=.ref l.a) bk.fn (r15.e0 (jb8 hgr14 (by decide)) λv2 s16 k16 rv16 r16=>uc4 (g:=c.g) (k:=0) (.inr rv16) λvs s17 k17 rs17=>⟨⟨ja0 k17 _ _ (ja0 k16 _ _ hm15),(r16.keeps k17).now⟩,?_⟩)
  have r17:=r16.keeps k17
  have k147:=ja1 k15 (ja1 k16 k17)
  have S17:Srt c.g T1 s17.heap l σ':=S14.keeps λb o zw e=>ja0 k147 _ _ e
  refine wpAny_call (method_call (ja0 k17 _ _ (ja0 k16 _ _ hm15)) (uj8 (n:=c.n - 4) ((r17.at.le (by show c.n - 4+2<=c.n; omega)).sub sub) TK TF N S17 hr' rs17 (by omega) hdone λs18 ef18 S18=>?_))
  ((show let Q0:=_; wpAny _ _ _ Q0 _ _); intro Q0)
  obtain⟨r18,kp18⟩:=r17.effS sub ef18
  exact wpAny_execs_nil (hQ _ _ ⟨k,by (exact Nat.lt_succ_self _),_,_,_,r18,_,_,hrun,by rw [List.length_append,List.length_singleton]; omega,rfl,S18,H14⟩)
noncomputable def pats:List (List Nat×List Nat):=[([0,0,0],[0,3]),([0,0,2],[0,2,3]),([0,1,0],[0,1,3]),([0,1,1],[0,1,3]),([0,1,2],[0,1,2])]
theorem pat002:((jl1 [0,2,3] 5).all λl=>chkA (mat [0,0,2] l))=true:=by decide +kernel
theorem pat010:((jl1 [0,1,3] 5).all λl=>chkA (mat [0,1,0] l))=true:=by decide +kernel
theorem pat011:((jl1 [0,1,3] 5).all λl=>chkA (mat [0,1,1] l))=true:=by decide +kernel
theorem pat_all:∀q∈pats,((jl1 q.2 5).all λl=>chkA (mat q.1 l))=true:=List.forall_mem_cons.mpr ⟨pat000,List.forall_mem_cons.mpr ⟨pat002,List.forall_mem_cons.mpr ⟨pat010,List.forall_mem_cons.mpr ⟨pat011,List.forall_mem_cons.mpr ⟨pat012,λzw h=>nomatch h⟩⟩⟩⟩⟩
theorem can_all:∀a < 3,∀b < 3,∀c < 3,pats.any (λq=>q.1==([a,b,c]:List Nat).map (([a,b,c]:List Nat).idxOf ·) && (List.range 3).all λy=>q.2.contains (([a,b,c]:List Nat).idxOf y))=true:=by decide +kernel
theorem qh6 {as:List Nat}:∀(n:Nat) (l:List Nat),l.length=n->(∀x∈l,x∈as)->l∈jl1 as n
 | 0,l,h,_=>by rw [List.eq_nil_of_length_eq_zero h]; exact List.mem_singleton.mpr rfl
 | n+1,l,h,ha=>by
  obtain⟨x,t,rfl,h1⟩:=lenS h
  unfold jl1
  exact List.mem_flatMap.mpr ⟨t,qh6 n t h1 λy hy=>ha y (by simp [hy]),List.mem_map.mpr ⟨x,ha x (by simp),rfl⟩⟩
theorem mat_map {f:Nat->Nat}{s l:List Nat}(h:∀a∈s,∀b,(f a==f b)=(a==b)):mat (s.map f) (l.map f)=mat s l:=by
 unfold mat
 rw [List.map_map]
 congr 1
 refine List.map_congr_left λa ha=>?_
 show(l.map f).map _=_
 rw [List.map_map]
 exact List.map_congr_left λb zw=>h a ha b
theorem chk_all {s l:List Nat}(hs:s.length=3)(hl:l.length=5)(hs3:∀x∈s,x < 3)(hl3:∀x∈l,x < 3):chkA (mat s l)=true:=by
 obtain⟨a,b,c,rfl⟩:∃a b c,s=[a,b,c]:=by
  obtain⟨a,t1,e1,h1⟩:=lenS hs
  obtain⟨b,t2,e2,h2⟩:=lenS h1
  obtain⟨c,t3,e3,h3⟩:=lenS h2
  exact⟨a,b,c,by rw [e1,e2,e3,List.eq_nil_of_length_eq_zero h3]⟩
 have k:=can_all a (hs3 a (by simp)) b (hs3 b (by simp)) c (hs3 c (by simp))
 rw [List.any_eq_true] at k
 obtain⟨q,hq,k⟩:=k
 rw [Bool.and_eq_true,List.all_eq_true] at k
 obtain⟨e,k⟩:=k
 have e:=eq_of_beq e
 have:=List.all_eq_true.mp (pat_all q hq) (l.map (([a,b,c]:List Nat).idxOf ·)) (qh6 5 _ (by rw [List.length_map]; exact hl) λx hx=>by
  obtain⟨y,hy,rfl⟩:=List.mem_map.mp hx
  exact List.contains_iff_mem.mp (k y (List.mem_range.mpr (hl3 y hy))))
 rw [e,mat_map] at this
 ·exact this
 ·intro x hx y
  by_cases h:x=y
  ·rw [h]; simp
  ·rw [beq_eq_false_iff_ne.mpr h,beq_eq_false_iff_ne]
   intro z
   refine h ?_
   have h1:([a,b,c]:List Nat).idxOf x < ([a,b,c]:List Nat).length:=List.idxOf_lt_length_of_mem hx
   have h2:=List.getElem_idxOf h1
   have h3:([a,b,c]:List Nat).idxOf y < ([a,b,c]:List Nat).length:=z ▸ h1
   have h4:=List.getElem_idxOf h3
   rw [<- h2,<- h4]
   congr 1
noncomputable def letC (k:Nat):Nat:=([97,65,98,66,99,67]:List Nat).getD k 0
noncomputable def lowC (k:Nat):Nat:=97+k / 2
noncomputable def wtC (x y:Nat):Int:=if x=y then 2 else if x / 2=y / 2 then 1 else 0
theorem jc8:∀x < 6,∀y < 6,2 - subC (letC y) (letC x)=wtC x y/\2 - subC 46 (letC x)=0/\letC x≠46/\2 - subC (lowC y) (lowC x)=(if x / 2=y / 2 then 2 else 0)/\2 - subC 46 (lowC x)=0/\lowC x≠46:=by decide +kernel
structure Ok4 (s l:List Nat) (rs:List (List Int)):Prop where
 fine:(ji2 (ahS (mat (s.map (· / 2)) (l.map (· / 2))) 15)).fine=true
 cyc:(ji2 (ahS (mat (s.map (· / 2)) (l.map (· / 2))) 15)).cyc=some none
 run:runR 8 { ji2 (ahS (mat (s.map (· / 2)) (l.map (· / 2))) 15) with ready:=some (ji2 (ahS (mat (s.map (· / 2)) (l.map (· / 2))) 15)).roots } []=some rs
 sort:jr0 rs.flatten=(ahS (mat (s.map (· / 2)) (l.map (· / 2))) 15).map (·.1)
 behind:js8 (ahS (mat (s.map (· / 2)) (l.map (· / 2))) 15) [] rs.flatten=true
 count:2*(rs.length:Int)=((List.range 5).foldl (λu j=>jd1 (gain2 (mat (s.map (· / 2)) (l.map (· / 2))) j) u) (0,0,0)).2.2
theorem ok4 {s l:List Nat}(hs:s.length=3)(hl:l.length=5)(hs6:∀x∈s,x < 6)(hl6:∀x∈l,x < 6):∃rs,Ok4 s l rs:=by
 have h:=chk_all (s:=s.map (· / 2)) (l:=l.map (· / 2)) (by rw [List.length_map]; exact hs) (by rw [List.length_map]; exact hl) (λx hx=>by
  obtain⟨y,hy,rfl⟩:=List.mem_map.mp hx
  have:=hs6 y hy
  show y / 2 < 3
  omega) (λx hx=>by
  obtain⟨y,hy,rfl⟩:=List.mem_map.mp hx
  have:=hl6 y hy
  show y / 2 < 3
  omega)
 unfold chkA at h
 dsimp only at h
 rw [Bool.and_eq_true,Bool.and_eq_true] at h
 obtain⟨⟨h1,h2⟩,h3⟩:=h
 cases hr:runR 8 { ji2 (ahS (mat (s.map (· / 2)) (l.map (· / 2))) 15) with ready:=some (ji2 (ahS (mat (s.map (· / 2)) (l.map (· / 2))) 15)).roots } [] with
 | none=>rw [hr] at h3; cases h3
 | some rs =>
  rw [hr] at h3
  have h3:okR (mat (s.map (· / 2)) (l.map (· / 2))) rs=true:=h3
  unfold okR at h3
  rw [Bool.and_eq_true,Bool.and_eq_true] at h3
  exact⟨rs,h1,eq_of_beq h2,hr,eq_of_beq h3.1.1,h3.1.2,eq_of_beq h3.2⟩
theorem qn0 {es:List (Int×Addr×List Int)}{ah:List (Int×List Int)}{rs:List (List Int)}(G:Gr1 g P)(at_:At g (n+7) A O M No F s)(I:AhAt g s.heap a es)(hes:es.map (λe=>(e.1,e.2.2))=ah)(h15:es.length<=15)(hps:∀e∈es,e.2.2.length<=15)(hoff:∀b,inA a es b->¬F b)
  (hfine:(ji2 ah).fine=true) (hcyc:(ji2 ah).cyc=some none) (hrun:runR 8 { ji2 ah with ready:=some (ji2 ah).roots } []=some rs)
  (q:∀v s',Cx No F s s'->Rd O M s'.heap 0 v (.list (rdD rs))->R (.ok (.ret v)) s'):codeAny g.M A (.call (.ref 176) ⟨[.ref a],[]⟩) R s:=by
 have K:=G.k
 obtain⟨cc,fk⟩:=rd1 P
 obtain⟨ci,fi⟩:=init2 P
 have bk:BoundK g.K T1.add:=by rw [K]; exact badd1 _
 rw [<- K] at fk fi
 have TK:=G.topo
 have TF:=G.fns
 have N:=G.names
 have hsuc:∀nd∈(ji2 ah).nodes,∀x∈nd.succ,(ji2 ah).has x=true:=λnd hnd x hx=>by
  unfold SS.fine at hfine
  rw [List.all_eq_true] at hfine
  have:=hfine nd hnd
  rw [List.all_eq_true] at this
  exact this x hx
 refine jn8 (ds:=[objD a]) at_ fk (.cons .obj .nil) rfl rfl rfl λenv Pp O' s_2 r hc hk=>?_
 revert r
 (show let c:Fx:=_; Run c _ _ _ _ _->_)
 intro c r
 ((show let Q0:=_; wpAny _ _ _ Q0 _ _); intro Q0)
 generalize hρ:((⟨rdN,[]⟩:Rho).put "ahead" (objD a) 0)=ρ at r
 have hsc:ρ.sc=rdN:=by rw [<- hρ]; rfl
 have hp:ρ.is "ahead" (objD a):=by rw [<- hρ]; rfl
 have one:jk7 ρ "rounds"=true:=by rw [<- hρ]; rfl
 clear hρ
 have I2:AhAt g s_2.heap a es:=I.keeps λb o zw e=>hk b o e
 have hoff2:∀b,inA a es b->¬c.Fc b:=λb hb z=>by
  rcases z with z | z
  ·exact hoff b hb z
  ·obtain⟨o,e⟩:=I.alloc b hb
   have:=r.nl
   rw [show c.env.locals=b from z.symm,show c.s.heap.get? b=some o from e] at this; cases this
 have hB:rdB=[rdB.getD 0 noSt,rdB.getD 1 noSt,rdB.getD 2 noSt,rdB.getD 3 noSt,rdB.getD 4 noSt]:=rfl
 rw [hB]
 have step0:∀{Q:Flow->Shared->Prop} {E:Value->Shared->Prop},(∀O4 s_4 (l:LayS),Run c O4 No l.W (ρ.put "sorter" (objD l.a) 0) s_4->Srt g T1 s_4.heap l (ji2 ah)->l.rd=[]->Q .next s_4)->wpAny g.M (A.deeper env) (exec (rdB.getD 0 noSt) env) Q E s_2:=λ{Q E} q0=>by
  conv in rdB.getD 0 noSt=>whnf
  refine r.assignS rfl (Call_ (je8 (v:=.ref T1.C) r.act.up r.act.eo (by rw [hsc]; rfl) (by show nsIn g.K _ _=_; rw [K]; rfl) (by decide) (callWith_K r.now TK.c.keep (wpAny_items_cons (r.nameA hp (by decide) (wpAny_items_nil ⟨r.now,?_⟩)) rfl))))
  refine wpAny_call (qm8 (n:=n) r.at TK TF N bk fi I2 h15 hps hoff2 λs_3 l cx3 S3 hrd hnew=>?_)
  rw [hes] at S3
  have r_3:=r.eff (W':=l.W) cx3 (λzw h=>h.elim) (λb hb=>.inr (hnew b hb)) S3.al
  refine r_3.store (d:=objD l.a) (jj9 hsc rfl) .obj λs_4 c_4 r_4=>?_
  exact q0 _ s_4 l r_4 (S3.keeps (r_3.same c_4)) hrd
 refine wpAny_execs_cons (step0 λO4 s_4 l r_4 S4 hrd=>?_)
 have hsc4:(ρ.put "sorter" (objD l.a) 0).sc=rdN:=hsc
 have hso4:=Rho.is_put (ρ:=ρ) (x:="sorter") (d:=objD l.a)
 have one4:jk7 (ρ.put "sorter" (objD l.a) 0) "rounds"=true:=jc0 one rfl
 generalize ρ.put "sorter" (objD l.a) 0=ρ4 at hsc4 hso4 one4 r_4
 have step1:∀{Q:Flow->Shared->Prop} {E:Value->Shared->Prop},(∀O5 s_5 l_5,Run c O5 No l_5.W ρ4 s_5->Srt g T1 s_5.heap l_5 { ji2 ah with ready:=some (ji2 ah).roots }->l_5.a=l.a->Q .next s_5)->wpAny g.M (A.deeper env) (exec (rdB.getD 1 noSt) env) Q E s_4:=λ{Q E} q0=>by
  conv in rdB.getD 1 noSt=>whnf
  refine wpAny_Expr_any (prog:=g.prog) (w:=g.w) (MethodCall_ (r_4.name hso4 (by decide) λv rv=>?_)) r_4.inter (ja7 rfl _ _ _)
  have:=jb0 rv; subst this
  refine jt7 S4 r_4.now TK TK.mprep (by decide) (callWith_K0 r_4.now TK.mprep.keep (wpAny_call (ud8 (n:=n+2) r_4.at TK TF N G.set G.iter G.stop S4 hrd hsuc hcyc λs_5 z ef5 S5=>?_)))
  exact q0 _ s_5 _ (r_4.effE ef5) S5 rfl
 refine wpAny_execs_cons (step1 λO5 s_5 l_5 r_5 S5 hla=>?_)
 rw [<- hla] at hso4
 have step2:∀{Q:Flow->Shared->Prop} {E:Value->Shared->Prop},(∀O6 s_6 ml,Run c O6 (λb=>b=ml) l_5.W (ρ4.put "rounds" (.list []) 1) s_6->Srt g T1 s_6.heap l_5 { ji2 ah with ready:=some (ji2 ah).roots }->Q .next s_6)->wpAny g.M (A.deeper env) (exec (rdB.getD 2 noSt) env) Q E s_5:=λ{Q E} q0=>by
  conv in rdB.getD 2 noSt=>whnf
  exact r_5.own (jj9 hsc4 rfl) (ja7 rfl _ _ _) (uj2 (jz5 jj2 (by decide))) rfl λml s_6 r6 kw=>q0 _ s_6 ml r6 (S5.keeps λb o hb=>kw b o hb)
 refine wpAny_execs_cons (step2 λO6 s_6 ml r6 S6=>?_)
 have H6:RN l_5.a [] (ρ4.put "rounds" (.list []) 1):=⟨hsc4,Rho.is_ne hso4 rfl,lk_same,jc0 one4 rfl⟩
 refine wpAny_execs_cons (rd_while (c:=c) G r6 (λb h=>h) (by show 4<=n+6; omega) S6 hrun (by decide) H6 λO7 ρ7 s7 r7 H7=>?_)
 conv in rdB.getD 4 noSt=>whnf
 refine wpAny_execs_cons (wpAny_Return_some (r7.evG (jb8 H7.ro (by decide)) λv s8 k8 rv r8=>?_))
 have cx:=r8.cx
 have rd:=r8.rd_out rv
 refine q v s8 cx (rd.imp (λb zw h z=>h (.inl z)) (λzw zw zw h=>h) (Nat.le_refl 0))
noncomputable def foldFn:=qp7 (fnOf "_law_heavier").1 "_law_fold"
noncomputable def foldDef:=defOf ((fnOf "_law_heavier").1.getD 0 noSt)
noncomputable def ju0:Pos:=foldDef.2.2.2.2
noncomputable def foldQual:Str:=("_law_heavier"++".<locals>.")++"_law_fold"
theorem heav1 (P:Params):FnQ (K1 P) 183 (fnOf "_law_heavier").1 (fnOf "_law_heavier").2.1 ["short","long","ahead"] (.ref 182) "_law_heavier" :=
 ⟨⟨_,_,_,_,rfl,⟨rfl,rfl,rfl,rfl,rfl,rfl⟩,rfl,by kernel_rfl,rfl,rfl,rfl,qe0 λzw zw zw=>rfl⟩,rfl⟩
noncomputable def qd7 (h:Heap) (f:Addr) (v1 v2 v3:Value) (W:Avoid):Prop :=
 ∃cl doc pm ctv c' k1 k2 k3,h.get? f=some (fnMade "_law_fold" foldQual foldDef.2.1 foldFn.1 foldDef.2.2.2.1 cl doc pm c' ctv)/\h.CodeRec (.ref c') foldQual/\(cl.lookup ("short":Str)=some k1/\cl.lookup ("long":Str)=some k2/\cl.lookup ("ahead":Str)=some k3)/\(∀x c,cl.lookup x=some c->(x="short"/\c=k1)\/(x="long"/\c=k2)\/(x="ahead"/\c=k3))/\(h.IsCell k1 (some v1)/\h.IsCell k2 (some v2)/\h.IsCell k3 (some v3))/\(k1≠k2/\k1≠k3/\k2≠k3)/\W f/\W c'/\W k1/\W k2/\W k3
theorem js4:∀x,(x,NameKind.free)∈foldDef.2.2.2.1.names↔x="ahead"\/x="long"\/x="short":=λx=>by
 have e:foldDef.2.2.2.1.names.filter (λp=>p.2==.free)=[(("ahead":Str),NameKind.free),(("long":Str),NameKind.free),(("short":Str),NameKind.free)]:=by rfl
 have:(x,NameKind.free)∈foldDef.2.2.2.1.names↔(x,NameKind.free)∈foldDef.2.2.2.1.names.filter (λp=>p.2==.free):=⟨λh=>List.mem_filter.mpr ⟨h,rfl⟩,λh=>(List.mem_filter.mp h).1⟩
 rw [this,e]
 simp
theorem qk3 {W:Avoid}{v1 v2:Value}{d1 d2:D}{st:Option Addr}(G:Gr1 g P)(B:ub4 g)(C:CodeHd g.h 182 178)(at_:At g (n+1) A O M W F s)(T:TabAt s.heap 178 ju0 foldQual st)(tw:TabW W 178 st)(rv1:Rd O M s.heap 0 v1 d1)(rv2:Rd O M s.heap 0 v2 d2)
  (q:∀f s' W' c' v1' v2',Eff W F s W' s'->TabAt s'.heap 178 ju0 foldQual (some c')->TabW W' 178 (some c')->qd7 s'.heap f v1' v2' (.ref a) W'->Rd (λb=>O b\/W' b) M s'.heap 0 v1' d1->Rd (λb=>O b\/W' b) M s'.heap 0 v2' d2->R (.ok (.ret (.ref f))) s') :
  codeAny g.M A (.call (.ref 183) ⟨[v1,v2,.ref a],[]⟩) R s:=by
 have fk:=heav1 P
 rw [<- G.k] at fk
 refine qu0 (ds:=[d1,d2,objD a]) at_ fk (.cons rv1 (.cons rv2 (.cons .obj .nil))) rfl rfl rfl λenv Pp O' s_2 r hc hq hk=>?_
 revert r
 (show let c:Fx:=_; Run c _ _ _ _ _->_)
 intro c r
 ((show let Q0:=_; wpAny _ _ _ Q0 _ _); intro Q0)
 have hp1:((((⟨(fnOf "_law_heavier").2.1,[]⟩:Rho).put "short" d1 0).put "long" d2 0).put "ahead" (objD a) 0).is "short" d1:=rfl
 have hp2:((((⟨(fnOf "_law_heavier").2.1,[]⟩:Rho).put "short" d1 0).put "long" d2 0).put "ahead" (objD a) 0).is "long" d2:=rfl
 have hp3:((((⟨(fnOf "_law_heavier").2.1,[]⟩:Rho).put "short" d1 0).put "long" d2 0).put "ahead" (objD a) 0).is "ahead" (objD a):=rfl
 have hsc:((((⟨(fnOf "_law_heavier").2.1,[]⟩:Rho).put "short" d1 0).put "long" d2 0).put "ahead" (objD a) 0).sc=(fnOf "_law_heavier").2.1:=rfl
 generalize ((((⟨(fnOf "_law_heavier").2.1,[]⟩:Rho).put "short" d1 0).put "long" d2 0).put "ahead" (objD a) 0)=ρ at hp1 hp2 hp3 hsc r
 have hkd:∀x,(x=("ahead":Str)\/x=("long":Str)\/x=("short":Str))->env.kindOf x=some .cell:=λx hx=>by
  have:=r.act.eo.sc
  unfold Env.kindOf
  rw [this,hsc]
  rcases hx with rfl | rfl | rfl <;> rfl
 have hkf:env.kindOf "_law_fold"=some .local:=by
  have:=r.act.eo.sc
  unfold Env.kindOf
  rw [this,hsc]; rfl
 have cellOf:∀(x:Str) (d:D) (ρ':Rho) (O' M':Avoid) (h:Heap),(x=("ahead":Str)\/x=("long":Str)\/x=("short":Str))->EnvOk O' M' ρ' env h->ρ'.is x d->∃cell v',env.cells.lookup x=some cell/\h.IsCell cell (some v')/\Rd O' M' h 0 v' d:=λx d ρ' O' M' h hx eo hp=>by
  obtain⟨v',hv,hr,_⟩:=eo.vars x d 0 hp
  rcases hv with ⟨a,_⟩ | ⟨_,c,b,e⟩
  ·rw [hkd x hx] at a; cases a
  ·exact⟨c,v',b,e,hr⟩
 have T2:TabAt s_2.heap 178 ju0 foldQual st:=T.keeps tw λb o zw=>hk b o
 obtain⟨cl,hcl,c1,c2,c3⟩:=jl8 (env:=env) (scope:=foldDef.2.2.2.1) λx hx=>by
  rcases(js4 x).mp hx with rfl | rfl | rfl
  ·obtain⟨cell,v',h,_⟩:=cellOf _ _ _ _ _ _ (.inl rfl) r.act.eo hp3
   rw [h]; rfl
  ·obtain⟨cell,v',h,_⟩:=cellOf _ _ _ _ _ _ (.inr (.inl rfl)) r.act.eo hp2
   rw [h]; rfl
  ·obtain⟨cell,v',h,_⟩:=cellOf _ _ _ _ _ _ (.inr (.inr rfl)) r.act.eo hp1
   rw [h]; rfl
 conv in (fnOf _).1=>whnf
 have hqual:qualnameIn env "_law_fold" "_law_fold"=foldQual:=by
  unfold qualnameIn
  rw [hkf,hq]; rfl
 refine wpAny_execs_cons (nestDef_K rfl rfl rfl ?_)
 rw [hqual]
 refine r.makeDef B hc C T2 tw hcl λf c' W' s' md hf=>?_
 ((show let Q0:=_; wpAny _ _ _ Q0 _ _); intro Q0)
 refine md.run.store (d:=objD f) (jj9 hsc rfl) .obj λs_3 c_3 r_3=>?_
 ((show let Q0:=_; wpAny _ _ _ Q0 _ _); intro Q0)
 have hW3:∀b o,W' b->s'.heap.get? b=some o->s_3.heap.get? b=some o:=md.run.same c_3
 refine wpAny_execs_cons (wpAny_Return_some (r_3.nameA Rho.is_put (by decide) ?_))
 obtain⟨k3,v3',e31,e32,e33⟩:=cellOf _ _ _ _ _ _ (.inl rfl) r_3.act.eo (Rho.is_ne hp3 rfl)
 obtain⟨k2,v2',e21,e22,e23⟩:=cellOf _ _ _ _ _ _ (.inr (.inl rfl)) r_3.act.eo (Rho.is_ne hp2 rfl)
 obtain⟨k1,v1',e11,e12,e13⟩:=cellOf _ _ _ _ _ _ (.inr (.inr rfl)) r_3.act.eo (Rho.is_ne hp1 rfl)
 have:=jb0 e33; subst this
 have hPc:∀x k,(x=("ahead":Str)\/x=("long":Str)\/x=("short":Str))->env.cells.lookup x=some k->Pp k:=λx k hx hl=>by
  have:=r.pl.store x (.inr (hkd x hx))
  unfold jl3 at this
  rw [hkd x hx,hl] at this
  exact this
 have p3:=hPc _ _ (.inl rfl) e31
 have p2:=hPc _ _ (.inr (.inl rfl)) e21
 have p1:=hPc _ _ (.inr (.inr rfl)) e11
 have apart:∀x y k,env.cells.lookup x=some k->env.cells.lookup y=some k->x=y:=λx y k=>r.act.eo.apart x y k
 obtain⟨doc,pm,ctv,hf⟩:=hf
 have oc:∀k v,s_3.heap.IsCell k v->∃o,s_3.heap.get? k=some o:=λk v e2=>by obtain⟨o,e,_⟩:=e2; exact⟨o,e⟩
 refine q f s_3 (λb=>W' b\/b=k1\/b=k2\/b=k3) c' v1' v2' ⟨r_3.cx,λb hb=>.inl (md.sub b hb),λb hb=>?_,λb hb=>?_⟩ (md.tab.keeps md.tw hW3) ⟨.inl md.tw.1,.inl md.tw.2⟩ ⟨cl,doc,pm,ctv,c',k1,k2,k3,hW3 _ _ md.fw hf,CodeRec.via md.tab.2 λo=>hW3 _ o md.tw.2,⟨?_,?_,?_⟩,λx k hx=>?_,⟨e12,e22,e32⟩,⟨λz=>?_,λz=>?_,λz=>?_⟩,.inl md.fw,.inl md.tw.2,.inr (.inl rfl),.inr (.inr (.inl rfl)),.inr (.inr (.inr rfl))⟩ ?_ ?_
 ·rcases hb with hb | rfl | rfl | rfl
  ·exact r_3.ww b hb
  ·exact .inr (r.np _ p1)
  ·exact .inr (r.np _ p2)
  ·exact .inr (r.np _ p3)
 ·rcases hb with hb | rfl | rfl | rfl
  ·exact r_3.act.aO b (r_3.wo b hb)
  ·exact oc _ _ e12
  ·exact oc _ _ e22
  ·exact oc _ _ e32
 ·rw [c2 _ ((js4 _).mpr (.inr (.inr rfl)))]; exact e11
 ·rw [c2 _ ((js4 _).mpr (.inr (.inl rfl)))]; exact e21
 ·rw [c2 _ ((js4 _).mpr (.inl rfl))]; exact e31
 ·have hx':=c1 x k hx
  rcases(js4 x).mp (c3 x k hx) with rfl | rfl | rfl
  ·rw [e31] at hx'; cases hx'; exact .inr (.inr ⟨rfl,rfl⟩)
  ·rw [e21] at hx'; cases hx'; exact .inr (.inl ⟨rfl,rfl⟩)
  ·rw [e11] at hx'; cases hx'; exact .inl ⟨rfl,rfl⟩
 ·exact absurd (apart _ _ _ e11 (z ▸ e21)) (by decide)
 ·exact absurd (apart _ _ _ e11 (z ▸ e31)) (by decide)
 ·exact absurd (apart _ _ _ e21 (z ▸ e31)) (by decide)
 ·refine e13.imp (λb zw h z=>h ?_) (λb zw h zw z=>h (r_3.oo b (.inr (.inl z)))) (Nat.le_refl 0)
  rcases z with z | z | z | z | z
  ·exact r_3.oo b (.inl z)
  ·exact r_3.wo b z
  ·rw [z]; exact r_3.pl.po _ p1
  ·rw [z]; exact r_3.pl.po _ p2
  ·rw [z]; exact r_3.pl.po _ p3
 ·refine e23.imp (λb zw h z=>h ?_) (λb zw h zw z=>h (r_3.oo b (.inr (.inl z)))) (Nat.le_refl 0)
  rcases z with z | z | z | z | z
  ·exact r_3.oo b (.inl z)
  ·exact r_3.wo b z
  ·rw [z]; exact r_3.pl.po _ p1
  ·rw [z]; exact r_3.pl.po _ p2
  ·rw [z]; exact r_3.pl.po _ p3
section
theorem qz2 {ifs:List Expr}{rest:List Comprehension}{scope:Scope}{cp:Pos}{use:Option (Value->Sem Unit)}{tt:Bool}{items:List D}{outs:List (List D)}{xs:List Str}{body:Addr->Env->Sem Unit}
  (rm:Room n A) (hform:∀it Z env',compTurn (.ListComp elt (⟨target,iter,ifs,0⟩::rest) scope cp) 0 it (.ref Z) env'=ju7 (.ListComp elt (⟨target,iter,ifs,0⟩::rest) scope cp) 0 it (.ref Z) env' iter.pos target ifs (body Z env'))
  (hs:∀x,foldedSetIterable iter env x=pure x) (hkind:scope.kind=.function) (ok:jf1 ρ scope.names=true) (I:ql9 g n O M ρ tt iter items) (htt:Tgt tt target) (hn:jb3 target=some xs) (hst:jd8 scope.names xs=true) (hlen:outs.length=items.length)
  (hit:∀O' P env' Z,Place g O' P env' Z scope.names->∀(i:Nat) (d:D) (out:List D),items[i]?=some d->outs[i]?=some out->∃ρ' b,ItemS g n A O' M P env' Z (body Z env') target ifs (ρ.inner scope.names) d out ρ' b)
  (hcap:outs.flatten.length<=cap) (u:g.Up s) (aO:Alloc O s) (aM:Alloc M s) (eo:EnvOk O M ρ env s.heap)
  (hq:∀Z C t' m,Keeps s t'->t'.heap.Ns C m->s.heap.get? C=none->s.heap.get? Z=none->Rd O M t'.heap 0 (.ref Z) (.list outs.flatten)->compPost g.M A E use Q (.ref Z) C (.ok .next) t') :
  wpAny g.M A (comprehension (.ListComp elt (⟨target,iter,ifs,0⟩::rest) scope cp) scope env pos (newList []) false (eval iter env) use) Q E s:=by
 obtain⟨cl,hcl,c1,c2,c3⟩:=jl8 (env:=env) (scope:=scope) λx hx=>by
  obtain⟨d,k,c,v,_,h2,_⟩:=jn3 eo ok hx
  rw [h2]; rfl
 refine wpAny_comprehension_free (M:=g.M) rfl hs hcl hkind (λx hx hl=>by obtain⟨y,k⟩:=x; subst hl; exact(jg6 ok hx).1) ?_
 refine I env A s E _ u rm aO aM eo λit s_1 W St k_1 it1=>?_
 ((show let Q0:=_; let E0:=_; wpAny _ _ _ Q0 E0 _); intro Q0 E0)
 refine wpAny_newObj_type (jq6 λh_1 cs lay=>wpAny_pure ?_)
 generalize hH:s_1.heap.push { cls:=.type "list",dict:=none,data:=.seq ([]:List Value).toArray }=H at lay ⊢
 have hHs:H.objs.size=s_1.heap.objs.size+1:=by rw [<- hH,Heap.size_push]
 have hZ:IsL H s_1.heap.objs.size #[] 0:=by rw [<- hH]; exact IsL.new _ _
 have hkH:∀b o,s_1.heap.get? b=some o->H.get? b=some o:=λb o e=>by rw [<- hH]; exact Heap.get?_push_of_some _ e
 have k_2:Keeps s_1 { s_1 with heap:=h_1,toks:=s_1.toks }:=⟨h_1,_,rfl,λb o e=>lay.keep _ _ (hkH _ _ e)⟩
 generalize hcenv:({ newEnv scope H.objs.size env.globals cs env.qual none .none (some env) builtinsNs with scope:=relabel scope env }:Env)=cenv
 revert hcenv
 revert cenv
 refine id ?_
 intro cenv hcenv
 have n1:cenv.scope.kind=.function:=by rw [<- hcenv]; exact hkind
 have n2:cenv.globals=mainGlobals:=by rw [<- hcenv]; exact eo.gl
 have n3:cenv.builtins=builtinsNs:=by rw [<- hcenv]; exact eo.bl
 have n4:cenv.scope.names=jg8 ρ.sc scope.names:=by rw [<- hcenv]; exact jr3 eo scope
 have n5:cenv.cells=cs:=by rw [<- hcenv]; rfl
 have n6:cenv.locals=H.objs.size:=by rw [<- hcenv]; rfl
 let P:Avoid:=λb=>b=s_1.heap.objs.size\/b=H.objs.size\/∃x,(x,NameKind.cell)∈scope.names/\cs.lookup x=some b
 have hPge:∀b,P b->@LE.le Nat _ s_1.heap.objs.size b:=λb hb=>by
  rcases hb with hb | hb | ⟨x,hx,hc⟩
  ·rw [hb]; exact Nat.le_refl _
  ·rw [hb,hHs]; exact Nat.le_succ _
  ·rcases lay.look x with ⟨c,h1,h2,_⟩ | ⟨h1,_⟩
   ·rw [hc] at h1; cases h1; rw [hHs] at h2; omega
   ·exact absurd hx h1
 have hPn:∀b,P b->s_1.heap.get? b=none:=λb hb=>je5 (ja3 s_1) (hPge b hb)
 have hPs:∀b,P b->s.heap.get? b=none:=λb hb=>je5 k_1 (hPge b hb)
 let O':Avoid:=λb=>O b\/W b\/P b
 have hW:∀b,W b->s.heap.get? b=none:=λb hb=>(it1.wnew b hb).1
 have kn:∀x,cenv.kindOf x=(scope.names.lookup x).map λk=>if (k==.free && ρ.sc.lookup x==some .cell) then .cell else k:=λx=>by unfold Env.kindOf; rw [n4]; exact jf4 _ _ _
 have live:∀(t:Shared) ys,FrameOk cenv t.heap->AccAt t.heap s_1.heap.objs.size ys->∀b,P b->∃o,t.heap.get? b=some o:=λt ys fo acc b hb=>by
  rcases hb with hb | hb | ⟨x,hx,hc⟩
  ·obtain⟨m,e⟩:=acc; exact⟨_,hb ▸ e⟩
  ·obtain⟨m,o,_,_,e,_⟩:=fo.ns; exact⟨o,by rw [hb,<- n6]; exact e⟩
  ·obtain⟨c,v,e1,o,e2,_⟩:=fo.cell x (by rw [kn x,(jg6 ok hx).1]; rfl)
   rw [n5,hc] at e1; cases e1
   exact⟨o,e2⟩
 have pl:Place g O' P cenv s_1.heap.objs.size scope.names:=by
  refine⟨.inl rfl,λb hb=>.inr (.inr hb),λb o e hb=>?_,λx hx=>?_,live⟩
  ·have:=u b o e; rw [hPs b hb] at this; cases this
  ·rcases hx with hx | hx
   ·have e:cenv.kindOf x=some .local:=by rw [kn x,hx]; rfl
    refine⟨.inl e,.inr (.inl ?_)⟩
    unfold jl3; rw [e]; exact n6
   ·have e:cenv.kindOf x=some .cell:=by rw [kn x,hx]; rfl
    refine⟨.inr e,.inr (.inr ⟨x,mem_of_lookup hx,?_⟩)⟩
    unfold jl3; rw [e]
    rcases lay.look x with ⟨c,h1,h2,_⟩ | ⟨h1,_⟩
    ·rw [n5,h1]; rfl
    ·exact absurd (mem_of_lookup hx) h1
 have eoH:EnvOk O' M ρ env H:=((eo.wid (O':=O') λb hb=>by
  rcases hb with hb | hb | hb
  ·exact .inl hb
  ·exact .inr (hW b hb)
  ·exact .inr (hPs b hb)).keeps (ja0 k_1)).keeps hkH
 obtain⟨eo',fo'⟩:=qk1 (O':=O') (env':=cenv) (t:=h_1) eoH ok lay c1 c2 c3 n1 n2 n3 n4 n5 n6 (λzw zw e=>e) λb hb=>.inl hb
 have kk:Keeps s { s_1 with heap:=h_1,toks:=s_1.toks }:=ja1 k_1 k_2
 have st1:St 0 h_1:=it1.frame _ _ _ it1.start λb o zw zw zw e=>ja0 k_2 b o e
 have acc1:AccAt h_1 s_1.heap.objs.size #[]:=⟨0,lay.keep _ _ hZ⟩
 have aO':Alloc O' { s_1 with heap:=h_1,toks:=s_1.toks }:=λb hb=>by
  rcases hb with hb | hb | hb
  ·exact aO.keeps kk b hb
  ·obtain⟨o,e⟩:=(it1.wnew b hb).2; exact⟨o,ja0 k_2 _ _ e⟩
  ·exact live _ _ fo' acc1 b hb
 have nC:s.heap.get? H.objs.size=none:=hPs _ (.inr (.inl rfl))
 have loop:codeAny g.M A (.compLoop (.ListComp elt (⟨target,iter,ifs,0⟩::rest) scope cp) 0 it (.ref s_1.heap.objs.size) cenv) (compPost g.M A E use Q (.ref s_1.heap.objs.size) H.objs.size) { s_1 with heap:=h_1,toks:=s_1.toks }:=by
  refine qa2 (O0:=O) (O:=O') (M0:=M) (M:=M) (W:=W) (P:=P) (s:=s) (s_1:=s_1) (St:=St) (ρ:=ρ.inner scope.names) (outs:=outs) (ys0:=#[]) (hform _ _ _) rm it1 ⟨λb h=>.inl h,λb hb=>by
    rcases hb with hb | hb | hb
    ·exact .inl hb
    ·exact .inr (.inl hb)
    ·exact .inr (.inr (hPn b hb))⟩ Wid.refl (λb h=>.inr (.inl h)) htt hn (λx hx=>pl.store x (jg1 hst hx)) (λx hx=>jt8 (jg1 hst hx))
   pl.o (λb hb=>.inr (hPn b hb)) (λb hb hw=>by obtain⟨o,e⟩:=(it1.wnew b hw).2; rw [hPn b hb] at e; cases e) (λb o e=>⟨pl.g b o e,λhw=>by have:=u b o e; rw [hW b hw] at this; cases this⟩) pl.z live hlen
   (λi d out h1 h2=>hit O' P cenv _ pl i d out h1 h2) (by simpa using hcap) (Chg.of_keeps kk) st1 acc1 eo' fo' (u.keeps kk) aO' (aM.keeps kk) ?_
  intro t' vs ch acc' rds eo'' fo'' u' al
  have kt:Keeps s t':=by
   obtain⟨⟨h,tk,e⟩,k⟩:=ch
   refine⟨h,tk,e,λb o eb=>?_⟩
   have:=k b o (λhb=>by rw [hPs b hb] at eb; cases eb) eb
   rw [e] at this; exact this
  obtain⟨m,hm⟩:=fo''.ns
  rw [n6] at hm
  obtain⟨q,hacc⟩:=acc'
  have hl:=rds.length
  refine hq _ _ t' m kt hm nC (jc2 k_1) (.list (λz=>?_) (λzw z=>?_) ?_ hacc ?_)
  ·obtain⟨o,e⟩:=aO _ z; rw [hPs _ (.inl rfl)] at e; cases e
  ·obtain⟨o,e⟩:=aM _ z; rw [hPs _ (.inl rfl)] at e; cases e
  ·have e:(#[]++vs.toArray).size=vs.length:=by simp
   rw [e,hl]; exact hcap
  ·simp only [Array.empty_append]
   exact rds.imp (λb zw h z=>h (.inl z)) (λzw zw zw a=>a) (Nat.le_refl _)
 exact jn7 (c:=⟨target,iter,ifs,0⟩) rfl rfl loop λE'=>it1.self _ _ _ st1 loop
theorem qo7 {xs:List Int}(ev:EvS g n ρ e (objD a) k)(I:Ints g.h a xs)(hO:¬O a)(hM:¬M a):ql9 g n O M ρ false e (xs.map .int):=by
 intro env A s E Q u rm aO aM eo q
 ((show let Q0:=_; wpAny _ _ _ Q0 _ _); intro Q0)
 refine ev.use u rm aO aM eo λv sa k_1 r_1 u_1 o_1 m_1 e_1=>?_
 have:=jb0 r_1; subst this
 obtain⟨vs,m,h1,h2,h3⟩:=I.keeps λo=>u_1 a o
 have hlen:=h3.length
 rw [Array.length_toList] at hlen
 have k_2:Keeps sa { sa with heap:=sa.heap.push { cls:=.type "list_iterator",data:=.fields #[.ref a,.int 0 0] } }:=ja6 sa _ _
 have hne:a≠sa.heap.objs.size:=λz=>by
  have h1':=h1
  rw [z] at h1'
  exact absurd (Heap.lt_size h1') (Nat.lt_irrefl _)
 refine wpAny_pyIter_list (IsL.isList h1) (q _ _ (λb=>b=sa.heap.objs.size) (λi h=>h.IsListIter sa.heap.objs.size a i/\IsL h a vs m) (ja1 k_1 k_2) ⟨⟨⟨_,Heap.get?_push_size _ rfl,rfl,rfl⟩,ja0 k_2 _ _ h1⟩,λb hb=>by subst hb; exact⟨jc2 k_1,_,Heap.get?_push_size _ rfl⟩,λi h st b hb=>by
   subst hb
   obtain⟨o,ho,hc,hd⟩:=st.1
   exact⟨o,ho,by unfold isFS; rw [hd]⟩,λi h h' st hk=>?_,?_,?_,?_⟩)
 ·obtain⟨⟨o,ho,hr⟩,hl⟩:=st
  exact⟨⟨o,hk _ _ o_1.new m_1.new ⟨_,Heap.get?_push_size _ rfl⟩ ho,hr⟩,hk _ _ hO hM ⟨_,ja0 k_2 _ _ h1⟩ hl⟩
 ·intro O' M' i d t target E' Q' wd' wd htg hd st aO' aM' q'
  ((show let Q0:=_; wpAny _ _ _ Q0 _ _); intro Q0)
  obtain⟨v,hv,hr⟩:=h3.get hd
  rw [List.getElem?_map,Option.map_eq_some_iff] at hd
  obtain⟨x,hx,rfl⟩:=hd
  obtain⟨tk,rfl⟩:=ja4 hr
  refine wpAny_pyNext_list_item st.1 (IsL.isList st.2) (by rw [<- Array.getElem?_toList]; exact hv) λh' hit' hs'=>⟨_,rfl,?_⟩
  exact jd5 htg (q' _ { t with heap:=h' } ⟨⟨h',t.toks,rfl⟩,λb o hb e=>hs'.extBut b o hb e⟩ .int ⟨hit',hs'.extBut a _ hne st.2⟩)
 ·intro t E' Q' st q'
  exact wpAny_pyNext_list_end rm.handled st.1 (IsL.isList st.2) (by rw [<- hlen]; simp) λh' he'=>q' _ ⟨⟨h',t.toks,rfl⟩,λb o hb e=>he' b o hb e⟩
 ·intro t E' Q' st q'
  exact wpAny_pyIter_listiter st.1 q'
theorem ev_compW {ρ1:Rho}{R:Ev}{b:Addr}{xs res:List Int}{tn:Str}{tp cp:Pos}{scope:Scope}{outs:List (List D)}(okR:R.Ok g n)(ev:EvS g n ρ1 iter (objD b) k)(I:Ints g.h b xs)(hsc:ρ1.sc=ρ.sc)(hsub:∀y d k,ρ1.vars.lookup y=some (d,k)->ρ.vars.lookup y=some (d,k)/\k=0)(hs:jh4 iter=true)
  (hk:scope.kind=.function) (ok:jf1 ρ1 scope.names=true) (hi:jd8 scope.names [tn]=true) (hm:mapO (jz0 R elt (.Name tn tp) [] (ρ1.inner scope.names)) (xs.map .int)=some outs) (hres:outs.flatten=res.map .int) (hz:res.length<=cap):EvS g n ρ (.ListComp elt [⟨.Name tn tp,iter,[],0⟩] scope cp) (.list (res.map .int)) 0:=by
 intro O M env A s E u rm aO aM eo
 rw [eval_ListComp]
 obtain⟨h1,h2⟩:=je9 hm
 have eo1:EnvOk (λx=>O x/\x≠b) No ρ1 env s.heap:=⟨eo.kind,eo.gl,eo.bl,eo.sc.trans hsc.symm,eo.apart,λy d k hy=>by
  obtain⟨hy,rfl⟩:=hsub y d k hy
  obtain⟨v,h1,h2,h3⟩:=eo.vars y d 0 hy
  exact⟨v,h1,h2.imp (λb zw h z=>h z.1) (λzw zw zw zw z=>z) (Nat.le_refl 0),λz=>absurd rfl z⟩⟩
 refine qz2 (g:=g) (n:=n) (use:=none) (ρ:=ρ1) (O:=λx=>O x/\x≠b) (M:=No) (tt:=false) (items:=xs.map .int) (outs:=outs) (xs:=[tn]) rm (λit Z env'=>jq7 ..) (jd3 hs env) hk ok
  (qo7 ev I (λz=>z.2 rfl) id) ⟨_,_,rfl⟩ rfl hi h1 (λO' P env' Z pl i d out a b=>(js0 okR (h2 i d out a b)).item rm pl) (by rw [hres,List.length_map]; exact hz) u (λb h=>aO b h.1) (λzw h=>h.elim) eo1 λZ C t' m k hm hC hZ rd=>?_
 rw [hres] at rd
 refine⟨m,hm,λh' hs'=>?_⟩
 have rd':=rd.seqs λb c vs q e=>hs'.extBut b _ (jj0 hm e) e
 obtain⟨z,hz,hI,_⟩:=qe9 rd'
 have hz:Z=z:=by cases hz; rfl
 subst hz
 have kk:=jl0 k hC hs'
 refine⟨kk,hI.rd (λz=>?_) λz=>?_⟩
 ·obtain⟨o,e⟩:=aO _ z; rw [hZ] at e; cases e
 ·obtain⟨o,e⟩:=aM _ z; rw [hZ] at e; cases e
theorem ev_look {kvs:List (Int×Value)}{k:Int}{b:Addr}{y:Str}{p1 p2 p3:Pos}{kk:Nat}(I:g.h.DictOf (intKind g.prog g.w) a kvs)(hv:valueAt kvs k=some (.ref b))(hx:ρ.is x (objD a))(hdx:(x==("__debug__":Str))=false)(hy:ρ.is y (.int k))(hdy:(y==("__debug__":Str))=false):EvS g n ρ (.Subscript (.Name x p1) (.Name y p2) p3) (objD b) kk:=by
 intro O M env A s E u rm aO aM eo
 ((show let Q0:=_; wpAny _ _ _ Q0 _ _); intro Q0)
 refine Subscript_ ((jb8 (k:=0) hx hdx).use u rm aO aM eo λva s_1 k_1 r_1 u_1 o_1 m_1 e_1=>(jb8 (k:=0) hy hdy).use u_1 rm o_1 m_1 e_1 λvb s_2 k_2 r_2 u_2 o_2 m_2 e_2=>?_)
 ((show let Q0:=_; wpAny _ _ _ Q0 _ _); intro Q0)
 have:=jb0 r_1; subst this
 obtain⟨t,rfl⟩:=ja4 r_2
 have hm:s_2.heap.DictOf (intKind g.prog g.w) a kvs:=I.keep u_2
 exact tail_any (T:="dict") hm.typeIs slot_dict_getitem.lookup (wpAny_getItem_of (intKind_is g.prog g.w k t) hm.mapOf hv ⟨ja1 k_1 (ja1 k_2 (ja5 _ _)),.obj⟩) (jc4 rfl _ _)
noncomputable def augVal:Stmt->Expr
 | .AugAssign _ _ e _=>e
 | _=>.Constant .none 0 default
noncomputable def callArg:Expr->Expr
 | .Call _ (e::_) _ _=>e
 | _=>.Constant .none 0 default
noncomputable def binL:Expr->Expr
 | .BinOp e _ _ _=>e
 | _=>.Constant .none 0 default
noncomputable def foldComp:Expr:=binL (callArg (augVal (foldFn.1.getD 1 noSt)))
structure FN (a:Addr) (best:List Int) (k:Int) (ρ:Rho):Prop where
 sc:ρ.sc=foldFn.2.1
 be:ρ.is "best" (.list (best.map .int))
 pa:ρ.is "pair" (.int k)
 ah:ρ.is "ahead" (objD a)
open Classical in
noncomputable def hookF (a:Addr) (best:List Int) (k:Int) (res:List Int) (ρ:Rho):Expr->Option DK
 | .ListComp el gs sc p=>if Expr.ListComp el gs sc p=foldComp/\FN a best k ρ then some (.list (res.map .int),0) else none
 | _=>none
noncomputable abbrev TF (a:Addr) (best:List Int) (k:Int) (res:List Int):Tab:=⟨λzw zw=>none,hookF a best k res⟩
theorem ub5 {k:Int}{b:Addr}{xs:List Int}:∀{es:List (Int×Addr×List Int)},(es.map (·.1)).Nodup->(k,b,xs)∈es->valueAt (es.map λe=>(e.1,Value.ref e.2.1)) k=some (.ref b)
 | [],_,h=>by cases h
 | e::es,hn,h=>by
  rw [List.map_cons,List.nodup_cons] at hn
  unfold valueAt
  rw [List.map_cons,List.find?_cons]
  by_cases he:e.1=k
  ·have:e=(k,b,xs):=by
    rcases List.mem_cons.mp h with h | h
    ·exact h.symm
    ·exact absurd (List.mem_map.mpr ⟨_,h,rfl⟩) (by rw [<- he] at h; exact he ▸ hn.1)
   subst this
   simp
  ·rw [show decide ((e.1,Value.ref e.2.1).1=k)=false from decide_eq_false he]
   rcases List.mem_cons.mp h with h | h
   ·exact absurd (by rw [<- h]) he
   ·exact ub5 hn.2 h
open Classical in
theorem TF_ok {es:List (Int×Addr×List Int)}{best:List Int}{k:Int}{b:Addr}{xs:List Int}(hn:1<=n)(N:Names g)(I:AhAt g g.h a es)(hk:(k,b,xs)∈es)(hnd:(es.map (·.1)).Nodup)(hx:∀x∈xs,0<=x/\x < best.length)(hz:xs.length<=cap):TabOk (TF a best k (xs.map λo=>best.getD o.toNat 0)) g n where
 call:=λzw zw zw h=>(by cases h)
 hook:=λρ e d kk h=>by
  cases e with
  | ListComp el gs sc p =>
   have h:(if Expr.ListComp el gs sc p=foldComp/\FN a best k ρ then some (PyData.list ((xs.map λo=>best.getD o.toNat 0).map .int),0) else none)=some (d,kk):=h
   split at h
   ·rename_i hc
    obtain⟨he,F⟩:=hc
    cases h
    rw [he]
    have hv:valueAt (es.map λe=>(e.1,Value.ref e.2.1)) k=some (.ref b):=ub5 hnd hk
    have w:(λzw=>foldComp) ρ=foldComp:=rfl
    conv in foldComp=>whnf
    refine ev_compW (ρ1:=⟨foldFn.2.1,[("best",(.list (best.map .int),0)),("ahead",(objD a,0)),("pair",(.int k,0))]⟩) (R:=Ev.at T0 12) (b:=b) (xs:=xs) (k:=0) (outs:=xs.map λo=>[.int (best.getD o.toNat 0)]) (jq1 hn N qx4 12) (ev_look I.dict hv rfl rfl rfl rfl) (I.lst _ hk) F.sc.symm (λy d k hy=>?_) rfl rfl rfl rfl ?_ ?_ (by rw [List.length_map]; exact hz)
    ·have:=PySem.mem_of_lookup hy
     simp only [List.mem_cons,List.not_mem_nil,or_false,Prod.mk.injEq] at this
     rcases this with ⟨rfl,rfl,rfl⟩ | ⟨rfl,rfl,rfl⟩ | ⟨rfl,rfl,rfl⟩
     ·exact⟨F.be,rfl⟩
     ·exact⟨F.ah,rfl⟩
     ·exact⟨F.pa,rfl⟩
    ·refine jn0 λo ho=>jk9 (r_ix rfl rfl (ja2 rfl rfl (jo0 (jo6 rfl rfl) rfl)) (ja2 rfl rfl jm6) ?_)
     obtain⟨h0,h1⟩:=hx o ho
     obtain⟨z,rfl⟩:=Int.eq_ofNat_of_zero_le h0
     have hz:z < best.length:=by omega
     refine uh5 ?_
     rw [List.getElem?_map,List.getElem?_eq_getElem hz,List.getD_eq_getElem?_getD,show(z:Int).toNat=z from rfl,List.getElem?_eq_getElem hz]; rfl
    ·rw [jd4,List.map_map]; rfl
   ·cases h
  | _=>cases h
end
section
theorem bt_max {is:List Int}(h:is≠[]):btD "max" [.list (is.map .int)]=some (.int (maxI is)):=by
 exact(show lsI (λis=>if is≠[] then some (.int (maxI is)) else none) (.list (is.map .int))=_ from(bO (toInts_map is)).trans (if_pos h))
noncomputable abbrev behA (M:List Bool) (k:Nat):List Int:=((ahS M 15).lookup (k:Int)).getD []
theorem beh_in {M:List Bool}(hk:k < 15)(hM:M.getD k false=true):∀x∈behA M k,0<=x/\x < 15:=λx hx=>by
 obtain⟨j,hj,_,rfl,_⟩:=(jw3 hM hk).mp hx
 omega
theorem r_hookC {T:Tab}{r:DK}(h:T.hook ρ e=some r):(Ev.at T (n+1)).e ρ e=some r:=by
 show orE (T.hook ρ e) id (qv3 T (Ev.at T n) ρ e)=some r
 rw [h]; rfl
open Classical in
theorem hookF_on {best res:List Int}{k:Int}(F:FN a best k ρ):hookF a best k res ρ foldComp=some (.list (res.map .int),0):=by
 conv=>lhs; arg 6; whnf
 exact if_pos ⟨rfl,F⟩
noncomputable def candF (M:List Bool) (best:List Int) (k:Nat):List Int:=(behA M k).map (λo=>best.getD o.toNat 0)++[0]
theorem ui7 {M:List Bool}{s l:List Nat}{best:List Int}(hb:best.length=15)(hs:s.length=3)(hl:l.length=5)(hk:k < 15)(hlen:(behA M k).length<=100) :
  jf8 (Ev.at (TF a best (k:Int) ((behA M k).map λo=>best.getD o.toNat 0)) 12) [] 40 ⟨foldFn.2.1,[("short",(natD s,0)),("long",(natD l,0)),("ahead",(objD a,0)),("best",(.list (best.map .int),0)),("pair",(.int (k:Int),0))]⟩ foldFn.1=some (.list ((js2 M s l best (k:Int)).map .int)):=by
 have hcap:cap=100000:=rfl
 have e5:((k:Nat):Int).fdiv 5=((k / 5:Nat):Int):=by
  rw [Int.fdiv_eq_ediv_of_nonneg _ (by decide)]; omega
 have m5:((k:Nat):Int).fmod 5=((k % 5:Nat):Int):=by
  rw [Int.fmod_eq_emod_of_nonneg _ (by decide)]; omega
 have hF:∀d,FN a best (k:Int) ⟨foldFn.2.1,[("short",(natD s,0)),("long",(natD l,0)),("ahead",(objD a,0)),("best",(.list (best.map .int),0)),("pair",(.int (k:Int),0)),("weight",d)]⟩:=λd=>⟨rfl,rfl,rfl,rfl⟩
 conv in foldFn.1=>whnf
 refine jh6 (e:=.int (ownW s l k)) rfl rfl rfl (r_if (t:=(s.getD (k / 5) 9==l.getD (k % 5) 9)) rfl ((ji0 rfl (r_ix (d:=.int ((s.getD (k / 5) 9:Nat):Int)) (z:=((k / 5:Nat):Int)) (kz:=0) rfl rfl (ja2 rfl rfl rfl) (je4 rfl (ja2 rfl rfl rfl) (je3 rfl) ?_) (qf5 (by omega))) (r_ix (d:=.int ((l.getD (k % 5) 9:Nat):Int)) (z:=((k % 5:Nat):Int)) (kz:=0) rfl rfl (ja2 rfl rfl rfl) (je4 rfl (ja2 rfl rfl rfl) (je3 rfl) ?_) (qf5 (by omega))) rfl).trans (congrArg some ?_)) ?_) ?_
 ·show some (PyData.int ((k:Int).fdiv 5),0)=_
  rw [e5]
 ·show some (PyData.int ((k:Int).fmod 5),0)=_
  rw [m5]
 ·show(((s.getD (k / 5) 9:Nat):Int)==((l.getD (k % 5) 9:Nat):Int))=_
  rw [Bool.eq_iff_iff,beq_iff_eq,beq_iff_eq]
  omega
 ·unfold ownW
  by_cases h:s.getD (k / 5) 9=l.getD (k % 5) 9
  ·rw [if_pos (by simpa using h),if_pos h]; exact je3 rfl
  ·rw [if_neg (by simpa using h),if_neg h]; exact je3 rfl
 refine jk2 (ρ':=⟨foldFn.2.1,[("short",(natD s,0)),("long",(natD l,0)),("ahead",(objD a,0)),("best",(.list (best.map .int),0)),("pair",(.int (k:Int),0)),("weight",(.int (sumW M s l best k),0))]⟩) rfl (s_aug (a:=.int (ownW s l k)) (b:=.int (maxI ((behA M k).map (λo:Int=>best.getD o.toNat 0)++[0]))) rfl rfl (ju9 (vs:=[(.list ((candF M best k).map .int),0)]) rfl rfl rfl (jf6 (je4 rfl (r_hookC (hookF_on (hF _))) (r_list (vs:=[(.int 0,0)]) rfl rfl (jf6 (je3 rfl)) ⟨rfl,by show 1<=cap; decide⟩) ((qa3 ⟨?_,by decide,by decide⟩).trans ?_))) rfl (bt_max (is:=candF M best k) (by simp [candF]))) rfl) ?_
 ·rw [List.length_map,List.length_map]; show _+1<=_; omega
 ·unfold candF; rw [List.map_append]; rfl
 refine jv3 rfl (qe6 (k:=0) (je4 rfl (je4 rfl (qr9 rfl (ja2 rfl rfl rfl) rfl (jg9 (ja2 rfl rfl rfl)) rfl ⟨by decide,by decide⟩) (r_list (vs:=[(.int (sumW M s l best k),0)]) rfl rfl (jf6 (ja2 rfl rfl rfl)) ⟨rfl,by show 1<=cap; decide⟩) (qa3 ⟨?_,by decide,by decide⟩)) (qr9 rfl (ja2 rfl rfl rfl) (jg9 (je4 (d:=.int ((k+1:Nat):Int)) rfl (ja2 rfl rfl rfl) (je3 rfl) rfl)) rfl rfl ⟨by decide,by decide⟩) ((qa3 ⟨?_,by decide,by decide⟩).trans ?_)))
 ·rw [jl4 _ _ (by rw [List.length_map]; omega),List.length_take,List.length_map]
  show _+1<=_; omega
 ·rw [jl4 _ _ (by rw [List.length_map]; omega),jp5 _ _ (by rw [List.length_map]; omega),List.length_append,List.length_take,List.length_drop,List.length_map]
  show _+1+_<=_; omega
 ·rw [jl4 _ _ (by rw [List.length_map]; omega),jp5 _ _ (by rw [List.length_map]; omega),<- List.map_take,<- List.map_drop]
  unfold js2
  rw [List.map_append,List.map_append]; rfl
end
theorem ql8 (M:List Bool):∀n,((ahS M n).map (·.1)).Nodup
 | 0=>List.nodup_nil
 | n+1=>by
  have ih:=ql8 M n
  rw [jj7]
  split
  ·rw [List.map_append,List.nodup_append]
   refine⟨ih,by simp,λx hx y hy=>?_⟩
   obtain⟨k,hk,_,rfl⟩:=key_mem.mp hx
   have:y=((n:Nat):Int):=by simpa using hy
   omega
  ·exact ih
theorem filt_len {M:List Bool}(hk:M.getD k false=true)(hn:k < n):(((ahS M n).lookup (k:Int)).getD []).length<=100\/100 < k:=by
 rw [qh3 hk n hn,Option.getD_some]
 have h1:=List.length_filter_le (λq:Int=>decide (q.fdiv 5 < ((k / 5:Nat):Int)) && decide (q.fmod 5 < ((k % 5:Nat):Int))) ((ahS M k).map (·.1))
 have h2:=jv5 M k
 rw [List.length_map] at h1
 omega
theorem lookI {α:Type}{k:Int}{v:α}:∀{l:List (Int×α)},l.lookup k=some v->(k,v)∈l
 | [],h=>by cases h
 | (a,b)::l,h=>by
  rw [List.lookup_cons] at h
  split at h
  ·rename_i e
   have e:=eq_of_beq e
   cases h; rw [e]; exact List.mem_cons_self ..
  ·exact List.mem_cons_of_mem _ (lookI h)
theorem ui6 {W:Avoid}{f:Addr}{v1 v2 v3 v4:Value}{M:List Bool}{sc lc:List Nat}{best:List Int}{es:List (Int×Addr×List Int)}(G:Gr1 g P)(hn:1<=n)(up:g.Up s)(rm:Room (n+1) A)(aO:Alloc O s)(F:qd7 s.heap f v1 v2 (.ref a) W)(I:AhAt g s.heap a es)(hes:es.map (λe=>(e.1,e.2.2))=ahS M 15)
  (hb:best.length=15) (hsl:sc.length=3) (hll:lc.length=5) (hk:k < 15) (hM:M.getD k false=true) (r1:Rd O No s.heap 0 v1 (natD sc)) (r2:Rd O No s.heap 0 v2 (natD lc)) (r3:Rd O No s.heap 0 v3 (.list (best.map .int))) (r4:Rd O No s.heap 0 v4 (.int (k:Int))) :
  wpAny g.M A (call (.ref f) [v3,v4]) (λv s'=>Keeps s s'/\Rd O No s'.heap 0 v (.list ((js2 M sc lc best (k:Int)).map .int))) E s:=by
 obtain⟨cl,doc,pm,ctv,c',k1,k2,k3,h1,h2,⟨c1,c2,c3⟩,h4,⟨e1,e2,e3⟩,⟨n1,n2,n3⟩,_⟩:=F
 have hcap:cap=100000:=rfl
 have hlk:=qh3 hM 15 hk
 have hmem:=lookI hlk
 rw [<- hes] at hmem
 obtain⟨e,he,hee⟩:=List.mem_map.mp hmem
 have hbeh:behA M k=e.2.2:=by
  show((ahS M 15).lookup (k:Int)).getD []=_
  rw [hlk,Option.getD_some]
  exact(congrArg Prod.snd hee).symm
 have hek:e.1=(k:Int):=congrArg Prod.fst hee
 have hme:((k:Int),e.2.1,behA M k)∈es:=by rw [hbeh,<- hek]; exact he
 have hnd:(es.map (·.1)).Nodup:=by
  have:=ql8 M 15
  rw [<- hes,List.map_map] at this
  exact this
 have hlen:(behA M k).length<=100:=(filt_len hM hk).elim id λh=>by omega
 have tok:TabOk (TF a best (k:Int) ((behA M k).map λo=>best.getD o.toNat 0)) (g.now s up) n:=TF_ok hn (G.names.now up) (⟨I.dict,I.lst,I.sys,I.ne⟩:AhAt (g.now s up) s.heap a es) hme hnd (λx hx=>by rw [hb]; exact beh_in hk hM x hx) (by omega)
 refine qb1 (g:=g.now s up) (n:=n) (params:=["best","pair"]) (clv:=[(("short":Str),natD sc),(("long":Str),natD lc),(("ahead":Str),objD a)]) (body:=foldFn.1) (Glob.now_up up) rm aO (λzw h=>h.elim) h1 rfl ⟨rfl,rfl,rfl,rfl,rfl,rfl⟩ h2 rfl (.cons r3 (.cons r4 .nil)) ⟨λx d hx=>?_,λx c hx=>?_,λx y c hx hy=>?_⟩ rfl rfl rfl (js6 (owns:=[]) (G.names.now up) (Callee.now up G.list) (jq1 hn (G.names.now up) tok 12) 40 (ui7 hb hsl hll hk hlen)).r λv s' k r=>⟨k,r⟩
 ·have:=PySem.mem_of_lookup hx
  simp only [List.mem_cons,List.not_mem_nil,or_false,Prod.mk.injEq] at this
  rcases this with ⟨rfl,rfl⟩ | ⟨rfl,rfl⟩ | ⟨rfl,rfl⟩
  ·exact⟨k1,v1,c1,e1,r1⟩
  ·exact⟨k2,v2,c2,e2,r2⟩
  ·exact⟨k3,.ref a,c3,e3,.obj⟩
 ·rcases h4 x c hx with ⟨rfl,_⟩ | ⟨rfl,_⟩ | ⟨rfl,_⟩
  ·exact⟨_,rfl⟩
  ·exact⟨_,rfl⟩
  ·exact⟨_,rfl⟩
 ·rcases h4 x c hx with ⟨rfl,z1⟩ | ⟨rfl,z1⟩ | ⟨rfl,z1⟩ <;> rcases h4 y c hy with ⟨rfl,z2⟩ | ⟨rfl,z2⟩ | ⟨rfl,z2⟩ <;> first | rfl | (subst z1; exact absurd z2 (by assumption)) | (subst z1; exact absurd z2.symm (by assumption))
section
noncomputable def lawB:List Stmt:=(fnOf "law").1
noncomputable def lawN:List (Str×NameKind):=(fnOf "law").2.1
noncomputable def je7 (i:Nat):Stmt:=lawB.getD i noSt
theorem law1 (P:Params):FnQ (K1 P) 188 lawB lawN ["script"] (.ref 187) "law" :=
 ⟨⟨_,_,_,_,rfl,⟨rfl,rfl,rfl,rfl,rfl,rfl⟩,rfl,by kernel_rfl,rfl,rfl,rfl,jv1 λzw=>rfl⟩,rfl⟩
noncomputable def qu1 (xs:List Int):List Int:=(jp2 xs none (some 12) none).map λx=>x.fmod 1000000
noncomputable def firsts:List Int:=[0,2,5,2,5,1,3,4]
noncomputable def uk9 (cs:List Int) (i:Nat):Int:=(firsts.getD i 0+(jp2 cs (some (i:Int)) none (some 8)).sum).fmod 6
noncomputable def ql3 (cs:List Int):List Int:=(List.range 8).map (uk9 cs)
section
variable {X:Rho->List Stmt->Option (Fl×Rho)} {ρ:Rho} {l:List (Str×D)} (H:Has lawN l ρ)
include H
theorem ua1 {xs:List Int}(hs:ρ.is "script" (.list (xs.map .int))):jc9 (Ev.at T0 12) X ρ (je7 0)=some (.next,ρ.put "cells" (.list ((qu1 xs).map .int)) 0):=by
 have e:(qu1 xs).map PyData.int=(((jp2 xs none (some 12) none).map λx=>[PyData.int (x.fmod 1000000)]).flatten):=by
  unfold qu1
  rw [jd4,List.map_map]; rfl
 rw [e]
 conv in je7 0=>whnf
 refine s_comp' (H.st rfl) (H.swaps rfl) (qn3 rfl (js5 (items:=(jp2 xs none (some 12) none).map .int) rfl ⟨rfl,rfl,rfl,rfl⟩ (qk2 rfl (r_cutL rfl (ja2 rfl rfl hs) rfl rfl rfl ⟨by decide,by decide⟩)) (jn0 λx zw=>jk9 (je4 rfl (ju9 (vs:=[(.int x,0)]) rfl rfl rfl (jf6 (ja2 rfl rfl jm6)) rfl rfl) (je4 rfl (je3 rfl) (je3 rfl) rfl) rfl)) ?_))
 rw [jd4,List.length_map]
 have:=qi3 xs
 have:cap=100000:=rfl
 omega
omit H in
theorem qz3 {cs:List Int}{d0:D}(H:Has lawN [("cells",.list (cs.map .int)),("script",d0)] ρ):jc9 (Ev.at T0 12) X ρ (je7 1)=some (.next,ρ.put "codes" (.list ((ql3 cs).map .int)) 0):=by
 have hs:ρ.is "cells" (.list (cs.map .int)):=H.is _ _ rfl
 have e:(ql3 cs).map PyData.int=(((List.range 8).map λi=>[PyData.int (uk9 cs i)]).flatten):=by
  unfold ql3
  rw [jd4,List.map_map]; rfl
 rw [e]
 conv in je7 1=>whnf
 refine s_comp (H.st rfl) (H.swaps rfl) ?_
 refine js5 (items:=(List.range 8).map λi:Nat=>.tuple [.int (i:Int),.int (firsts.getD i 0)]) rfl ⟨rfl,rfl,H.free rfl,rfl⟩ ?a (qf6 λi hi=>qy1 ?b) ?c
 case c=>show 8<=cap; decide
 case a=>cases ρ with | mk sc vars=>have hsc:sc=lawN:=H.sc; subst hsc; rfl
 case b =>
  exact(je4 rfl (je4 rfl (ja2 rfl rfl jm6) (ju9 (vs:=[(.list ((jp2 cs (some (i:Int)) none (some 8)).map .int),0)]) rfl rfl rfl (jf6 (r_cutL rfl (ja2 rfl rfl (jo0 (jo0 (jo6 rfl hs) rfl) rfl)) (jg9 (ja2 rfl rfl (jo0 jm6 rfl))) rfl (jg9 (je3 rfl)) ⟨by decide,by decide⟩)) rfl bt_sum) rfl) (je3 rfl) rfl)
end
end
theorem qs8 {prog:Program}{w:World}{h:Heap}:∀{vs:List Value} {kvs:List (Int×Value)},vs.length=kvs.length->(∀(j:Nat) (v:Value),vs[j]?=some v->∃k x,kvs[j]?=some (k,x)/\(intKind prog w).is k v=true)->Rds No No h 0 vs ((kvs.map (·.1)).map .int)
 | [],[],_,_=>.nil
 | v::vs,(k,x)::kvs,hl,hj=>by
  obtain⟨k',x',e,hi⟩:=hj 0 v rfl
  cases e
  obtain⟨t,rfl⟩:=Value.isInt_shape hi
  exact .cons .int (qs8 (by simpa using hl) λj v hv=>hj (j+1) v hv)
 | [],_::_,hl,_=>by cases hl
 | _::_,[],hl,_=>by cases hl
theorem ql4 {ks:Nat}{kvs:List (Int×Value)}(I:g.h.DictOf (intKind g.prog g.w) a kvs)(hsys:(a==sysModules)=false)(hl:kvs.length < 64):jc1 g n (.builtin "sorted") [objD a] ks (.list ((jr0 (kvs.map (·.1))).map .int)) k:=λO M A s E vs u r aO aM rs=>by
 obtain⟨v,rfl,ra⟩:=rs.one_inv
 have:=jb0 ra; subst this
 obtain⟨ep,D0⟩:=I.dictAt
 have D1:=D0.keep (h':=s.heap) λb o=>u b o
 refine Calls.call_function_entry kind_sorted plain_sorted entry_sorted (args_sorted1 _) ?_
 unfold Builtin.«sorted»
 refine wpAny_bind (m:=checkCount "sorted" 1 1 _) (wpAny_pure ?_)
 have hcl:kvs.length<=sizeLine:=Nat.le_trans (Nat.le_of_lt hl) (by decide)
 refine wpAny_bind (kdu_collect (A:=A.in1) (kdl_dict hsys) r.handled D1 hcl λh' tk acc hk hacc=>?_)
 have hlen:acc.toList.length=kvs.length:=by rw [Array.length_toList]; exact hacc.1
 have rds:=qs8 (h:=h') hlen λj v e=>hacc.2 j v (by rw [<- Array.getElem?_toList]; exact e)
 have hI:=qg2 rds
 refine wpAny_bind (wpAny_newList ?_ (by rw [hlen]; exact hcl))
 have hoL:(h'.push (seqObj "list" acc.toList.toArray 0)).get? h'.objs.size=some (seqObj "list" acc.toList.toArray 0):=Heap.get?_push_size _ rfl
 show wpAny _ _ _ _ _ { s with heap:=h'.push (seqObj "list" acc.toList.toArray 0),toks:=tk }
 refine wpAny_bind (wpAny_holding (wpAny_call_entry slot_list_sort ⟨_,hoL,rfl⟩ entry_list_sort (list_sort_tree hoL hI (by rw [hlen]; exact hl) λout ns' a1 a2 a3=>⟨_,rfl,?_⟩) (args_list_sort _)))
 refine wpAny_pure ⟨_,rfl,?_⟩
 have e:ns'=jr0 (kvs.map (·.1)):=List.Perm.eq_of_pairwise (λx y zw zw h1 h2=>Int.le_antisymm h1 h2) a3 (jj5 _) (a2.trans (je0 _).symm)
 subst e
 obtain⟨c,hc⟩:=sortedHeap_at (out:=out) hoL
 have hle:∀b o,s.heap.get? b=some o->b≠h'.objs.size/\b < (h'.push (seqObj "list" acc.toList.toArray 0)).objs.size/\(h'.push (seqObj "list" acc.toList.toArray 0)).get? b=some o:=λb o e=>by
  have:=Heap.lt_size (hk b o e)
  exact⟨Nat.ne_of_lt this,by rw [size_push']; exact Nat.lt_succ_of_lt this,Heap.get?_push_of_some _ (hk b o e)⟩
 have nO:s.heap.get? h'.objs.size=none:=by
  cases e:s.heap.get? h'.objs.size with
  | none=>rfl
  | some o=>exact absurd (Heap.lt_size (hk _ _ e)) (Nat.lt_irrefl _)
 have rl:=qu7 (O:=O) (M:=M) (h:=sortedHeap (h'.push (seqObj "list" acc.toList.toArray 0)) h'.objs.size acc.toList out) (k:=k - 1) a1
 refine⟨⟨_,tk,rfl,λb o e=>?_⟩,.list (λz=>?_) (λzw z=>?_) ?_ hc rl⟩
 ·obtain⟨h1,h2,h3⟩:=hle b o e
  exact(sortedHeap_old h1 h2).trans h3
 ·obtain⟨o,e⟩:=aO _ z; rw [nO] at e; cases e
 ·obtain⟨o,e⟩:=aM _ z; rw [nO] at e; cases e
 ·have:=rl.length
  rw [List.length_map,(je0 _).length_eq,List.length_map,Array.length_toList] at this
  rw [this]; exact Nat.le_trans (Nat.le_of_lt hl) (by decide)
section
theorem lt5c {P:Nat->Prop}(a:P 0)(b:P 1)(c:P 2)(d:P 3)(e:P 4):∀i < 5,P i:=ltS a (lt4c (P:=λi=>P (i+1)) b c d e)
theorem uf9 {s l:List Nat}(hs:s.length=3)(hl:l.length=5):∀i < 3,∀j < 5,(mat s l).getD (5*i+j) false=(s.getD i 9==l.getD j 9):=by
 obtain⟨a,b,c,rfl⟩:∃a b c,s=[a,b,c]:=by
  obtain⟨a,t1,e1,h1⟩:=lenS hs
  obtain⟨b,t2,e2,h2⟩:=lenS h1
  obtain⟨c,t3,e3,h3⟩:=lenS h2
  exact⟨a,b,c,by rw [e1,e2,e3,List.eq_nil_of_length_eq_zero h3]⟩
 obtain⟨y0,y1,y2,y3,y4,rfl⟩:=len5 hl
 exact lt3c (P:=λi=>∀j < 5,(mat [a,b,c] [y0,y1,y2,y3,y4]).getD (5*i+j) false=(([a,b,c]:List Nat).getD i 9==([y0,y1,y2,y3,y4]:List Nat).getD j 9)) (lt5c rfl rfl rfl rfl rfl) (lt5c rfl rfl rfl rfl rfl) (lt5c rfl rfl rfl rfl rfl)
theorem fold5 {a0 a1 a2:Nat}{l:List Nat}{G:Nat->T3}(hl:l.length=5)(hG:∀j < 5,gain a0 a1 a2 (l.getD j 0)=G j)(h0:0<=(G 0).1):l.foldl (λu c=>jd1 (gain a0 a1 a2 c) u) (0,0,-2)=(List.range 5).foldl (λu j=>jd1 (G j) u) (0,0,0):=by
 obtain⟨c0,c1,c2,c3,c4,rfl⟩:=len5 hl
 have g0:=hG 0 (by decide)
 have g1:=hG 1 (by decide)
 have g2:=hG 2 (by decide)
 have g3:=hG 3 (by decide)
 have g4:=hG 4 (by decide)
 show jd1 (gain a0 a1 a2 c4) (jd1 (gain a0 a1 a2 c3) (jd1 (gain a0 a1 a2 c2) (jd1 (gain a0 a1 a2 c1) (jd1 (gain a0 a1 a2 c0) (0,0,-2)))))=jd1 (G 4) (jd1 (G 3) (jd1 (G 2) (jd1 (G 1) (jd1 (G 0) (0,0,0)))))
 rw [show gain a0 a1 a2 c0=G 0 from g0,show gain a0 a1 a2 c1=G 1 from g1,show gain a0 a1 a2 c2=G 2 from g2,show gain a0 a1 a2 c3=G 3 from g3,show gain a0 a1 a2 c4=G 4 from g4,qq8 h0]
noncomputable def zeros15:List Int:=List.replicate 15 0
section
variable {s l:List Nat} {rs:List (List Int)} (hs:s.length=3) (hl:l.length=5) (Kq:Ok4 s l rs)
include Kq
theorem qt3 (q:Int):q∈rs.flatten↔q∈(ahS (mat (s.map (· / 2)) (l.map (· / 2))) 15).map (·.1):=by
 rw [<- Kq.sort]
 exact(je0 rs.flatten).mem_iff.symm
theorem qy8:rs.flatten.Nodup:=by
 have h:((ahS (mat (s.map (· / 2)) (l.map (· / 2))) 15).map (·.1)).Nodup:=by
  rw [qh4]
  refine List.pairwise_map.mpr (List.Pairwise.imp ?_ ((List.nodup_range (n:=15)).filter _))
  intro a b h z
  exact h (Int.ofNat.inj z)
 rw [<- Kq.sort] at h
 exact(je0 rs.flatten).nodup_iff.mp h
theorem ul8:∃best,best=rs.flatten.foldl (js2 (mat (s.map (· / 2)) (l.map (· / 2))) s l) zeros15/\best.length=15/\∀k < 15,best.getD k 0=if (mat (s.map (· / 2)) (l.map (· / 2))).getD k false=true then sumW (mat (s.map (· / 2)) (l.map (· / 2))) s l best k else 0:=by
 generalize hM:mat (s.map (· / 2)) (l.map (· / 2))=M
 have hb:=Kq.behind
 have hf:=qt3 Kq
 rw [hM] at hb hf
 have z0:∀k < 15,zeros15.getD k 0=0:=λk hk=>by
  unfold zeros15
  rw [List.getD_eq_getElem?_getD,List.getElem?_replicate,if_pos hk]; rfl
 have D0:Done M s l [] zeros15:=⟨rfl,λk hk zw=>z0 k hk,λk zw h=>(by cases h),λk zw h=>(by cases h)⟩
 obtain⟨seen,D,hq⟩:=qt8 rs.flatten [] zeros15 D0 (λp hp=>(hf p).mp hp) (qy8 Kq) (λp zw h=>by cases h) hb
 refine⟨_,rfl,D.len,λk hk=>?_⟩
 have hseen:((k:Nat):Int)∈seen↔M.getD k false=true:=by
  rw [hq,hf,key_mem]
  constructor
  ·rintro(h | ⟨j,_,h2,e⟩)
   ·cases h
   ·have:k=j:=by omega
    rw [this]; exact h2
  ·intro h
   exact .inr ⟨k,hk,h,rfl⟩
 cases h:M.getD k false with
 | true=>rw [if_pos rfl]; exact D.on k hk (hseen.mpr h)
 | false=>rw [if_neg (by decide)]; exact D.off k hk λz=>by rw [hseen.mp z] at h; cases h
include hs hl
theorem lev4 (hs6:∀x∈s,x < 6)(hl6:∀x∈l,x < 6):levF (s.map letC) (jb4 (l.map letC)) 34=34 - maxI (rs.flatten.foldl (js2 (mat (s.map (· / 2)) (l.map (· / 2))) s l) zeros15)/\levF (s.map lowC) (jb4 (l.map lowC)) 34=34 - 2*(rs.length:Int):=by
 obtain⟨best,eb,hlen,hbest⟩:=ul8 Kq
 rw [<- eb]
 have hcount:=Kq.count
 have hget:∀i < 3,∀j < 5,(mat (s.map (· / 2)) (l.map (· / 2))).getD (5*i+j) false=(s.getD i 9 / 2==l.getD j 9 / 2):=λi hi j hj=>by
  rw [uf9 (by rw [List.length_map]; exact hs) (by rw [List.length_map]; exact hl) i hi j hj]
  have a:(s.map (· / 2)).getD i 9=s.getD i 9 / 2:=by simp [hs,hi]
  have b:(l.map (· / 2)).getD j 9=l.getD j 9 / 2:=by simp [hl,hj]
  rw [a,b]
 generalize mat (s.map (· / 2)) (l.map (· / 2))=M at hbest hcount hget
 have s6:∀i < 3,s.getD i 9 < 6:=λi hi=>hs6 _ (by simp [hs,hi])
 have l6:∀j < 5,l.getD j 9 < 6:=λj hj=>hl6 _ (by simp [hl,hj])
 let meet:Nat->Nat->Bool:=λi j=>decide (i < 3) && decide (j < 5) && M.getD (5*i+j) false
 let B:Nat->Nat->Int:=λi j=>best.getD (5*i+j) 0
 let S:Nat->Nat->Int:=λi j=>maxI ((((List.range 15).filter λn=>M.getD n false && decide (n / 5 < i) && decide (n % 5 < j)).map λn=>best.getD n 0)++[0])
 have hSle:∀i j z,S i j<=z↔0<=z/\∀n < 15,M.getD n false=true->n / 5 < i->n % 5 < j->best.getD n 0<=z:=λi j z=>by
  show maxI _<=z↔_
  rw [qo1 (by simp)]
  constructor
  ·intro h
   refine⟨h 0 (by simp),λn hn hm h1 h2=>h _ (List.mem_append.mpr (.inl (List.mem_map.mpr ⟨n,List.mem_filter.mpr ⟨List.mem_range.mpr hn,?_⟩,rfl⟩)))⟩
   rw [hm,decide_eq_true h1,decide_eq_true h2]; rfl
  ·rintro⟨h0,h⟩ x hx
   rcases List.mem_append.mp hx with hx | hx
   ·obtain⟨n,hn,rfl⟩:=List.mem_map.mp hx
    obtain⟨hn,hm⟩:=List.mem_filter.mp hn
    rw [Bool.and_eq_true,Bool.and_eq_true,decide_eq_true_eq,decide_eq_true_eq] at hm
    exact h n (List.mem_range.mp hn) hm.1.1 hm.1.2 hm.2
   ·rw [List.mem_singleton.mp hx]; exact h0
 have H:Sup meet B S:=⟨λi j z=>by
  rw [hSle]
  refine⟨λ⟨h0,h⟩=>⟨h0,λi' hi j' hj hm=>?_⟩,λ⟨h0,h⟩=>⟨h0,λn hn hm h1 h2=>?_⟩⟩
  ·have hm:(decide (i' < 3) && decide (j' < 5) && M.getD (5*i'+j') false)=true:=hm
   rw [Bool.and_eq_true,Bool.and_eq_true,decide_eq_true_eq,decide_eq_true_eq] at hm
   exact h (5*i'+j') (by omega) hm.2 (by omega) (by omega)
  ·have e:5*(n / 5)+n % 5=n:=Nat.div_add_mod n 5
   have:=h (n / 5) h1 (n % 5) h2 (by
    show(decide (n / 5 < 3) && decide (n % 5 < 5) && M.getD (5*(n / 5)+n % 5) false)=true
    rw [e,hm,decide_eq_true (by omega),decide_eq_true (by omega)]; rfl)
   show _<=z
   have k:B (n / 5) (n % 5)=best.getD n 0:=by show best.getD _ 0=_; rw [e]
   rw [k] at this; exact this⟩
 let wt:Nat->Nat->Int:=λi j=>if meet i j=true then ownW s l (5*i+j) else 0
 have own_nn:∀k,0<=ownW s l k:=λk=>by
  unfold ownW
  split <;> decide
 have hB:∀i j,i < 3->meet i j=true->B i j=wt i j+S i j:=λi j hi hm=>by
  have hm':(decide (i < 3) && decide (j < 5) && M.getD (5*i+j) false)=true:=hm
  rw [Bool.and_eq_true,Bool.and_eq_true,decide_eq_true_eq,decide_eq_true_eq] at hm'
  have hk:5*i+j < 15:=by omega
  have e1:B i j=sumW M s l best (5*i+j):=by
   show best.getD (5*i+j) 0=_
   rw [hbest _ hk,if_pos hm'.2]
  have e2:wt i j=ownW s l (5*i+j):=if_pos hm
  rw [e1,e2]
  unfold sumW
  congr 1
  have key:∀z,maxI ((((ahS M 15).lookup ((5*i+j:Nat):Int)).getD []).map (λo=>best.getD o.toNat 0)++[0])<=z↔S i j<=z:=λz=>by
   rw [qo1 (by simp),hSle]
   constructor
   ·intro h
    refine⟨h 0 (by simp),λn hn hm h1 h2=>h _ (List.mem_append.mpr (.inl (List.mem_map.mpr ⟨(n:Int),(jw3 hm'.2 hk).mpr ⟨n,hn,hm,rfl,by omega,by omega⟩,?_⟩)))⟩
    rw [Int.toNat_natCast]
   ·rintro⟨h0,h⟩ x hx
    rcases List.mem_append.mp hx with hx | hx
    ·obtain⟨q,hq,rfl⟩:=List.mem_map.mp hx
     obtain⟨n,hn,hm,rfl,h1,h2⟩:=(jw3 hm'.2 hk).mp hq
     rw [Int.toNat_natCast]
     exact h n hn hm (by omega) (by omega)
    ·rw [List.mem_singleton.mp hx]; exact h0
  exact Int.le_antisymm ((key _).mpr (Int.le_refl _)) ((key _).mp (Int.le_refl _))
 have hwt0:∀i j,meet i j=false->wt i j=0:=λi j h=>by
  show(if meet i j=true then _ else (0:Int))=0
  rw [h]; rfl
 have hwtn:∀i j,0<=wt i j:=λi j=>by
  show 0<=(if meet i j=true then ownW s l (5*i+j) else 0)
  split
  ·exact own_nn _
  ·exact Int.le_refl _
 have F:=H.fold hB hwt0 hwtn 5
 have hbn:∀k < 15,0<=best.getD k 0:=λk hk=>by
  rw [hbest k hk]
  split
  ·unfold sumW
   have h1:0<=maxI ((((ahS M 15).lookup (k:Int)).getD []).map (λo=>best.getD o.toNat 0)++[0]):=(jy7 (by simp)).2 0 (by simp)
   have h2:=own_nn k
   omega
  ·exact Int.le_refl _
 have hmax:maxI best=S 3 5:=by
  have hne:best≠[]:=λz=>by rw [z] at hlen; cases hlen
  have key:∀z,maxI best<=z↔S 3 5<=z:=λz=>by
   rw [qo1 hne,hSle]
   constructor
   ·intro h
    have g:∀k < 15,best.getD k 0<=z:=λk hk=>h _ (by rw [List.getD_eq_getElem?_getD,List.getElem?_eq_getElem (by omega)]; exact List.getElem_mem _)
    exact⟨Int.le_trans (hbn 0 (by decide)) (g 0 (by decide)),λn hn zw zw zw=>g n hn⟩
   ·rintro⟨h0,h⟩ x hx
    obtain⟨k,hk,e⟩:=List.getElem_of_mem hx
    have hk15:k < 15:=by omega
    have e':best.getD k 0=x:=by rw [List.getD_eq_getElem?_getD,List.getElem?_eq_getElem hk]; exact e
    rw [<- e']
    cases hm:M.getD k false with
    | true=>exact h k hk15 hm (by omega) (by omega)
    | false=>rw [hbest k hk15,hm]; exact h0
  exact Int.le_antisymm ((key _).mpr (Int.le_refl _)) ((key _).mp (Int.le_refl _))
 have hwt:∀i < 3,∀j < 5,wt i j=wtC (s.getD i 9) (l.getD j 9):=λi hi j hj=>by
  show(if (decide (i < 3) && decide (j < 5) && M.getD (5*i+j) false)=true then ownW s l (5*i+j) else 0)=_
  have a:(5*i+j) / 5=i:=by omega
  have b:(5*i+j) % 5=j:=by omega
  rw [hget i hi j hj,decide_eq_true hi,decide_eq_true hj]
  unfold ownW wtC
  rw [a,b]
  generalize s.getD i 9=x
  generalize l.getD j 9=y
  by_cases h1:x=y
  ·simp [h1]
  ·by_cases h2:x / 2=y / 2 <;> simp [h1,h2]
 obtain⟨x0,x1,x2,rfl⟩:∃a b c,s=[a,b,c]:=by
  obtain⟨a,t1,e1,h1⟩:=lenS hs
  obtain⟨b,t2,e2,h2⟩:=lenS h1
  obtain⟨c,t3,e3,h3⟩:=lenS h2
  exact⟨a,b,c,by rw [e1,e2,e3,List.eq_nil_of_length_eq_zero h3]⟩
 have a0:x0 < 6:=s6 0 (by decide)
 have a1:x1 < 6:=s6 1 (by decide)
 have a2:x2 < 6:=s6 2 (by decide)
 have gl:∀(f:Nat->Nat) j,j < 5->(l.map f).getD j 0=f (l.getD j 9):=λf j hj=>by
  rw [List.getD_eq_getElem?_getD,List.getElem?_map,List.getD_eq_getElem?_getD,List.getElem?_eq_getElem (by omega)]; rfl
 constructor
 ·refine(qc5 (letC x0) (letC x1) (letC x2) (l.map letC) (by rw [List.length_map]; omega) (by rw [List.length_map]; omega) (jc8 x0 a0 x0 a0).2.2.1 (jc8 x2 a2 x2 a2).2.2.1 ?_).trans ?_
  ·unfold gain
   rw [(jc8 x0 a0 x0 a0).2.1,(jc8 x1 a1 x1 a1).2.1,(jc8 x2 a2 x2 a2).2.1]
  ·rw [fold5 (G:=λj=>(wt 0 j,wt 1 j,wt 2 j)) (by rw [List.length_map]; exact hl) (λj hj=>?_) (hwtn 0 0),List.length_map,hl,hmax]
   ·have:((List.range 5).foldl (λu j=>jd1 ((λj=>(wt 0 j,wt 1 j,wt 2 j)) j) u) (0,0,0)).2.2=S 3 5:=(congrArg (λx:T3=>x.2.2) F).symm
    rw [this]; rfl
   ·rw [gl _ j hj,hwt 0 (by decide) j hj,hwt 1 (by decide) j hj,hwt 2 (by decide) j hj]
    unfold gain
    rw [(jc8 x0 a0 _ (l6 j hj)).1,(jc8 x1 a1 _ (l6 j hj)).1,(jc8 x2 a2 _ (l6 j hj)).1]
    rfl
 ·refine(qc5 (lowC x0) (lowC x1) (lowC x2) (l.map lowC) (by rw [List.length_map]; omega) (by rw [List.length_map]; omega) (jc8 x0 a0 x0 a0).2.2.2.2.2 (jc8 x2 a2 x2 a2).2.2.2.2.2 ?_).trans ?_
  ·unfold gain
   rw [(jc8 x0 a0 x0 a0).2.2.2.2.1,(jc8 x1 a1 x1 a1).2.2.2.2.1,(jc8 x2 a2 x2 a2).2.2.2.2.1]
  ·rw [fold5 (G:=gain2 M) (by rw [List.length_map]; exact hl) (λj hj=>?_) (by show 0<=(if M.getD 0 false=true then (2:Int) else 0); split <;> decide),List.length_map,hl,<- hcount]
   ·rfl
   ·rw [gl _ j hj]
    unfold gain gain2
    rw [(jc8 x0 a0 _ (l6 j hj)).2.2.2.1,(jc8 x1 a1 _ (l6 j hj)).2.2.2.1,(jc8 x2 a2 _ (l6 j hj)).2.2.2.1]
    have g0:=hget 0 (by decide) j hj
    have g1:=hget 1 (by decide) j hj
    have g2:=hget 2 (by decide) j hj
    rw [show 5*0+j=j by omega] at g0
    rw [g0,show 5+j=5*1+j by omega,g1,show 10+j=5*2+j by omega,g2]
    simp
end
end
section
theorem Run.effU {W V V':Avoid}(r:Run c O M W ρ s)(sub:∀b,V b->W b)(e:Eff V c.Fc s V' s'):Run c (λb=>O b\/(W b\/V' b)) M (λb=>W b\/V' b) ρ s'/\(∀b o,W b->¬V b->s.heap.get? b=some o->s'.heap.get? b=some o):=by
 have kp:∀b o,W b->¬V b->s.heap.get? b=some o->s'.heap.get? b=some o:=λb o hw hv eo=>(e.cx.2 b o hv eo).2 (r.at.wf b hw)
 refine⟨r.eff (W':=λb=>W b\/V' b) (e.cx.mono sub λzw h=>h) (λzw h=>.inl h) (λb hb=>?_) λb hb=>?_,kp⟩
 ·rcases hb with hb | hb
  ·exact .inl hb
  ·exact(e.new b hb).imp (sub b) id
 ·by_cases hv:V' b
  ·exact e.al b hv
  ·rcases hb with hb | hb
   ·obtain⟨o,eo⟩:=r.act.aO b (r.wo b hb)
    exact⟨o,kp b o hb (λh=>hv (e.up b h)) eo⟩
   ·exact absurd hb hv
noncomputable abbrev abD (s l:List Nat):List Bool:=mat (s.map (· / 2)) (l.map (· / 2))
theorem qh2 {M:List Bool}:∀{n:Nat} {q:Int×List Int},q∈ahS M n->q.2.length<=n
 | 0,_,h=>by cases h
 | n+1,q,h=>by
  rw [jj7] at h
  split at h
  ·rcases List.mem_append.mp h with h | h
   ·exact Nat.le_succ_of_le (qh2 h)
   ·rw [List.mem_singleton.mp h]
    refine Nat.le_trans (List.length_filter_le _ _) ?_
    rw [List.length_map]
    exact Nat.le_succ_of_le (jv5 M n)
  ·exact Nat.le_succ_of_le (qh2 h)
section
variable {c:Fx} {P:Params} {O W:Avoid} {ρ:Rho} {s:Shared} {l:List (Str×D)} {E:Value->Shared->Prop} {Q:Flow->Shared->Prop}
theorem cut3 {m:Nat}{q q' q2 p:Pos}{c0:Nat}{cs:List Nat}(hc:ρ.is "codes" (natD cs))(h8:cs.length=8):(Ev.at T0 (m+2)).e ρ (.Subscript (.Name "codes" q2) (.Slice none (some (.Constant (.int 3) c0 q')) none q) p)=some (natD (cs.take 3),0):=by
 refine(qr9 rfl (ja2 rfl rfl hc) rfl (jg9 (je3 rfl)) rfl ⟨by decide,by decide⟩).trans ?_
 rw [show(3:Int)=((3:Nat):Int) from rfl,jl4 _ _ (by rw [List.length_map,List.length_map]; omega),<- List.map_take,<- List.map_take]
theorem cut5 {m:Nat}{q q' q2 p:Pos}{c0:Nat}{cs:List Nat}(hc:ρ.is "codes" (natD cs))(h8:cs.length=8):(Ev.at T0 (m+2)).e ρ (.Subscript (.Name "codes" q2) (.Slice (some (.Constant (.int 3) c0 q')) none none q) p)=some (natD (cs.drop 3),0):=by
 refine(qr9 rfl (ja2 rfl rfl hc) (jg9 (je3 rfl)) rfl rfl ⟨by decide,by decide⟩).trans ?_
 rw [show(3:Int)=((3:Nat):Int) from rfl,jp5 _ _ (by rw [List.length_map,List.length_map]; omega),<- List.map_drop,<- List.map_drop]
theorem um1 (G:Gr1 c.g P)(hn:8<=c.n)(r:Run c O No W ρ s)(H:Has lawN l ρ){cs:List Nat}(hc:ρ.is "codes" (natD cs))(h8:cs.length=8)
  (q:∀O' ρ' s' a es,Run c O' No (λb=>W b\/inA a es b) ρ' s'->AhAt c.g s'.heap a es->es.map (λe=>(e.1,e.2.2))=ahS (abD (cs.take 3) (cs.drop 3)) 15->(∀b o,W b->s.heap.get? b=some o->s'.heap.get? b=some o)->Has lawN (("ahead",objD a)::l) ρ'->Q .next s'):wpAny c.g.M c.Ar (exec (je7 2) c.env) Q E s:=by
 have K:=G.k
 have k169:keepIn c.g.K (.ref 169)=true:=by rw [K]; kernel_rfl
 have ok:(Ev.at T0 12).Ok c.g c.n:=jq1 (by omega) G.names qx4 12
 have h3:(cs.take 3).length=3:=by rw [List.length_take]; omega
 have h5:(cs.drop 3).length=5:=by rw [List.length_drop]; omega
 conv in je7 2=>whnf
 refine r.assignS rfl (Call_ (je8 (v:=.ref 169) r.act.up r.act.eo (H.glob rfl) (by show nsIn c.g.K _ _=_; rw [K]; rfl) (by decide) (callWith_K r.now k169 (wpAny_items_cons (r.evG (k:=0) (ok.e _ _ _ _ (cut3 hc h8)) λv_1 s_1 k_1 rv_1 r_1=>wpAny_items_cons (r_1.evG (k:=0) (ok.e _ _ _ _ (cut5 hc h8)) λv_2 s_2 k_2 rv_2 r_2=>wpAny_items_nil ⟨r_2.now,?_⟩) rfl) rfl))))
 refine wpAny_call (ub3 (n:=c.n - 2) G ((r_2.at.sub λzw h=>h.elim).le (by show c.n - 2+2<=c.n; omega)) (rv_1.keeps (ja0 k_2)) rv_2 h3 h5 (λi hi j hj=>?_) λa es s_3 cx I hes hnew=>?_)
 ·rw [uf9 (by rw [List.length_map]; exact h3) (by rw [List.length_map]; exact h5) i hi j hj]
  have e1:((cs.take 3).map (· / 2)).getD i 9=(cs.take 3).getD i 9 / 2:=by
   rw [List.getD_eq_getElem?_getD,List.getD_eq_getElem?_getD,List.getElem?_map,List.getElem?_eq_getElem (by omega)]; rfl
  have e2:((cs.drop 3).map (· / 2)).getD j 9=(cs.drop 3).getD j 9 / 2:=by
   rw [List.getD_eq_getElem?_getD,List.getD_eq_getElem?_getD,List.getElem?_map,List.getElem?_eq_getElem (by omega)]; rfl
  rw [e1,e2]
 ·obtain⟨r3',kp⟩:=r_2.cxKeep cx
  have r_3:=r_2.eff (W':=λb=>W b\/inA a es b) (cx.mono (λzw h=>h.elim) λzw h=>h) (λzw h=>.inl h) (λb hb=>hb.elim .inl λh=>.inr (hnew b h)) (λb hb=>hb.elim (λh=>r3'.act.aO b (r3'.wo b h)) (I.alloc b))
  refine r_3.store (d:=objD a) (H.st rfl) .obj λs_4 c_4 r_4=>?_
  have kp4:=r_3.same c_4
  exact q _ _ s_4 a es r_4 (I.keeps λb o hb=>kp4 b o (.inr hb)) hes (λb o hb e=>kp4 b o (.inl hb) (kp b o hb (ja0 k_2 _ _ (ja0 k_1 _ _ e)))) H.put
theorem qw3 (G:Gr1 c.g P)(hn:8<=c.n)(r:Run c O No W ρ s)(H:Has lawN l ρ){es:List (Int×Addr×List Int)}{sc lc:List Nat}{rs:List (List Int)}(ha:ρ.is "ahead" (objD a))(I:AhAt c.g s.heap a es)(hes:es.map (λe=>(e.1,e.2.2))=ahS (abD sc lc) 15)(wA:∀b,inA a es b->W b)(Ok:Ok4 sc lc rs)
  (q:∀ρ' s',Run c O No W ρ' s'->(∀b o,W b->s.heap.get? b=some o->s'.heap.get? b=some o)->Has lawN (("rounds",.list (rdD rs))::l) ρ'->Q .next s'):wpAny c.g.M c.Ar (exec (je7 3) c.env) Q E s:=by
 have K:=G.k
 have k176:keepIn c.g.K (.ref 176)=true:=by rw [K]; kernel_rfl
 have wF:∀b,W b->¬c.Fc b:=r.at.wf
 have h15:es.length<=15:=by
  have:=jv5 (abD sc lc) 15
  rw [<- hes,List.length_map] at this
  exact this
 have hps:∀e∈es,e.2.2.length<=15:=λe he=>by
  have hm:(e.1,e.2.2)∈ahS (abD sc lc) 15:=by rw [<- hes]; exact List.mem_map.mpr ⟨e,he,rfl⟩
  exact qh2 hm
 conv in je7 3=>whnf
 refine r.assignS rfl (Call_ (je8 (v:=.ref 176) r.act.up r.act.eo (H.glob rfl) (by show nsIn c.g.K _ _=_; rw [K]; rfl) (by decide) (callWith_K r.now k176 (wpAny_items_cons (r.nameA ha (by decide) (wpAny_items_nil ⟨r.now,?_⟩)) rfl))))
 refine wpAny_call (qn0 (n:=c.n - 7) G ((r.at.sub λzw h=>h.elim).le (by show c.n - 7+7<=c.n; omega)) I hes h15 hps (λb hb=>wF b (wA b hb)) Ok.fine Ok.cyc Ok.run λv s_1 cx rv=>?_)
 obtain⟨r_1,kp⟩:=r.cxKeep cx
 refine r_1.store (H.st rfl) rv λs_2 c_2 r_2=>?_
 exact q _ s_2 r_2 (λb o hb e=>r_1.same c_2 b o hb (kp b o hb e)) H.put
end
end
section
theorem s_comp2 {R:Ev}{X:Rho->List Stmt->Option (Fl×Rho)}{p:Pos}{np cp:Pos}{target' iter':Expr}{ifs ifs':List Expr}{scope:Scope}(hx:stOk ρ x=true)(hs:jf3 ρ scope x np cp=true)(h:qc8 R ρ elt target iter ifs target' iter' ifs' scope=some (d,0)):jc9 R X ρ (.Assign [.Name x np] (.ListComp elt [⟨target,iter,ifs,0⟩,⟨target',iter',ifs',0⟩] scope cp) p)=some (.next,ρ.put x d 0):=by
 exact(show qn9 (if stOk ρ x=true then put0 ρ x (if jf3 ρ scope x np cp=true then qc8 R ρ elt target iter ifs target' iter' ifs' scope else R.e ρ (.ListComp elt [⟨target,iter,ifs,0⟩,⟨target',iter',ifs',0⟩] scope cp)) else none)=_ from bO (show(if stOk ρ x=true then put0 ρ x (if jf3 ρ scope x np cp=true then qc8 R ρ elt target iter ifs target' iter' ifs' scope else R.e ρ (.ListComp elt [⟨target,iter,ifs,0⟩,⟨target',iter',ifs',0⟩] scope cp)) else none)=some (ρ.put x d 0) from(if_pos hx).trans (by rw [if_pos hs]; exact(gV h).trans rfl)))
section
variable {X:Rho->List Stmt->Option (Fl×Rho)} {ρ:Rho} {l:List (Str×D)} (H:Has lawN l ρ)
include H
theorem qp0 {rs:List (List Int)}(hr:ρ.is "rounds" (.list (rdD rs)))(hz:rs.flatten.length<=100):jc9 (Ev.at T0 12) X ρ (je7 4)=some (.next,ρ.put "handed" (.list (rs.flatten.map .int)) 0):=by
 have e:rs.flatten.map PyData.int=((rs.map λg=>g.map PyData.int)).flatten:=by rw [List.map_flatten]
 rw [e]
 conv in je7 4=>whnf
 refine s_comp2 (H.st rfl) (H.swaps rfl) (uk3 (items:=rs.map λg=>.list (g.map .int)) rfl rfl ⟨rfl,rfl,rfl,rfl,rfl,rfl,rfl⟩ (qk2 rfl (ja2 rfl rfl hr)) (qf6 λg hg=>?_) ?_)
 ·exact(qp5 (qk2 rfl (ja2 rfl rfl jm6)) (jn0 λx zw=>jk9 (ja2 rfl rfl jm6))).trans (congrArg some (jd4 (f:=PyData.int) g))
 ·rw [<- e,List.length_map]
  exact Nat.le_trans hz (by decide)
end
end
section
noncomputable def um4:Avoid:=λb=>b=178
theorem qt0 (M:List Bool)(sc lc:List Nat){best:List Int}(hk:k < best.length):(js2 M sc lc best (k:Int)).length=best.length:=by
 rw [qs9 hk,List.length_set]
theorem qk8 (M:List Bool)(sc lc:List Nat):∀(ps:List Int) (best:List Int),(∀p∈ps,∃k:Nat,k < best.length/\p=(k:Int))->(ps.foldl (js2 M sc lc) best).length=best.length
 | [],best,_=>rfl
 | p::ps,best,h=>by
  obtain⟨k,hk,rfl⟩:=h p (List.mem_cons_self ..)
  rw [List.foldl_cons,qk8 M sc lc ps _ λq hq=>by rw [qt0 M sc lc hk]; exact h q (List.mem_cons_of_mem _ hq),qt0 M sc lc hk]
section
variable {c:Fx} {P:Params} {O W:Avoid} {ρ:Rho} {s:Shared} {l:List (Str×D)} {E:Value->Shared->Prop} {Q:Flow->Shared->Prop}
theorem best_run (G:Gr1 c.g P)(B:ub4 c.g)(C:CodeHd c.g.h 182 178)(hn:8<=c.n)(r:Run c O No W ρ s)(H:Has lawN l ρ)(T:TabAt s.heap 178 ju0 foldQual none)(w178:W 178)
  {cs:List Nat} {es:List (Int×Addr×List Int)} {rs:List (List Int)} (hc:ρ.is "codes" (natD cs)) (h8:cs.length=8) (ha:ρ.is "ahead" (objD a)) (hh:ρ.is "handed" (.list (rs.flatten.map .int))) (I:AhAt c.g s.heap a es) (hes:es.map (λe=>(e.1,e.2.2))=ahS (abD (cs.take 3) (cs.drop 3)) 15) (wA:∀b,inA a es b->W b) (h178:∀b,inA a es b->b≠178) (Ok:Ok4 (cs.take 3) (cs.drop 3) rs)
  (q:∀O' W' ρ' s' c',Run c O' No W' ρ' s'->(∀b,W b->W' b)->(∀b o,W b->b≠178->s.heap.get? b=some o->s'.heap.get? b=some o)->TabAt s'.heap 178 ju0 foldQual (some c')->Has lawN (("best",.list ((rs.flatten.foldl (js2 (abD (cs.take 3) (cs.drop 3)) (cs.take 3) (cs.drop 3)) zeros15).map .int))::l) ρ'->Q .next s'):wpAny c.g.M c.Ar (exec (je7 5) c.env) Q E s:=by
 have K:=G.k
 obtain⟨cr,rf⟩:=red1 P
 rw [<- K] at rf
 have k44:keepIn c.g.K (.ref 44)=true:=by rw [K]; kernel_rfl
 have k183:keepIn c.g.K (.ref 183)=true:=by rw [K]; kernel_rfl
 have ok:(Ev.at T0 12).Ok c.g c.n:=jq1 (by omega) G.names qx4 12
 have h3:(cs.take 3).length=3:=by rw [List.length_take]; omega
 have h5:(cs.drop 3).length=5:=by rw [List.length_drop]; omega
 have sub:∀b,um4 b->W b:=λb h=>by rw [show b=178 from h]; exact w178
 have hkey:∀p∈rs.flatten,∃k:Nat,k < 15/\(abD (cs.take 3) (cs.drop 3)).getD k false=true/\p=(k:Int):=λp hp=>key_mem.mp ((qt3 Ok p).mp hp)
 generalize hsc:cs.take 3=sc at *
 generalize hlc:cs.drop 3=lc at *
 generalize hM:abD sc lc=M at *
 generalize hps:rs.flatten=ps at *
 conv in je7 5=>whnf
 refine r.assignS rfl (Call_ (je8 (v:=.ref 44) r.act.up r.act.eo (H.glob rfl) (by show nsIn c.g.K _ _=_; rw [K]; rfl) (by decide) (callWith_K r.now k44 (wpAny_items_cons (Call_ (je8 (v:=.ref 183) r.act.up r.act.eo (H.glob rfl) (by show nsIn c.g.K _ _=_; rw [K]; rfl) (by decide) (callWith_K r.now k183 (wpAny_items_cons (r.evG (k:=0) (ok.e _ _ _ _ (cut3 hc h8)) λv_1 t_1 j1 rw1 q_1=>wpAny_items_cons (q_1.evG (k:=0) (ok.e _ _ _ _ (cut5 hc h8)) λv_2 t_2 j2 rw2 q_2=>wpAny_items_cons (q_2.nameA ha (by decide) (wpAny_items_nil ⟨q_2.now,?_⟩)) rfl) rfl) rfl)))) rfl))))
 have T2:TabAt t_2.heap 178 ju0 foldQual none:=T.keeps (W:=W) w178 λb o zw e=>ja0 j2 _ _ (ja0 j1 _ _ e)
 refine wpAny_call (qk3 (n:=7) G B C ((q_2.at.sub sub).le hn) T2 (show TabW um4 178 none from rfl) (rw1.keeps (ja0 j2)) rw2 λf s_1 V c_1 u_1 u_2 ef T_1 tw1 F1 rv_1 rv_2=>?_)
 ((show let Q0:=_; wpAny _ _ _ Q0 _ _); intro Q0)
 rw [hsc] at rv_1
 rw [hlc] at rv_2
 obtain⟨r_1,kp1⟩:=q_2.effU sub ef
 have I2:AhAt c.g t_2.heap a es:=I.keeps λb o zw e=>ja0 j2 _ _ (ja0 j1 _ _ e)
 have I1:AhAt c.g s_1.heap a es:=I2.keeps λb o hb e=>kp1 b o (wA b hb) (h178 b hb) e
 refine wpAny_items_cons (r_1.name hh (by decide) λv8 rv8=>wpAny_items_cons (r_1.evG (d:=.list (zeros15.map .int)) (k:=0) (ok.e _ _ _ _ rfl) λv9 s9 k9 rv9 r9=>wpAny_items_nil ⟨r9.now,?_⟩) rfl) rfl
 have fkeep:∀{h h':Heap},qd7 h f u_1 u_2 (.ref a) V->(∀b o,V b->h.get? b=some o->h'.get? b=some o)->qd7 h' f u_1 u_2 (.ref a) V:=λ{h h'} F k=>by
  obtain⟨cl,doc,pm,ctv,c',x1,x2,x3,h1,h2,h3,h4,⟨⟨o1,e1,e1'⟩,⟨o2,e2,e2'⟩,⟨o3,e3,e3'⟩⟩,h6,w1,w2,w3,w4,w5⟩:=F
  exact⟨cl,doc,pm,ctv,c',x1,x2,x3,k _ _ w1 h1,CodeRec.via h2 λo=>k _ o w2,h3,h4,⟨⟨o1,k _ _ w3 e1,e1'⟩,⟨o2,k _ _ w4 e2,e2'⟩,⟨o3,k _ _ w5 e3,e3'⟩⟩,h6,w1,w2,w3,w4,w5⟩
 have F9:qd7 s9.heap f u_1 u_2 (.ref a) V:=fkeep F1 λb o zw e=>ja0 k9 _ _ e
 have I9:AhAt c.g s9.heap a es:=I1.keeps λb o zw e=>ja0 k9 _ _ e
 have rv19:=rv_1.keeps (ja0 k9)
 have rv29:=rv_2.keeps (ja0 k9)
 have rv8':=rv8.keeps (ja0 k9)
 have fcO:=r9.fcO
 have wF:∀b,(W b\/V b)->¬c.Fc b:=r9.at.wf
 have len:∀i,((ps.take i).foldl (js2 M sc lc) zeros15).length=15:=λi=>by
  rw [qk8 M sc lc _ _ λp hp=>?_]
  ·rfl
  ·obtain⟨k,hk,_,e⟩:=hkey p (List.mem_of_mem_take hp)
   exact⟨k,by show k < (List.replicate 15 (0:Int)).length; rw [List.length_replicate]; exact hk,e⟩
 have wide:∀{u:Value} {d:D} (O':Avoid) (s':Shared),(∀b,O' b->(O b\/(W b\/V b))\/No b\/s9.heap.get? b=none)->Cx No c.Fc s9 s'->Rd (λb=>O b\/V b) No s9.heap 0 u d->Rd O' No s'.heap 0 u d:=λ{u d} O' s' hO' cx rv=>by
  have a1:=Rd.wide (O':=λb=>(O b\/(W b\/V b))\/O' b) (λb hb h1 h2 z=>by
   rcases z with (z | z | z) | z
   ·exact h1 (.inl z)
   ·exact h1 (.inl (r.wo b z))
   ·exact h1 (.inr z)
   ·rcases hO' b z with (z | z | z) | z | z
    ·exact h1 (.inl z)
    ·exact h1 (.inl (r.wo b z))
    ·exact h1 (.inr z)
    ·exact h2 z
    ·rw [z] at hb; cases hb) rfl rv
  have a2:=a1.off (h':=s'.heap) (λb o hb e=>(cx.2 b o id e).2 λz=>hb (.inl (fcO b z)))
  exact a2.imp (λb zw h z=>h (.inr z)) (λzw zw zw h=>h) (Nat.le_refl 0)
 refine wpAny_call (qn2 (n:=7) (f:=f) (acc:=λi=>.list (((ps.take i).foldl (js2 M sc lc) zeros15).map .int)) ((r9.at.sub λzw h=>h.elim).le hn) rf G.iter rv8' rv9 rfl (λh=>∃s',h=s'.heap/\Cx No _ s9 s') (λs' cx=>⟨s',rfl,cx⟩) ?_ rfl ?_ ?_)
 ·rintro h ⟨s',rfl,cx⟩
  obtain⟨cl,doc,pm,ctv,c',x1,x2,x3,h1,_⟩:=fkeep F9 (h':=s'.heap) λb o hb e=>(cx.2 b o id e).2 (wF b (.inr hb))
  exact⟨_,_,_,_,h1⟩
 ·rintro i e O' A' s' E' v1 v2 hi ⟨s'',hs'',cx⟩ up' rm' aO' hO' rd1 rd2
  rw [List.getElem?_map,Option.map_eq_some_iff] at hi
  obtain⟨x,hx1,rfl⟩:=hi
  obtain⟨k,hk,hMk,rfl⟩:=hkey x (List.mem_of_getElem? hx1)
  have F':qd7 s'.heap f u_1 u_2 (.ref a) V:=fkeep F9 (h':=s'.heap) λb o hb e=>by rw [hs'']; exact(cx.2 b o id e).2 (wF b (.inr hb))
  have I':AhAt c.g s'.heap a es:=I9.keeps λb o hb e=>by rw [hs'']; exact(cx.2 b o id e).2 (wF b (.inl (wA b hb)))
  have p1:=wide O' s'' hO' cx rv19
  have p2:=wide O' s'' hO' cx rv29
  rw [<- hs''] at p1 p2
  rw [List.take_add_one,hx1,show(some (k:Int)).toList=[(k:Int)] from rfl,List.foldl_append]
  exact ui6 (n:=6) G (by decide) up' rm' aO' F' I' hes (len i) h3 h5 hk hMk p1 p2 rd1 rd2
 ·intro v s10 cx rv
  rw [List.length_map,List.take_length] at rv
  obtain⟨r10,kp⟩:=r9.cxKeep cx
  have tw:TabW (λb=>W b\/V b) 178 (some c_1):=⟨.inr tw1.1,.inr tw1.2⟩
  have kp9:∀b o,(W b\/V b)->s_1.heap.get? b=some o->s10.heap.get? b=some o:=λb o hb e=>kp b o hb (ja0 k9 _ _ e)
  refine r10.store (H.st rfl) rv λs11 c11 r11=>?_
  have kp11:∀b o,(W b\/V b)->s_1.heap.get? b=some o->s11.heap.get? b=some o:=λb o hb e=>r10.same c11 b o hb (kp9 b o hb e)
  exact q _ _ _ s11 c_1 r11 (λb h=>.inl h) (λb o hb hne e=>kp11 b o (.inl hb) (kp1 b o hb hne (ja0 j2 _ _ (ja0 j1 _ _ e)))) (T_1.keeps tw kp11) H.put
end
end
section
open PySem.Builtin.Str
theorem uh9:∀(r:List (List Nat)) (acc:Array Nat),((r.map S).foldl (λacc p=>acc++(Str.empty:Str).cps++p.cps) acc).toList=acc.toList++r.flatten
 | [],acc=>by simp
 | x::r,acc=>by
  rw [List.map_cons,List.foldl_cons,uh9 r,List.flatten_cons,Array.toList_append,Array.toList_append]
  have:(Str.empty:Str).cps.toList=[]:=rfl
  rw [this,List.append_nil,List.append_assoc]
  first | done | rw [jj8]
theorem glue_S (ls:List (List Nat)):Txt.join ("":Str) (ls.map S)=S ls.flatten:=S_of (by
 cases ls with
 | nil=>rfl
 | cons x r =>
  show(((r.map S)).foldl (λacc p=>acc++(Str.empty:Str).cps++p.cps) (S x).cps).toList=_
  rw [uh9,jj8]; rfl)
theorem ug3 {w:List Nat}{lo:Nat->Nat}(h:∀c∈w,Unicode.lowerOf c=[lo c]/\c≠0x3A3):Txt.lower (S w)=S (w.map lo):=S_of (by
 have key:∀i (hi:i < w.length),Unicode.lowerAt w.toArray i=[lo w[i]]:=λi hi=>by
  obtain⟨h1,h2⟩:=h w[i] (List.getElem_mem hi)
  unfold Unicode.lowerAt
  rw [List.getElem?_toArray,List.getElem?_eq_getElem hi]
  dsimp only
  rw [if_neg (by simp [h2]),h1]
 show((w.toArray.mapIdx λi c=>(Unicode.lowerAt w.toArray i).toArray).flatten).toList=w.map lo
 rw [Array.toList_flatten,Array.toList_mapIdx]
 have e:(w.mapIdx λi c=>(Unicode.lowerAt w.toArray i).toArray)=w.map λc=>#[lo c]:=by
  refine List.ext_getElem (by simp) λi h1 h2=>?_
  rw [List.getElem_mapIdx,List.getElem_map,key i (by simpa using h2)]
 have e':(w.toArray.toList.mapIdx λi c=>(Unicode.lowerAt w.toArray i).toArray)=w.map λc=>#[lo c]:=e
 rw [e',List.map_map]
 show(w.map λc=>[lo c]).flatten=_
 exact jd4 w)
theorem low_all:∀k < 6,Unicode.lowerOf (letC k)=[lowC k]/\letC k≠0x3A3:=by decide +kernel
theorem jy8:Unicode.lowerOf 46=[46]:=by decide +kernel
theorem uh6:∀k < 6,idxD (.str "aAbBcC") ((k:Nat):Int)=some (.str (S [letC k])):=by
 intro k hk
 obtain rfl | rfl | rfl | rfl | rfl | rfl:k=0\/k=1\/k=2\/k=3\/k=4\/k=5:=by omega
 all_goals rfl
end
section
theorem qg4 {l:List Nat}{f:Nat->List Nat}:Txt.join ("":Str) (l.map λk=>S (f k))=S (l.map f).flatten:=by
 rw [<- glue_S,List.map_map]; rfl
section
variable {X:Rho->List Stmt->Option (Fl×Rho)} {ρ:Rho} {l:List (Str×D)} (H:Has lawN l ρ)
include H
theorem qv8 {cs:List Nat}(hc:ρ.is "codes" (natD cs))(h8:cs.length=8)(h6:∀x∈cs,x < 6):jc9 (Ev.at T0 12) X ρ (je7 6)=some (.next,ρ.put "small" (.str (S ((cs.take 3).map letC))) 0):=by
 have e:S ((cs.take 3).map letC)=Txt.join ("":Str) ((cs.take 3).map λk=>S [letC k]):=by
  rw [qg4,jd4]
 have h3:(cs.take 3).length=3:=by rw [List.length_take]; omega
 have h6':∀x∈cs.take 3,x < 6:=λx hx=>h6 x (List.mem_of_mem_take hx)
 have hj:JoinOk ("":Str) ((cs.take 3).map λk=>S [letC k])=true:=by
  obtain⟨a,t1,e1,g1⟩:=lenS h3
  obtain⟨b,t2,e2,g2⟩:=lenS g1
  obtain⟨d,t3,e3,g3⟩:=lenS g2
  rw [e1,e2,e3,List.length_eq_zero_iff.mp g3]; rfl
 rw [e]
 conv in je7 6=>whnf
 refine jg7 (H.st rfl) rfl (r_join rfl rfl rfl rfl (qw7 rfl) (k':=0) ((qn3 rfl (js5 (items:=((cs.take 3).map λk:Nat=>(k:Int)).map .int) rfl ⟨rfl,rfl,rfl,rfl⟩ (qk2 rfl (cut3 hc h8)) (jn0 (h:=λx:Int=>[PyData.str (S [letC x.toNat])]) λx hx=>?_) ?_)).trans ?_) hj)
 ·obtain⟨k,hk,rfl⟩:=List.mem_map.mp hx
  exact jk9 (r_ix rfl rfl (qw7 rfl) (ja2 rfl rfl jm6) (uh6 k (h6' k hk)))
 ·rw [jd4 (f:=λx:Int=>PyData.str (S [letC x.toNat])),List.length_map,List.length_map,h3]; decide
 ·rw [jd4 (f:=λx:Int=>PyData.str (S [letC x.toNat])),List.map_map,List.map_map]; rfl
theorem qm7 {cs:List Nat}(hc:ρ.is "codes" (natD cs))(h8:cs.length=8)(h6:∀x∈cs,x < 6):jc9 (Ev.at T0 12) X ρ (je7 7)=some (.next,ρ.put "spread" (.str (S (jb4 ((cs.drop 3).map letC)))) 0):=by
 have e:S (jb4 ((cs.drop 3).map letC))=S [46,46]++Txt.join ("":Str) ((cs.drop 3).map λk=>S [letC k,46,46]):=by
  rw [qg4,S_append]
  unfold jb4
  rw [List.map_map]; rfl
 have h5:(cs.drop 3).length=5:=by rw [List.length_drop]; omega
 have h6':∀x∈cs.drop 3,x < 6:=λx hx=>h6 x (List.mem_of_mem_drop hx)
 have hj:JoinOk ("":Str) ((cs.drop 3).map λk=>S [letC k,46,46])=true:=by
  obtain⟨a,t1,e1,g1⟩:=lenS h5
  obtain⟨b,t2,e2,g2⟩:=lenS g1
  obtain⟨d,t3,e3,g3⟩:=lenS g2
  obtain⟨f,t4,e4,g4⟩:=lenS g3
  obtain⟨g,t5,e5,g5⟩:=lenS g4
  rw [e1,e2,e3,e4,e5,List.length_eq_zero_iff.mp g5]; rfl
 have hl:(Txt.join ("":Str) ((cs.drop 3).map λk=>S [letC k,46,46])).length=15:=by
  rw [qg4,jq3]
  obtain⟨a,t1,e1,g1⟩:=lenS h5
  obtain⟨b,t2,e2,g2⟩:=lenS g1
  obtain⟨d,t3,e3,g3⟩:=lenS g2
  obtain⟨f,t4,e4,g4⟩:=lenS g3
  obtain⟨g,t5,e5,g5⟩:=lenS g4
  rw [e1,e2,e3,e4,e5,List.length_eq_zero_iff.mp g5]; rfl
 rw [e]
 conv in je7 7=>whnf
 refine jg7 (H.st rfl) rfl (je4 (k:=0) rfl (qw7 rfl) (r_join rfl rfl rfl rfl (qw7 rfl) (k':=0) ((qn3 rfl (js5 (items:=((cs.drop 3).map λk:Nat=>(k:Int)).map .int) rfl ⟨rfl,rfl,rfl,rfl⟩ (qk2 rfl (cut5 hc h8)) (jn0 (h:=λx:Int=>[PyData.str (S [letC x.toNat,46,46])]) λx hx=>?_) ?_)).trans ?_) hj) ?_)
 ·obtain⟨k,hk,rfl⟩:=List.mem_map.mp hx
  exact jk9 (je4 rfl (r_ix rfl rfl (qw7 rfl) (ja2 rfl rfl jm6) (uh6 k (h6' k hk))) (qw7 rfl) rfl)
 ·rw [jd4 (f:=λx:Int=>PyData.str (S [letC x.toNat,46,46])),List.length_map,List.length_map,h5]; decide
 ·rw [jd4 (f:=λx:Int=>PyData.str (S [letC x.toNat,46,46])),List.map_map,List.map_map]; rfl
 ·refine if_pos ?_
  rw [hl]; show 2+15<=cap; decide
end
end
section
open Classical in
noncomputable def jn2 (A B:List Nat):Ent:=("_levenshtein_distance",λds=>if ds=[.str (S A),.str (S B),.int 34] then some (.int (levF A B 34)) else none)
open Classical in
noncomputable def qb7 (a:Addr) (ks hd:List Int):Ent:=("sorted",λds=>if ds=[objD a] then some (.list ((jr0 ks).map .int)) else if ds=[.list (hd.map .int)] then some (.list ((jr0 hd).map .int)) else none)
theorem qj7 (G:Gr1 g P)(hn:3<=n){A B:List Nat}(hA:A.length=3)(hB:B.length=17):EntOk g n (jn2 A B):=by
 have hK:(K1 P).lookup 35=some _:=rfl
 rw [<- G.k] at hK
 obtain⟨m,rfl⟩:∃m,n=m+2:=⟨n - 2,by omega⟩
 refine⟨.ref 35,.fn (by rw [G.k]; rfl) hK,λds d h=>?_⟩
 unfold jn2 at h
 dsimp only at h
 split at h
 ·rename_i e
  rw [e]; cases h
  exact lev_call G.k (by omega) G.names G.list A B 34 (by omega) (by omega) (by rw [hA,hB]; decide)
 ·cases h
theorem uc6 (G:Gr1 g P){kvs:List (Int×Value)}{hd:List Int}(I:g.h.DictOf (intKind g.prog g.w) a kvs)(hsys:(a==sysModules)=false)(hl:kvs.length < 64)(hh:hd.length < 64):EntOk g n (qb7 a (kvs.map (·.1)) hd):=by
 refine⟨.builtin "sorted",bt1 (x:="sorted") G.k rfl rfl (by decide),λds d h=>?_⟩
 unfold qb7 at h
 dsimp only at h
 split at h
 ·rename_i e
  rw [e]; cases h
  exact ql4 I hsys hl
 ·split at h
  ·rename_i e
   rw [e]; cases h
   exact qq5 hh
  ·cases h
noncomputable abbrev TE (A B:List Nat) (a:Addr) (ks hd:List Int):Tab:=qm5 [jn2 A B,qb7 a ks hd]
theorem TE_lev {A B:List Nat}{ks hd:List Int}:(TE A B a ks hd).call "_levenshtein_distance" [.str (S A),.str (S B),.int 34]=some (.int (levF A B 34)):=by
 show(((List.lookup ("_levenshtein_distance":Str) [jn2 A B,qb7 a ks hd])).bind λF=>F _)=_
 exact if_pos rfl
theorem TE_srtD {A B:List Nat}{ks hd:List Int}:(TE A B a ks hd).call "sorted" [objD a]=some (.list ((jr0 ks).map .int)):=by
 show(((List.lookup ("sorted":Str) [jn2 A B,qb7 a ks hd])).bind λF=>F _)=_
 exact if_pos rfl
theorem TE_srtL {A B:List Nat}{ks hd:List Int}:(TE A B a ks hd).call "sorted" [.list (hd.map .int)]=some (.list ((jr0 hd).map .int)):=by
 show(((List.lookup ("sorted":Str) [jn2 A B,qb7 a ks hd])).bind λF=>F _)=_
 exact(if_neg (λz=>by cases z)).trans (if_pos rfl)
noncomputable def uh4 (s:Stmt):Expr:=match s with
 | .If t _ _ _=>t
 | _=>.Constant .none 0 default
theorem qv7 {l:List Int}(h:l.Pairwise (·<=·)):jr0 l=l:=List.Perm.eq_of_pairwise (λx y zw zw h1 h2=>Int.le_antisymm h1 h2) (jj5 _) h (je0 l)
theorem qf7 (h:k < 6):Unicode.lowerOf (letC k)=[Unicode.simpleLower (letC k)]/\letC k≠0x3A3/\Unicode.simpleLower (letC k)=lowC k:=by
 obtain⟨h1,h2⟩:=low_all k h
 have:Unicode.simpleLower (letC k)=lowC k:=by unfold Unicode.simpleLower; rw [h1]; rfl
 exact⟨by rw [this,h1],h2,this⟩
theorem qo2 {l:List Nat}(h:∀x∈l,x < 6):Txt.lower (S (l.map letC))=S (l.map lowC):=by
 rw [ug3 (lo:=Unicode.simpleLower) λc hc=>?_,List.map_map]
 ·congr 1
  exact List.map_congr_left λx hx=>(qf7 (h x hx)).2.2
 ·obtain⟨k,hk,rfl⟩:=List.mem_map.mp hc
  exact⟨(qf7 (h k hk)).1,(qf7 (h k hk)).2.1⟩
theorem qc3:∀{l:List Nat},(∀x∈l,x < 6)->(((l.map letC).map λc=>[c,46,46]).flatten).map Unicode.simpleLower=(((l.map lowC).map λc=>[c,46,46]).flatten)/\∀c∈(((l.map letC).map λc=>[c,46,46]).flatten),Unicode.lowerOf c=[Unicode.simpleLower c]/\c≠0x3A3
 | [],_=>⟨rfl,λc h=>by simp at h⟩
 | x::l,h=>by
  obtain⟨e1,e2⟩:=qc3 (l:=l) λy hy=>h y (List.mem_cons_of_mem _ hy)
  obtain⟨a1,a2,a3⟩:=qf7 (h x (List.mem_cons_self ..))
  have d:Unicode.simpleLower 46=46:=by unfold Unicode.simpleLower; rw [jy8]; rfl
  refine⟨?_,λc hc=>?_⟩
  ·rw [List.map_cons,List.map_cons,List.flatten_cons,List.map_append,e1]
   show [Unicode.simpleLower (letC x),Unicode.simpleLower 46,Unicode.simpleLower 46]++_=[lowC x,46,46]++_
   rw [a3,d]
  ·rw [List.map_cons,List.map_cons,List.flatten_cons,List.mem_append] at hc
   rcases hc with hc | hc
   ·simp only [List.mem_cons,List.not_mem_nil,or_false] at hc
    rcases hc with rfl | rfl | rfl
    ·exact⟨a1,a2⟩
    ·exact⟨by rw [jy8,d],by decide⟩
    ·exact⟨by rw [jy8,d],by decide⟩
   ·exact e2 c hc
theorem qj6 {l:List Nat}(h:∀x∈l,x < 6):Txt.lower (S (jb4 (l.map letC)))=S (jb4 (l.map lowC)):=by
 obtain⟨e1,e2⟩:=qc3 h
 have d:Unicode.simpleLower 46=46:=by unfold Unicode.simpleLower; rw [jy8]; rfl
 unfold jb4
 rw [ug3 (lo:=Unicode.simpleLower) λc hc=>?_]
 ·rw [List.map_append,e1]
  show S ([Unicode.simpleLower 46,Unicode.simpleLower 46]++_)=_
  rw [d]
 ·rcases List.mem_append.mp hc with hc | hc
  ·simp only [List.mem_cons,List.not_mem_nil,or_false] at hc
   rcases hc with rfl | rfl <;> exact⟨by rw [jy8,d],by decide⟩
  ·exact e2 c hc
section
variable {c:Fx} {P:Params} {O W:Avoid} {ρ:Rho} {s:Shared} {l:List (Str×D)} {E:Value->Shared->Prop} {Q:Flow->Shared->Prop}
theorem law_end (G:Gr1 c.g P)(hn:8<=c.n)(r:Run c O No W ρ s)(H:Has lawN l ρ){cs:List Nat}{es:List (Int×Addr×List Int)}{rs:List (List Int)}{best:List Int}(h8:cs.length=8)(hb:best=rs.flatten.foldl (js2 (abD (cs.take 3) (cs.drop 3)) (cs.take 3) (cs.drop 3)) zeros15)(hne:best≠[])(h6:∀x∈cs,x < 6)
  (ha:ρ.is "ahead" (objD a)) (hr:ρ.is "rounds" (.list (rdD rs))) (hh:ρ.is "handed" (.list (rs.flatten.map .int))) (hbe:ρ.is "best" (.list (best.map .int))) (hsm:ρ.is "small" (.str (S ((cs.take 3).map letC)))) (hsp:ρ.is "spread" (.str (S (jb4 ((cs.drop 3).map letC)))))
  (I:AhAt c.g s.heap a es) (hes:es.map (λe=>(e.1,e.2.2))=ahS (abD (cs.take 3) (cs.drop 3)) 15) (wA:∀b,inA a es b->W b) (Ok:Ok4 (cs.take 3) (cs.drop 3) rs)
  (q:∀s',(∀b o,W b->s.heap.get? b=some o->s'.heap.get? b=some o)->Run c O No W ρ s'->Q (.ret (.bool true)) s'):wpAny c.g.M c.Ar (execs [je7 8,je7 9] c.env) Q E s:=by
 have h3:(cs.take 3).length=3:=by rw [List.length_take]; omega
 have h5:(cs.drop 3).length=5:=by rw [List.length_drop]; omega
 obtain⟨L1,L2⟩:=lev4 h3 h5 Ok (λx hx=>h6 x (List.mem_of_mem_take hx)) (λx hx=>h6 x (List.mem_of_mem_drop hx))
 rw [<- hb] at L1
 have hks:((es.map λe=>(e.1,Value.ref e.2.1)).map (·.1))=(ahS (abD (cs.take 3) (cs.drop 3)) 15).map (·.1):=by
  rw [<- hes,List.map_map,List.map_map]; rfl
 have hle:(es.map λe=>(e.1,Value.ref e.2.1)).length < 64:=by
  have:=jv5 (abD (cs.take 3) (cs.drop 3)) 15
  rw [<- hes,List.length_map] at this
  rw [List.length_map]; omega
 have hsort:=Ok.sort
 have hfl:rs.flatten.length < 64:=by
  have h1:=(je0 rs.flatten).length_eq
  have h2:=congrArg List.length hsort
  rw [List.length_map] at h2
  have h4:=jv5 (abD (cs.take 3) (cs.drop 3)) 15
  exact Nat.lt_of_le_of_lt (Nat.le_of_eq (h1.symm.trans h2)) (Nat.lt_of_le_of_lt h4 (by decide))
 have hA:((cs.take 3).map letC).length=3:=by rw [List.length_map,h3]
 have hB:(jb4 ((cs.drop 3).map letC)).length=17:=by rw [jt1,List.length_map,h5]
 have G':Gr1 (c.g.now s r.act.up) P:=gr1 G.k
 have ok:(Ev.at (TE ((cs.take 3).map letC) (jb4 ((cs.drop 3).map letC)) a ((es.map λe=>(e.1,Value.ref e.2.1)).map (·.1)) rs.flatten) 12).Ok (c.g.now s r.act.up) c.n:=jq1 (by omega) G'.names (qe1 λe he=>by
  rcases List.mem_cons.mp he with rfl | he
  ·exact qj7 G' (by omega) hA hB
  ·cases List.mem_singleton.mp he
   exact uc6 G' I.dict I.sys hle hfl) 12
 conv in je7 8=>whnf
 have tt:(Ev.at (TE ((cs.take 3).map letC) (jb4 ((cs.drop 3).map letC)) a ((es.map λe=>(e.1,Value.ref e.2.1)).map (·.1)) rs.flatten) 12).t ρ (uh4 (je7 8))=some false:=by
  conv in uh4 _=>whnf
  refine t_or (b:=false) (c:=false) ((ji0 (ka:=0) (kb:=0) rfl (r_fn (vs:=[(.list (rs.flatten.map .int),0)]) rfl (H.glob rfl) rfl (jf6 (ja2 rfl rfl hh)) rfl rfl rfl rfl TE_srtL) (r_fn (vs:=[(objD a,0)]) rfl (H.glob rfl) rfl (jf6 (ja2 rfl rfl ha)) rfl rfl rfl rfl TE_srtD) (ne_ints _ _)).trans (congrArg some ?_)) λzw=>?_
  ·rw [hks,<- hsort,qv7 (jj5 _)]; simp
  refine t_or (b:=false) (c:=false) ((ji0 (a:=.int (levF ((cs.take 3).map letC) (jb4 ((cs.drop 3).map letC)) 34)) (b:=.int (34 - maxI best)) (ka:=0) (kb:=0) rfl (r_fn (vs:=[(.str (S ((cs.take 3).map letC)),0),(.str (S (jb4 ((cs.drop 3).map letC))),0),(.int 34,0)]) rfl (H.glob rfl) rfl ?_ rfl rfl rfl rfl TE_lev) (je4 rfl (je3 rfl) (ju9 (vs:=[(.list (best.map .int),0)]) rfl (H.glob rfl) rfl (jf6 (ja2 rfl rfl hbe)) rfl (bt_max hne)) rfl) rfl).trans (congrArg some ?_)) λzw=>t_or0
  ·exact(bO (ja2 rfl rfl hsm)).trans ((bO (jr8 (ja2 rfl rfl hsp) (je3 rfl))).trans rfl)
  ·rw [L1]; simp
 conv at tt in uh4 _=>whnf
 refine wpAny_execs_cons (wpAny_If (r.test (b:=false) (ok.t _ _ _ tt) λs_1 k_1 r_1=>?_))
 refine(if_neg (by decide)).mpr (wpAny_execs_nil ?_)
 have hA':((cs.take 3).map lowC).length=3:=by rw [List.length_map,h3]
 have hB':(jb4 ((cs.drop 3).map lowC)).length=17:=by rw [jt1,List.length_map,h5]
 have s3:=qo2 (l:=cs.take 3) λx hx=>h6 x (List.mem_of_mem_take hx)
 have s5:=qj6 (l:=cs.drop 3) λx hx=>h6 x (List.mem_of_mem_drop hx)
 have ok9:(Ev.at (qm5 [jn2 ((cs.take 3).map lowC) (jb4 ((cs.drop 3).map lowC))]) 12).Ok c.g c.n:=jq1 (by omega) G.names (qe1 λe he=>by
  cases List.mem_singleton.mp he
  exact qj7 G (by omega) hA' hB') 12
 have t9:(qm5 [jn2 ((cs.take 3).map lowC) (jb4 ((cs.drop 3).map lowC))]).call "_levenshtein_distance" [.str (S ((cs.take 3).map lowC)),.str (S (jb4 ((cs.drop 3).map lowC))),.int 34]=some (.int (levF ((cs.take 3).map lowC) (jb4 ((cs.drop 3).map lowC)) 34)):=by
  show(((List.lookup ("_levenshtein_distance":Str) [jn2 _ _])).bind λF=>F _)=_
  exact if_pos rfl
 have st9:jc9 (Ev.at (qm5 [jn2 ((cs.take 3).map lowC) (jb4 ((cs.drop 3).map lowC))]) 12) (run (Ev.at (qm5 [jn2 ((cs.take 3).map lowC) (jb4 ((cs.drop 3).map lowC))]) 12) 2) ρ (je7 9)=some (.ret (.bool true),ρ):=by
  conv in je7 9=>whnf
  refine qe6 (k:=0) ((r_cmp (a:=.int (levF ((cs.take 3).map lowC) (jb4 ((cs.drop 3).map lowC)) 34)) (b:=.int (34 - 2*(rs.length:Int))) (ka:=0) (kb:=0) (c:=true) rfl rfl (r_fn (vs:=[(.str (S ((cs.take 3).map lowC)),0),(.str (S (jb4 ((cs.drop 3).map lowC))),0),(.int 34,0)]) rfl (H.glob rfl) rfl ?_ rfl rfl rfl rfl t9) (je4 rfl (je3 rfl) (je4 rfl (je3 rfl) (ju9 (vs:=[(.list (rdD rs),0)]) (d:=.int (rs.length:Int)) rfl (H.glob rfl) rfl (jf6 (ja2 rfl rfl hr)) rfl ?_) rfl) rfl) ?_))
  ·refine(bO ((jt6 rfl rfl rfl (ja2 rfl rfl hsm) ?_).trans (congrArg (λx=>some (PyData.str x,0)) s3))).trans ((bO (jr8 ((jt6 rfl rfl rfl (ja2 rfl rfl hsp) ?_).trans (congrArg (λx=>some (PyData.str x,0)) s5)) (je3 rfl))).trans rfl)
   ·rw [s3,jq3,hA']; decide
   ·rw [s5,jq3,hB']; decide
  ·show some (PyData.int ((rdD rs).length:Nat))=_
   rw [List.length_map]
  ·rw [L2]
   show some (_==_)=_
   simp
 exact r_1.pureR (m:=2) ok9 st9 λs_2 kp r_2=>q s_2 (λb o hb e=>kp b o hb (ja0 k_1 _ _ e)) r_2
end
end
theorem uk5 (cs:List Int):∃cn:List Nat,(ql3 cs).map PyData.int=(cn.map λk:Nat=>(k:Int)).map .int/\cn.length=8/\∀x∈cn,x < 6:=by
 have h0:∀i,0<=uk9 cs i/\uk9 cs i < 6:=λi=>⟨Int.fmod_nonneg_of_pos _ (by decide),Int.fmod_lt_of_pos _ (by decide)⟩
 refine⟨(List.range 8).map λi=>(uk9 cs i).toNat,?_,rfl,λx hx=>?_⟩
 ·unfold ql3
  rw [List.map_map,List.map_map,List.map_map]
  refine List.map_congr_left λi zw=>?_
  exact congrArg PyData.int (Int.toNat_of_nonneg (h0 i).1).symm
 ·obtain⟨i,_,rfl⟩:=List.mem_map.mp hx
  have:=h0 i
  omega
theorem law_ok:LawOk1 188:=by
 intro g P A s a xs hK hP B C1 at_ t178 rd hlen
 have G:Gr1 g P:=gr1 hK
 refine qu0 (n:=11) (ds:=[.list (xs.map .int)]) at_ (by rw [hK]; exact law1 P) (.cons rd .nil) rfl rfl rfl λenv Pp O' s_2 r hcode hq hk=>?_
 revert r
 (show let c:Fx:=_; Run c _ _ _ _ _->_)
 intro c r
 have H:Has lawN [("script",.list (xs.map .int))] ((⟨lawN,[]⟩:Rho).put "script" (.list (xs.map .int)) 0):=(show Has lawN [] ⟨lawN,[]⟩ from⟨rfl,λzw zw h=>by cases h⟩).put
 generalize ((⟨lawN,[]⟩:Rho).put "script" (.list (xs.map .int)) 0)=ρ at H r
 have hn:8<=c.n:=by show 8<=11; decide
 have ok:(Ev.at T0 12).Ok c.g c.n:=jq1 (by omega) G.names qx4 12
 have hB:lawB=[je7 0,je7 1,je7 2,je7 3,je7 4,je7 5,je7 6,je7 7,je7 8,je7 9]:=rfl
 rw [hB]
 refine r.pureH (m:=2) H ok (ua1 H (H.is _ _ rfl)) λρ1 s_1 kp1 r_1 H1=>?_
 refine r_1.pureH (m:=2) H1 ok (qz3 H1) λρ2 s_2' kp2 r_2 H2=>?_
 obtain⟨cn,ecn,h8,h6⟩:=uk5 (qu1 xs)
 rw [ecn] at H2
 have h3:(cn.take 3).length=3:=by rw [List.length_take]; omega
 have h5:(cn.drop 3).length=5:=by rw [List.length_drop]; omega
 obtain⟨rs,Ok⟩:=ok4 h3 h5 (λx hx=>h6 x (List.mem_of_mem_take hx)) (λx hx=>h6 x (List.mem_of_mem_drop hx))
 have T1:jw1 178:=rfl
 have t2:s_2'.heap.get? 178=some (tabObj #[]):=kp2 _ _ T1 (kp1 _ _ T1 (hk _ _ t178))
 refine wpAny_execs_cons (um1 (c:=c) G hn r_2 H2 (cs:=cn) (H2.is _ _ rfl) h8 λO3 ρ3 s_3 a_3 es r_3 I3 hes kp3 H3=>?_)
 have t3:s_3.heap.get? 178=some (tabObj #[]):=kp3 _ _ T1 t2
 refine wpAny_execs_cons (qw3 (c:=c) G hn r_3 H3 (H3.is _ _ rfl) I3 hes (λb hb=>.inr hb) Ok λρ4 s_4 r_4 kp_4 H4=>?_)
 have hfl:rs.flatten.length<=15:=by
  have h1:=(je0 rs.flatten).length_eq
  have h2:=congrArg List.length Ok.sort
  rw [List.length_map] at h2
  exact Nat.le_trans (Nat.le_of_eq (h1.symm.trans h2)) (jv5 _ 15)
 refine r_4.pureH (m:=2) H4 ok (qp0 H4 (H4.is _ _ rfl) (Nat.le_trans hfl (by decide))) λρ5 s_5 kp5 r_5 H5=>?_
 have kp35:∀b o,(jw1 b\/inA a_3 es b)->s_3.heap.get? b=some o->s_5.heap.get? b=some o:=λb o hb e=>kp5 b o hb (kp_4 b o hb e)
 have I5:AhAt c.g s_5.heap a_3 es:=I3.keeps λb o hb=>kp35 b o (.inr hb)
 have t5:s_5.heap.get? 178=some (tabObj #[]):=kp35 _ _ (.inl T1) t3
 have h178:∀b,inA a_3 es b->b≠178:=λb hb z=>by
  rcases hb with rfl | ⟨e,he,rfl⟩
  ·obtain⟨o,es',ep,h1,h2,h3,_⟩:=I5.dict
   rw [z,t5] at h1
   cases h1
   cases h3
  ·obtain⟨vs,n',i1,_⟩:=I5.lst e he
   have i1:s_5.heap.get? e.2.1=_:=i1
   rw [z,t5] at i1
   cases i1
 refine wpAny_execs_cons (best_run (c:=c) G B C1 hn r_5 H5 t5 (.inl T1) (cs:=cn) (rs:=rs) (H5.is _ _ rfl) h8 (H5.is _ _ rfl) (H5.is _ _ rfl) I5 hes (λb hb=>.inr hb) h178 Ok λO6 W6 ρ6 s_6 c6 r6 up6 kp6 T6 H6=>?_)
 have I6:AhAt c.g s_6.heap a_3 es:=I5.keeps λb o hb e=>kp6 b o (.inr hb) (h178 b hb) e
 have g6:GrownAt 178 s_6.heap:=grown_of T6
 refine r6.pureH (m:=2) H6 ok (qv8 H6 (H6.is _ _ rfl) h8 h6) λρ7 s7 kp7 r7 H7=>?_
 refine r7.pureH (m:=2) H7 ok (qm7 H7 (H7.is _ _ rfl) h8 h6) λρ8 s8 kp8 r8 H8=>?_
 have I8:AhAt c.g s8.heap a_3 es:=I6.keeps λb o hb e=>kp8 b o (up6 b (.inr hb)) (kp7 b o (up6 b (.inr hb)) e)
 obtain⟨best,eb,hlen,_⟩:=ul8 Ok
 have hne:best≠[]:=λz=>by rw [z] at hlen; cases hlen
 rw [<- eb] at H8
 refine law_end (c:=c) G hn r8 H8 (cs:=cn) (rs:=rs) (best:=best) h8 eb hne h6 (H8.is _ _ rfl) (H8.is _ _ rfl) (H8.is _ _ rfl) (H8.is _ _ rfl) (H8.is _ _ rfl) (H8.is _ _ rfl) I8 hes (λb hb=>up6 b (.inr hb)) Ok λs9 kp_9 r9=>?_
 exact⟨rfl,r9.cx,GrownAt.keep g6 λo e=>kp_9 _ o (up6 _ (.inl T1)) (kp8 _ o (up6 _ (.inl T1)) (kp7 _ o (up6 _ (.inl T1)) e))⟩
theorem law04:PySem.Challenge.rw_ny0325_04.Holds:=finish1 188 (λP=>rfl) law_ok
end Mine
end
theorem PySem.Challenge.cw_ny0325_04_holds : PySem.Challenge.rw_ny0325_04.Holds :=
  Mine.law04
