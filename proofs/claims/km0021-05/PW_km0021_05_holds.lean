import PyProof.Rows.All
import Wide.All
import OpenK.AllK
import KE.KDictIter
import Wide.FinOn
import PySem.Challenge.RW_km0021_05
set_option Elab.async false
set_option compiler.extract_closed false
set_option tactic.hygienic false
set_option linter.unusedVariables false
local macro_rules | `(tactic| omega) => `(tactic| first | lia | omega (config := {}))
namespace Ts
open PySem PySem.Spec PySem.Calls PyProof.Rows PySem.W
inductive Key where
 |int (i:Int)
 |str (s:Str)
 deriving DecidableEq
noncomputable def Key.is:Key->Value->Bool
 | .int i,v=>Value.isInt i v
 | .str s,v=>Value.isStrOf s v
theorem Key.shape{k:Key}{v:Value}(h:k.is v=true):(∃i t,k= .int i∧v= .int i t)∨(∃x t,k= .str x∧v= .str x t):=by
 cases k with
 |int i=>obtain⟨t,e⟩:=Value.isInt_shape (k:=i) h;exact .inl ⟨i,t,rfl,e⟩
 |str x=>obtain⟨t,e⟩:=Value.isStrOf_shape (x:=x) h;exact .inr ⟨x,t,rfl,e⟩
theorem Key.is_int(i:Int)(t:Tok):(Key.int i).is (.int i t)=true:=by simp[Key.is,Value.isInt]
theorem Key.is_str(x:Str)(t:Tok):(Key.str x).is (.str x t)=true:=by simp[Key.is,Value.isStrOf]
noncomputable def mixKind(prog:Program)(w:World):PySem.KeyKind prog w Key where
 is:=Key.is
 hash:=fun k=>match k with| .int i=>hashInt i| .str x=>hashStr w x
 inj:=fun v a b ha hb=>by
  rcases Key.shape ha with⟨i,t,rfl,rfl⟩|⟨x,t,rfl,rfl⟩<;>rcases Key.shape hb with⟨j,u,rfl,e⟩|⟨y,u,rfl,e⟩<;>cases e<;>rfl
 byValue:=fun k v h=>by
  rcases Key.shape h with⟨i,t,rfl,rfl⟩|⟨x,t,rfl,rfl⟩<;>rfl
 pyHash:=fun hv h=>by
  rcases Key.shape hv with⟨i,t,rfl,rfl⟩|⟨x,t,rfl,rfl⟩
  ·exact wpAny_pyHash_int h
  ·exact wpAny_pyHash_str h
 eqBool:=fun{A E s a b u v Q} hu hv h=>by
  rcases Key.shape hu with⟨i,t,rfl,rfl⟩|⟨x,t,rfl,rfl⟩<;>rcases Key.shape hv with⟨j,r,rfl,rfl⟩|⟨y,r,rfl,rfl⟩
  ·refine wpAny_eqBool_int ?_
   have e:(i==j)=decide (Key.int i=Key.int j):=by by_cases hh:i=j<;>simp[hh]
   rw[e];exact h
  ·refine PySem.SeqAt.EqAt.int_str i t y r prog w E Q ?_
   simpa using h
  ·refine PySem.SeqAt.EqAt.str_int x t j r prog w E Q ?_
   simpa using h
  ·refine wpAny_eqBool_str ?_
   have e:decide (x=y)=decide (Key.str x=Key.str y):=by by_cases hh:x=y<;>simp[hh]
   rw[e];exact h
 «strs»:=fun k x t v h=>by
  rcases Key.shape h with⟨i,u,rfl,e⟩|⟨y,u,rfl,e⟩<;>cases e
  cases v<;>rfl
structure SNode where
 key:Key
 np:Int
 succ:List Key
 loc:Addr
 dc:Addr
 lst:Addr
structure SState where
 loc:Addr
 d:Addr
 n2:Addr
 nodes:List SNode
 rdy:Option (Addr×List Key)
 npass:Int
 nfin:Int
structure AN where
 key:Key
 np:Int
 succ:List Key
structure AS where
 nodes:List AN
 rdy:Option (List Key)
 npass:Int
 nfin:Int
noncomputable def SNode.abs(x:SNode):AN:=⟨x.key,x.np,x.succ⟩
noncomputable def SState.abs(St:SState):AS:=⟨St.nodes.map SNode.abs,St.rdy.map (·.2),St.npass,St.nfin⟩
noncomputable def TSC:Addr:=137
noncomputable def NIC:Addr:=40
noncomputable def SNode.fp(x:SNode):List Addr:=[x.loc,x.dc,x.lst]
noncomputable def SState.rfp(S:SState):List Addr:=match S.rdy with|none=>[]|some r=>[r.1]
noncomputable def SState.fp(S:SState)(a:Addr):List Addr:=a::S.d::S.n2::(S.rfp++S.nodes.flatMap SNode.fp)
noncomputable def SState.rdv(S:SState):Value:=match S.rdy with|none=>.none|some r=>.ref r.1
inductive KeysAre:List Value->List Key->Prop
 |nil:KeysAre [] []
 |cons {v vs k ks}:k.is v=true->KeysAre vs ks->KeysAre (v::vs) (k::ks)
noncomputable def nodeObj(x:SNode)(kv:Value)(t:Tok):Obj:={cls:=.ref NIC,dict:=some x.dc,data:=.plain,slots:=#[some kv,some (.int x.np t),some (.ref x.lst)]}
structure NodeAt(h:Heap)(x:SNode):Prop where
 inst:∃kv t,x.key.is kv=true∧h.get? x.loc=some (nodeObj x kv t)
 dict:h.get? x.dc=some {cls:=.type "dict",data:=.dict #[]}
 list:∃vs n,h.get? x.lst=some {cls:=.type "list",data:=.seq (vs:List Value).toArray n}∧KeysAre vs x.succ
noncomputable def selfEntries(w:World)(ks:Tok×Tok×Tok×Tok)(n2:Addr)(rdy:Value)(np nf:Int)(t1 t2:Tok):List DictEntry:=
 [⟨PyData.keyHash w.params (Str.ofString "_node2info"),.str (Str.ofString "_node2info") ks.1,.ref n2⟩,
  ⟨PyData.keyHash w.params (Str.ofString "_ready_nodes"),.str (Str.ofString "_ready_nodes") ks.2.1,rdy⟩,
  ⟨PyData.keyHash w.params (Str.ofString "_npassedout"),.str (Str.ofString "_npassedout") ks.2.2.1,.int np t1⟩,
  ⟨PyData.keyHash w.params (Str.ofString "_nfinished"),.str (Str.ofString "_nfinished") ks.2.2.2,.int nf t2⟩]
structure SorterAt(prog:Program)(w:World)(h:Heap)(a:Addr)(S:SState):Prop where
 at_:a=S.loc
 lo:mainGlobals<S.n2
 nd:(S.fp a).Nodup
 inst:h.get? a=some {cls:=.ref TSC,dict:=some S.d}
 dict:∃ks t1 t2 n,h.get? S.d=some {cls:=.type "dict",data:=.dict (selfEntries w ks S.n2 S.rdv S.npass S.nfin t1 t2).toArray n}
 map:h.DictOf (mixKind prog w) S.n2 (S.nodes.map fun x=>(x.key,Value.ref x.loc))
 nodes:∀x∈S.nodes,NodeAt h x
 ready:∀r,S.rdy=some r->∃vs n,h.get? r.1=some {cls:=.type "list",data:=.seq (vs:List Value).toArray n}∧KeysAre vs r.2
theorem NodeAt.mono{h h':Heap}{x:SNode}(r:NodeAt h x)(hk:∀b∈x.fp,∀o,h.get? b=some o->h'.get? b=some o):NodeAt h' x where
 inst:=let⟨kv,t,h1,h2⟩:=r.inst;⟨kv,t,h1,hk _ (by simp[SNode.fp]) _ h2⟩
 dict:=hk _ (by simp[SNode.fp]) _ r.dict
 list:=let⟨vs,n,h1,h2⟩:=r.list;⟨vs,n,hk _ (by simp[SNode.fp]) _ h1,h2⟩
theorem NodeAt.there{h:Heap}{x:SNode}(r:NodeAt h x):∀b∈x.fp,(h.get? b).isSome=true:=by
 intro b hb
 simp only[SNode.fp,List.mem_cons,List.not_mem_nil,or_false]at hb
 rcases hb with rfl|rfl|rfl
 ·obtain⟨kv,t,_,h2⟩:=r.inst;rw[h2];rfl
 ·rw[r.dict];rfl
 ·obtain⟨vs,n,h1,_⟩:=r.list;rw[h1];rfl
theorem SState.mem_node{S:SState}{a b:Addr}{x:SNode}(hx:x∈S.nodes)(hb:b∈x.fp):b∈S.fp a:=by
 unfold SState.fp
 simp only[List.mem_cons,List.mem_append,List.mem_flatMap]
 exact .inr (.inr (.inr (.inr ⟨x,hx,hb⟩)))
theorem SState.mem_rdy{S:SState}{a:Addr}{r:Addr×List Key}(hr:S.rdy=some r):r.1∈S.fp a:=by
 unfold SState.fp SState.rfp
 simp[hr]
theorem SorterAt.mono{prog:Program}{w:World}{h h':Heap}{a:Addr}{S:SState}(x:SorterAt prog w h a S)(hk:∀b∈S.fp a,∀o,h.get? b=some o->h'.get? b=some o):SorterAt prog w h' a S where
 at_:=x.at_
 lo:=x.lo
 nd:=x.nd
 inst:=hk _ (by simp[SState.fp]) _ x.inst
 dict:=x.dict.imp fun ks h=>h.imp fun t1 h=>h.imp fun t2 h=>h.imp fun n h1=>hk _ (by simp[SState.fp]) _ h1
 map:=x.map.imp fun o h=>h.imp fun es h=>h.imp fun ep h=>⟨hk _ (by simp[SState.fp]) _ h.1,h.2⟩
 nodes:=fun y hy=>(x.nodes y hy).mono fun b hb=>hk b (SState.mem_node hy hb)
 ready:=fun r hr=>(x.ready r hr).imp fun vs h=>h.imp fun n h=>⟨hk _ (SState.mem_rdy hr) _ h.1,h.2⟩
theorem SorterAt.there{prog:Program}{w:World}{h:Heap}{a:Addr}{S:SState}(x:SorterAt prog w h a S):∀b∈S.fp a,(h.get? b).isSome=true:=by
 intro b hb
 unfold SState.fp at hb
 simp only[List.mem_cons,List.mem_append,List.mem_flatMap]at hb
 rcases hb with rfl|rfl|rfl|hb|⟨y,hy,hb⟩
 ·rw[x.inst];rfl
 ·obtain⟨ks,t1,t2,n,h1⟩:=x.dict;rw[h1];rfl
 ·obtain⟨o,_,_,ho,_⟩:=x.map;rw[ho];rfl
 ·unfold SState.rfp at hb
  cases hr:S.rdy with
  |none=>rw[hr]at hb;simp at hb
  |some r=>
   rw[hr]at hb
   obtain⟨vs,n,h1,_⟩:=x.ready r hr
   have:b=r.1:=by simpa using hb
   rw[this,h1];rfl
 ·have r:=x.nodes y hy
  simp only[SNode.fp,List.mem_cons,List.not_mem_nil,or_false]at hb
  rcases hb with rfl|rfl|rfl
  ·obtain⟨kv,t,_,h2⟩:=r.inst;rw[h2];rfl
  ·rw[r.dict];rfl
  ·obtain⟨vs,n,h1,_⟩:=r.list;rw[h1];rfl
inductive PV where
 |none|bool (b:Bool)|int (i:Int)|str (s:Str)
 |list (xs:List PV)|tuple (xs:List PV)
 |rng (a b c:Int)
 |dict (kvs:List (Key×PV))
 |raw (v:Value)
 |srt (S:SState)
 |sorter (a:AS)
 |info (x:SNode)
 |set (ks:List Key)
 |exc (cls:Value) (args:List PV)
 |nxt (p:Option (Addr×Nat))
noncomputable abbrev nextObj(it:Addr):Obj:={cls:=.type "method-wrapper",data:=.fields #[.builtin "list_iterator.__next__",.ref it]}
noncomputable abbrev lob(vs:List Value)(n:Nat):Obj:={cls:=.type "list",data:=.seq vs.toArray n}
noncomputable abbrev tob(vs:List Value)(n:Nat):Obj:={cls:=.type "tuple",data:=.seq vs.toArray n}
noncomputable abbrev rob(a b c:Int)(t1 t2 t3:Tok):Obj:={cls:=.type "range",data:=.fields #[.int a t1,.int b t2,.int c t3]}
mutual
inductive Rd(prog:Program)(w:World)(S:Addr->Prop)(h:Heap):Value->PV->Prop
 |none:Rd prog w S h .none .none
 |bool (b):Rd prog w S h (.bool b) (.bool b)
 |int (i t):Rd prog w S h (.int i t) (.int i)
 |str (x t):Rd prog w S h (.str x t) (.str x)
 |list {a vs n xs}:S a->h.get? a=some (lob vs n)->RdAll prog w S h vs xs->Rd prog w S h (.ref a) (.list xs)
 |tuple {a vs n xs}:S a->h.get? a=some (tob vs n)->RdAll prog w S h vs xs->Rd prog w S h (.ref a) (.tuple xs)
 |rng {a x y z t1 t2 t3}:S a->h.get? a=some (rob x y z t1 t2 t3)->Rd prog w S h (.ref a) (.rng x y z)
 |dict {a vs} {kvs:List (Key×PV)}:S a->mainGlobals<a->h.DictOf (mixKind prog w) a ((kvs.map (·.1)).zip vs)->RdAll prog w S h vs (kvs.map (·.2))->Rd prog w S h (.ref a) (.dict kvs)
 |raw (v):Rd prog w S h v (.raw v)
 |srt {a} {St:SState}:(∀b∈St.fp a,S b)->SorterAt prog w h a St->Rd prog w S h (.ref a) (.srt St)
 |sorter {a} {St:SState} {x}:(∀b∈St.fp a,S b)->SorterAt prog w h a St->St.abs=x->Rd prog w S h (.ref a) (.sorter x)
 |info {x:SNode}:(∀b∈x.fp,S b)->NodeAt h x->Rd prog w S h (.ref x.loc) (.info x)
 |set {a} {ks:List Key}:S a->h.SetOf (mixKind prog w) a (fun k=>decide (k∈ks)) ks.length->ks.Nodup->Rd prog w S h (.ref a) (.set ks)
 |exc {a t oe vs us n cls args}:S a->h.get? a=some oe->oe.cls=cls->oe.data= .fields vs->vs[0]?=some (.ref t)->S t->h.get? t=some (tob us n)->RdAll prog w S h us args->Rd prog w S h (.ref a) (.exc cls args)
 |nxt {b it p}:S b->S it->h.get? b=some (nextObj it)->(h.get? it).isSome=true->(∀l i,p=some (l,i)->h.IsListIter it l i)->Rd prog w S h (.ref b) (.nxt p)
inductive RdAll(prog:Program)(w:World)(S:Addr->Prop)(h:Heap):List Value->List PV->Prop
 |nil:RdAll prog w S h [] []
 |cons {v vs x xs}:Rd prog w S h v x->RdAll prog w S h vs xs->RdAll prog w S h (v::vs) (x::xs)
end
section
variable{prog:Program}{w:World}
theorem some_keep{h h':Heap}{a:Addr}(x:(h.get? a).isSome=true)(e:∀o,h.get? a=some o->h'.get? a=some o):(h'.get? a).isSome=true:=by
 obtain⟨o,ho⟩:=Option.isSome_iff_exists.mp x
 rw[e o ho];rfl
theorem SetOf.at{h h':Heap}{a:Addr}{S:Key->Bool}{n:Nat}(x:h.SetOf (mixKind prog w) a S n)(e:∀o,h.get? a=some o->h'.get? a=some o):h'.SetOf (mixKind prog w) a S n:=
 x.imp fun o h=>h.imp fun es h=>h.imp fun ep h=>h.imp fun t h=>⟨e _ h.1,h.2⟩
theorem DictOf.at{h h':Heap}{a:Addr}{kvs:List (Key×Value)}(x:h.DictOf (mixKind prog w) a kvs)(e:∀o,h.get? a=some o->h'.get? a=some o):h'.DictOf (mixKind prog w) a kvs:=
 x.imp fun o h=>h.imp fun es h=>h.imp fun ep h=>⟨e _ h.1,h.2⟩
noncomputable def RdV(prog:Program)(w:World)(S:Addr->Prop)(h:Heap)(v:Value)(x:PV):Prop:=match x with
 | .none=>v= .none
 | .bool b=>v= .bool b
 | .int i=>∃t,v= .int i t
 | .str y=>∃t,v= .str y t
 | .list xs=>∃a vs n,v= .ref a∧S a∧h.get? a=some (lob vs n)∧RdAll prog w S h vs xs
 | .tuple xs=>∃a vs n,v= .ref a∧S a∧h.get? a=some (tob vs n)∧RdAll prog w S h vs xs
 | .rng x y z=>∃a t1 t2 t3,v= .ref a∧S a∧h.get? a=some (rob x y z t1 t2 t3)
 | .dict kvs=>∃a vs,v= .ref a∧S a∧mainGlobals<a∧h.DictOf (mixKind prog w) a ((kvs.map (·.1)).zip vs)∧RdAll prog w S h vs (kvs.map (·.2))
 | .raw u=>v=u
 | .srt St=>∃a,v= .ref a∧(∀b∈St.fp a,S b)∧SorterAt prog w h a St
 | .sorter x=>∃a St,v= .ref a∧(∀b∈SState.fp St a,S b)∧SorterAt prog w h a St∧St.abs=x
 | .info x=>v= .ref x.loc∧(∀b∈x.fp,S b)∧NodeAt h x
 | .set ks=>∃a,v= .ref a∧S a∧h.SetOf (mixKind prog w) a (fun k=>decide (k∈ks)) ks.length∧ks.Nodup
 | .exc cls args=>∃a t oe vs us n,v= .ref a∧S a∧h.get? a=some oe∧oe.cls=cls∧oe.data= .fields vs∧vs[0]?=some (.ref t)∧S t∧h.get? t=some (tob us n)∧RdAll prog w S h us args
 | .nxt _=>True
theorem Rd.view{S:Addr->Prop}{h:Heap}{v:Value}{x:PV}(r:Rd prog w S h v x):RdV prog w S h v x:=by
 cases r with
 |none=>exact rfl
 |bool=>exact rfl
 |int i t=>exact⟨t,rfl⟩
 |str y t=>exact⟨t,rfl⟩
 |list a b c=>exact⟨_,_,_,rfl,a,b,c⟩
 |tuple a b c=>exact⟨_,_,_,rfl,a,b,c⟩
 |rng a b=>exact⟨_,_,_,_,rfl,a,b⟩
 |dict a b c d=>exact⟨_,_,rfl,a,b,c,d⟩
 |raw=>exact rfl
 |srt a b=>exact⟨_,rfl,a,b⟩
 |sorter a b c=>exact⟨_,_,rfl,a,b,c⟩
 |info a b=>exact⟨rfl,a,b⟩
 |set a b c=>exact⟨_,rfl,a,b,c⟩
 |exc a b c d e f g i=>exact⟨_,_,_,_,_,_,rfl,a,b,c,d,e,f,g,i⟩
 |nxt=>exact trivial
theorem len_one{α:Type}{vs:List α}(h:vs.length=1):∃u,vs=[u]:=by
 cases vs with
 |nil=>cases h
 |cons u r=>exact⟨u,congrArg _ (List.length_eq_zero_iff.mp (Nat.succ.inj h))⟩
theorem len_two{α:Type}{vs:List α}(h:vs.length=2):∃u w,vs=[u,w]:=by
 cases vs with
 |nil=>cases h
 |cons u r=>obtain⟨w,rfl⟩:=len_one (Nat.succ.inj h);exact⟨u,w,rfl⟩
theorem so{α:Type}{o:Option α}{x:α}(e:o=some x):o.isSome=true:=e▸rfl
theorem SetOf.so{h:Heap}{a:Addr}{S:Key->Bool}{n:Nat}(x:h.SetOf (mixKind prog w) a S n):(h.get? a).isSome=true:=x.elim fun ω h=>h.elim fun ω h=>h.elim fun ω h=>h.elim fun ω h=>Ts.so h.1
theorem DictOf.so{h:Heap}{a:Addr}{kvs:List (Key×Value)}(x:h.DictOf (mixKind prog w) a kvs):(h.get? a).isSome=true:=x.elim fun ω h=>h.elim fun ω h=>h.elim fun ω h=>Ts.so h.1
theorem Rd.gen{S S':Addr->Prop}{h h':Heap}(hS:∀a,S a->(h.get? a).isSome=true->S' a)(hk:∀a o,S a->h.get? a=some o->h'.get? a=some o):
  (∀v x,Rd prog w S h v x->Rd prog w S' h' v x)∧∀v x,RdAll prog w S h v x->RdAll prog w S' h' v x:=
 ⟨fun v x r=>Rd.rec (motive_1:=fun v x ω=>Rd prog w S' h' v x) (motive_2:=fun v x ω=>RdAll prog w S' h' v x) .none .bool .int .str
  (fun ha ho ω ih=>.list (hS _ ha (so ho)) (hk _ _ ha ho) ih) (fun ha ho ω ih=>.tuple (hS _ ha (so ho)) (hk _ _ ha ho) ih) (fun ha ho=>.rng (hS _ ha (so ho)) (hk _ _ ha ho))
  (fun ha hl hd ω ih=>.dict (hS _ ha (DictOf.so hd)) hl (DictOf.at hd fun o e=>hk _ o ha e) ih) .raw
  (fun hf hs=>.srt (fun b hb=>hS b (hf b hb) (hs.there b hb)) (hs.mono fun b hb o e=>hk b o (hf b hb) e)) (fun hf hs e=>.sorter (fun b hb=>hS b (hf b hb) (hs.there b hb)) (hs.mono fun b hb o e=>hk b o (hf b hb) e) e)
  (fun hf hs=>.info (fun b hb=>hS b (hf b hb) (hs.there b hb)) (hs.mono fun b hb o e=>hk b o (hf b hb) e)) (fun ha hs hn=>.set (hS _ ha (SetOf.so hs)) (SetOf.at hs fun o e=>hk _ o ha e) hn)
  (fun ha ho hc hd h0 ht hto ω ih=>.exc (hS _ ha (so ho)) (hk _ _ ha ho) hc hd h0 (hS _ ht (so hto)) (hk _ _ ht hto) ih)
  (fun hb hi h1 h2 h3=>.nxt (hS _ hb (so h1)) (hS _ hi h2) (hk _ _ hb h1) (some_keep h2 fun o e=>hk _ o hi e) fun l i e=>(h3 l i e).at fun o e=>hk _ o hi e) .nil (fun ω ω a b=>.cons a b) r,
  fun v x r=>RdAll.rec (motive_1:=fun v x ω=>Rd prog w S' h' v x) (motive_2:=fun v x ω=>RdAll prog w S' h' v x) .none .bool .int .str
  (fun ha ho ω ih=>.list (hS _ ha (so ho)) (hk _ _ ha ho) ih) (fun ha ho ω ih=>.tuple (hS _ ha (so ho)) (hk _ _ ha ho) ih) (fun ha ho=>.rng (hS _ ha (so ho)) (hk _ _ ha ho))
  (fun ha hl hd ω ih=>.dict (hS _ ha (DictOf.so hd)) hl (DictOf.at hd fun o e=>hk _ o ha e) ih) .raw
  (fun hf hs=>.srt (fun b hb=>hS b (hf b hb) (hs.there b hb)) (hs.mono fun b hb o e=>hk b o (hf b hb) e)) (fun hf hs e=>.sorter (fun b hb=>hS b (hf b hb) (hs.there b hb)) (hs.mono fun b hb o e=>hk b o (hf b hb) e) e)
  (fun hf hs=>.info (fun b hb=>hS b (hf b hb) (hs.there b hb)) (hs.mono fun b hb o e=>hk b o (hf b hb) e)) (fun ha hs hn=>.set (hS _ ha (SetOf.so hs)) (SetOf.at hs fun o e=>hk _ o ha e) hn)
  (fun ha ho hc hd h0 ht hto ω ih=>.exc (hS _ ha (so ho)) (hk _ _ ha ho) hc hd h0 (hS _ ht (so hto)) (hk _ _ ht hto) ih)
  (fun hb hi h1 h2 h3=>.nxt (hS _ hb (so h1)) (hS _ hi h2) (hk _ _ hb h1) (some_keep h2 fun o e=>hk _ o hi e) fun l i e=>(h3 l i e).at fun o e=>hk _ o hi e) .nil (fun ω ω a b=>.cons a b) r⟩
theorem Rd.mono{S S':Addr->Prop}{h h':Heap}{v:Value}{x:PV}(hS:∀a,S a->S' a)(hk:∀a o,S a->h.get? a=some o->h'.get? a=some o)(r:Rd prog w S h v x):Rd prog w S' h' v x:=
 (Rd.gen (fun a x ω=>hS a x) hk).1 v x r
theorem RdAll.mono{S S':Addr->Prop}{h h':Heap}{vs:List Value}{xs:List PV}(hS:∀a,S a->S' a)(hk:∀a o,S a->h.get? a=some o->h'.get? a=some o)(r:RdAll prog w S h vs xs):RdAll prog w S' h' vs xs:=
 (Rd.gen (fun a x ω=>hS a x) hk).2 vs xs r
theorem Rd.there{S:Addr->Prop}{h:Heap}{v:Value}{x:PV}(r:Rd prog w S h v x):Rd prog w (fun a=>S a∧(h.get? a).isSome=true) h v x:=
 (Rd.gen (fun ω x y=>⟨x,y⟩) fun ω ω ω e=>e).1 v x r
theorem RdAll.there{S:Addr->Prop}{h:Heap}{vs:List Value}{xs:List PV}(r:RdAll prog w S h vs xs):RdAll prog w (fun a=>S a∧(h.get? a).isSome=true) h vs xs:=
 (Rd.gen (fun ω x y=>⟨x,y⟩) fun ω ω ω e=>e).2 vs xs r
theorem RdAll.ind{S:Addr->Prop}{h:Heap}{P:List Value->List PV->Prop}(n:P [] [])(c:∀v vs x xs,Rd prog w S h v x->RdAll prog w S h vs xs->P vs xs->P (v::vs) (x::xs)){vs:List Value}{xs:List PV}(r:RdAll prog w S h vs xs):P vs xs:=
 RdAll.rec (motive_1:=fun ω ω ω=>True) (motive_2:=fun vs xs ω=>P vs xs) trivial (fun ω=>trivial) (fun ω ω=>trivial) (fun ω ω=>trivial) (fun ω ω ω ω=>trivial) (fun ω ω ω ω=>trivial) (fun ω ω=>trivial) (fun ω ω ω ω ω=>trivial)
  (fun ω=>trivial) (fun ω ω=>trivial) (fun ω ω ω=>trivial) (fun ω ω=>trivial) (fun ω ω ω=>trivial) (fun ω ω ω ω ω ω ω ω ω=>trivial) (fun ω ω ω ω ω=>trivial) n (fun a b ω i=>c _ _ _ _ a b i) r
theorem RdAll.length{S:Addr->Prop}{h:Heap}{vs:List Value}{xs:List PV}(r:RdAll prog w S h vs xs):vs.length=xs.length:=
 RdAll.ind (P:=fun vs xs=>vs.length=xs.length) rfl (fun ω ω ω ω ω ω ih=>congrArg Nat.succ ih) r
theorem RdAll.get{S:Addr->Prop}{h:Heap}{vs:List Value}{xs:List PV}{i:Nat}{x:PV}(r:RdAll prog w S h vs xs):xs[i]?=some x->∃v,vs[i]?=some v∧Rd prog w S h v x:=
 RdAll.ind (P:=fun vs xs=>∀i,xs[i]?=some x->∃v,vs[i]?=some v∧Rd prog w S h v x) (fun ω e=>by cases e)
  (fun v ω ω ω a ω ih i=>Nat.casesOn i (fun e=>⟨v,rfl,Option.some.inj e▸a⟩) fun i e=>ih i e) r i
theorem RdAll.getv{S:Addr->Prop}{h:Heap}{vs:List Value}{xs:List PV}{i:Nat}{v:Value}(r:RdAll prog w S h vs xs):vs[i]?=some v->∃x,xs[i]?=some x∧Rd prog w S h v x:=
 RdAll.ind (P:=fun vs xs=>∀i,vs[i]?=some v->∃x,xs[i]?=some x∧Rd prog w S h v x) (fun ω e=>by cases e)
  (fun ω ω x ω a ω ih i=>Nat.casesOn i (fun e=>⟨x,rfl,Option.some.inj e▸a⟩) fun i e=>ih i e) r i
theorem RdAll.append{S:Addr->Prop}{h:Heap}{vs us:List Value}{xs ys:List PV}(r:RdAll prog w S h vs xs)(r':RdAll prog w S h us ys):RdAll prog w S h (vs++us) (xs++ys):=
 RdAll.ind (P:=fun vs xs=>RdAll prog w S h (vs++us) (xs++ys)) r' (fun ω ω ω ω a ω ih=>.cons a ih) r
theorem RdAll.take{S:Addr->Prop}{h:Heap}{vs:List Value}{xs:List PV}(n:Nat)(r:RdAll prog w S h vs xs):RdAll prog w S h (vs.take n) (xs.take n):=
 RdAll.ind (P:=fun vs xs=>∀n:Nat,RdAll prog w S h (vs.take n) (xs.take n)) (fun n=>by cases n<;>exact .nil) (fun ω ω ω ω a ω ih n=>Nat.casesOn n .nil fun n=>.cons a (ih n)) r n
theorem RdAll.drop{S:Addr->Prop}{h:Heap}{vs:List Value}{xs:List PV}(n:Nat)(r:RdAll prog w S h vs xs):RdAll prog w S h (vs.drop n) (xs.drop n):=
 RdAll.ind (P:=fun vs xs=>∀n:Nat,RdAll prog w S h (vs.drop n) (xs.drop n)) (fun n=>by cases n<;>exact .nil) (fun ω ω ω ω a b ih n=>Nat.casesOn n (.cons a b) fun n=>ih n) r n
theorem RdAll.set{S:Addr->Prop}{h:Heap}{vs:List Value}{xs:List PV}(n:Nat){v:Value}{x:PV}(r:RdAll prog w S h vs xs)(rv:Rd prog w S h v x):RdAll prog w S h (vs.set n v) (xs.set n x):=
 RdAll.ind (P:=fun vs xs=>∀n:Nat,RdAll prog w S h (vs.set n v) (xs.set n x)) (fun n=>.nil) (fun ω ω ω ω a b ih n=>Nat.casesOn n (.cons rv b) fun n=>.cons a (ih n)) r n
noncomputable def PV.imm:PV->Bool
 | .none| .bool _| .int _| .str _| .raw _=>true
 |_=>false
theorem Rd.imm{S S':Addr->Prop}{h h':Heap}{v:Value}{x:PV}(hi:x.imm=true)(r:Rd prog w S h v x):Rd prog w S' h' v x:=by
 cases r with
 |none=>exact .none
 |bool b=>exact .bool b
 |int i t=>exact .int i t
 |str y t=>exact .str y t
 |raw v=>exact .raw v
 |list=>simp[PV.imm]at hi
 |tuple=>simp[PV.imm]at hi
 |rng=>simp[PV.imm]at hi
 |dict=>simp[PV.imm]at hi
 |srt=>simp[PV.imm]at hi
 |sorter=>simp[PV.imm]at hi
 |info=>simp[PV.imm]at hi
 |set=>simp[PV.imm]at hi
 |exc=>simp[PV.imm]at hi
 |nxt=>simp[PV.imm]at hi
theorem RdAll.imm{S S':Addr->Prop}{h h':Heap}{vs:List Value}{xs:List PV}(hi:∀x∈xs,x.imm=true)(r:RdAll prog w S h vs xs):RdAll prog w S' h' vs xs:=
 RdAll.ind (P:=fun vs xs=>(∀x∈xs,x.imm=true)->RdAll prog w S' h' vs xs) (fun ω=>.nil) (fun ω ω ω ω a ω ih hi=>.cons (a.imm (hi _ List.mem_cons_self)) (ih fun x hx=>hi x (List.mem_cons_of_mem _ hx))) r hi
mutual
noncomputable def PV.plain:PV->Bool
 | .none| .bool _| .int _=>true
 | .str s=>PyData.strOk s
 | .list xs| .tuple xs=>PV.plainAll xs
 | .rng _ _ _| .dict _| .raw _| .srt _| .sorter _| .info _| .set _| .exc _ _| .nxt _=>false
noncomputable def PV.plainAll:List PV->Bool
 |[]=>true
 |x::xs=>x.plain&&PV.plainAll xs
end
mutual
noncomputable def PV.py:PV->PyData
 | .none=>.none| .bool b=>.bool b| .int i=>.int i| .str s=>.str s
 | .list xs=>.list (PV.pyAll xs)| .tuple xs=>.tuple (PV.pyAll xs)
 | .rng _ _ _=>.none| .dict _=>.none| .raw _=>.none| .srt _=>.none| .sorter _=>.none| .info _=>.none| .set _=>.none| .exc _ _=>.none| .nxt _=>.none
noncomputable def PV.pyAll:List PV->List PyData
 |[]=>[]
 |x::xs=>x.py::PV.pyAll xs
end
theorem Rd.reads{S:Addr->Prop}{h:Heap}{x:PV}{v:Value}(hp:x.plain=true)(r:Rd prog w S h v x):∃as,Reads h v x.py as:=
 Rd.rec (motive_1:=fun v x ω=>x.plain=true->∃as,Reads h v x.py as) (motive_2:=fun vs xs ω=>PV.plainAll xs=true->∃as,ReadsAll h vs (PV.pyAll xs) as) (fun ω=>⟨_,.none⟩) (fun ω ω=>⟨_,.bool _⟩) (fun ω ω ω=>⟨_,.int _ _⟩) (fun ω ω ω=>⟨_,.str _ _⟩)
  (fun ω ho ω ih hp=>(ih (by simpa [PV.plain]using hp)).elim fun as ra=>⟨_,by rw[PV.py];exact .list ho rfl rfl (by simpa using ra)⟩) (fun ω ho ω ih hp=>(ih (by simpa [PV.plain]using hp)).elim fun as ra=>⟨_,by rw[PV.py];exact .tuple ho rfl rfl (by simpa using ra)⟩)
  (fun ω ω hp=>nomatch hp) (fun ω ω ω ω ω hp=>nomatch hp) (fun ω hp=>nomatch hp) (fun ω ω hp=>nomatch hp) (fun ω ω ω hp=>nomatch hp) (fun ω ω hp=>nomatch hp) (fun ω ω ω hp=>nomatch hp) (fun ω ω ω ω ω ω ω ω ω hp=>nomatch hp) (fun ω ω ω ω ω hp=>nomatch hp)
  (fun ω=>⟨_,.nil⟩) (fun ω ω h1 h2 hp=>by
   rw[PV.plainAll,Bool.and_eq_true]at hp
   obtain⟨as,ra⟩:=h1 hp.1
   obtain⟨bs,rb⟩:=h2 hp.2
   exact⟨_,by rw[PV.pyAll];exact .cons ra rb⟩) r hp
mutual
theorem PV.canLay0:∀x:PV,x.plain=true->x.py.canLay0=true
 | .none,_| .bool _,_| .int _,_=>by simp[PV.py,PyData.canLay0]
 | .str s,h=>by simpa [PV.py,PyData.canLay0,PV.plain]using h
 | .list xs,h| .tuple xs,h=>by
  have:=PV.canLayAll0 xs (by simpa [PV.plain]using h)
  simpa [PV.py,PyData.canLay0]using this
 | .rng _ _ _,h| .dict _,h| .raw _,h| .srt _,h| .sorter _,h| .info _,h| .set _,h| .exc _ _,h| .nxt _,h=>by simp[PV.plain]at h
theorem PV.canLayAll0:∀xs:List PV,PV.plainAll xs=true->PyData.canLayAll0 (PV.pyAll xs)=true
 |[],_=>by simp[PV.pyAll,PyData.canLayAll0]
 |x::xs,h=>by
  have h':x.plain=true∧PV.plainAll xs=true:=by simpa [PV.plainAll]using h
  simp[PV.pyAll,PyData.canLayAll0,PV.canLay0 x h'.1,PV.canLayAll0 xs h'.2]
end
end
structure Cx where
 prog:Program
 w:World
 K:Frag
 lev:Nat
 hd:Bool
noncomputable def Cx.gdict(C:Cx):Option (Array DictEntry):=
 match C.K.lookup mainGlobals with
 |some o=>match o.data with| .dict es _=>some es|_=>none
 |none=>none
noncomputable def Cx.glob(C:Cx)(x:Str):Option Value:=match C.gdict with|some es=>nsFind es x|none=>none
structure Cx.Ok(C:Cx):Prop where
 g:∃es,C.gdict=some es∧StrKeys es
structure Base(C:Cx)(h:Heap):Prop where
 kin:C.K.In h
 nolimit:h.NoLimit
 bns:∃mb,h.Ns builtinsNs mb∧∀x:Str,x≠"__name__"->mb x=bootBuiltins x
 nodigits:∃mc,h.Ns cStatics mc∧mc "sys.int_max_str_digits" =none
noncomputable def onStack(A:Around)(a:Addr):Prop:=∃l,A.frames=some l∧∃e∈l,e.frame=some a
noncomputable def Fz(A:Around)(env:Env)(a:Addr):Prop:=a=env.locals∨onStack A a
noncomputable def Sk(A:Around)(env:Env)(h h':Heap):Prop:=∀a o,onStack A a->a≠env.locals->h.get? a=some o->∃sl,h'.get? a=some {o with slots:=sl}
theorem Sk.refl{A:Around}{env:Env}(h:Heap):Sk A env h h:=fun ω o ω ω e=>⟨o.slots,e⟩
theorem Sk.trans{A:Around}{env:Env}{h h' h'':Heap}(x:Sk A env h h')(y:Sk A env h' h''):Sk A env h h'':=fun a o ha hl e=>let⟨_,e1⟩:=x a o ha hl e;let⟨sl,e2⟩:=y a _ ha hl e1;⟨sl,e2⟩
theorem Sk.of_keep{A:Around}{env:Env}{h h':Heap}(k:∀a o,onStack A a->a≠env.locals->h.get? a=some o->h'.get? a=some o):Sk A env h h':=fun a o ha hl e=>⟨o.slots,k a o ha hl e⟩
structure Ext(A:Around)(env:Env)(h h':Heap):Prop where
 keep:∀a o,¬Fz A env a->h.get? a=some o->h'.get? a=some o
 ns:∀m,h.Ns env.locals m->h'.Ns env.locals m
 fr:Sk A env h h'
section
variable{A:Around}{env:Env}
theorem Ext.refl(A:Around)(env:Env)(h:Heap):Ext A env h h:=⟨fun ω ω ω e=>e,fun ω e=>e,fun ω o ω ω e=>⟨o.slots,e⟩⟩
theorem Ext.trans{h₁ h₂ h₃:Heap}(x:Ext A env h₁ h₂)(y:Ext A env h₂ h₃):Ext A env h₁ h₃:=
 ⟨fun a o ha e=>y.keep a o ha (x.keep a o ha e),fun m e=>y.ns m (x.ns m e),fun a o ha hl e=>let⟨_,e1⟩:=x.fr a o ha hl e;let⟨sl,e2⟩:=y.fr a _ ha hl e1;⟨sl,e2⟩⟩
theorem Ext.of_keepB{h h':Heap}(k:∀a o,a≠env.locals->h.get? a=some o->h'.get? a=some o)(n:∀m,h.Ns env.locals m->h'.Ns env.locals m):Ext A env h h':=
 ⟨fun a o ha e=>k a o (fun h=>ha (.inl h)) e,n,fun a o ω hl e=>⟨o.slots,k a o hl e⟩⟩
theorem Ext.of_keeps{h h':Heap}(k:∀a o,h.get? a=some o->h'.get? a=some o):Ext A env h h':=
 .of_keepB (fun a o ω e=>k a o e) fun ω e=>e.keeps k
theorem Ext.push{h h':Heap}(x:Ext A env h h')(o:Obj):Ext A env h (h'.push o):=
 x.trans (.of_keeps fun ω ω e=>Heap.get?_push_of_some _ e)
theorem Ext.sameBut{a:Addr}{h h' h'':Heap}(x:Ext A env h h')(hs:Heap.SameBut a h' h'')(ha:h.get? a=none)(hL:a≠env.locals):Ext A env h h'':=by
 have hne:∀b o,h.get? b=some o->b≠a:=fun b o e q=>by rw[←q,e]at ha;cases ha
 refine⟨fun b o hb e=>?_,fun m e=>(x.ns m e).sameBut hs (Ne.symm hL),fun b o hb hl e=>?_⟩
 ·exact(hs.2 b (hne b o e)).trans (x.keep b o hb e)
 ·obtain⟨sl,h1⟩:=x.fr b o hb hl e
  exact⟨sl,(hs.2 b (hne b o e)).trans h1⟩
end
structure EnvOk(C:Cx)(h:Heap)(env:Env):Prop where
 kind:env.scope.kind= .function
 glob:env.globals=mainGlobals
 bltn:env.builtins=builtinsNs
 ns:∃m,h.Ns env.locals m
 cell:∀x,(env.kindOf x=some .cell∨env.kindOf x=some .free)->∃c v,env.cells.lookup x=some c∧h.IsCell c v
 call:∀x c,env.cells.lookup x=some c->∃v,h.IsCell c v
 apart:∀x y c,env.cells.lookup x=some c->env.cells.lookup y=some c->x=y
 notL:∀x c,env.cells.lookup x=some c->c≠env.locals
 below:∀a o,C.K.lookup a=some o->a<env.locals
 high:mainGlobals<env.locals
 chigh:∀x c,env.cells.lookup x=some c->mainGlobals<c∧∀a o,C.K.lookup a=some o->a≠c
structure Fra(C:Cx)(A:Around)(h:Heap):Prop where
 ex:∃l,A.frames=some l∧∀e∈l,e.scope.kind≠.module∧∃L o es ep,e.frame=some L∧(∀a o,C.K.lookup a=some o->a<L)∧mainGlobals<L∧h.get? L=some o∧o.data= .dict es ep
theorem Fra.high{C:Cx}{A:Around}{h:Heap}(x:Fra C A h){a:Addr}(ha:onStack A a):(∀b o,C.K.lookup b=some o->b<a)∧mainGlobals<a∧∃o es ep,h.get? a=some o∧o.data= .dict es ep:=by
 obtain⟨l,hl,hx⟩:=x.ex
 obtain⟨l',hl',e,he,hf⟩:=ha
 rw[hl]at hl';cases hl'
 obtain⟨_,L,o,es,ep,h1,h2,h3,h4,h5⟩:=hx e he
 rw[hf]at h1;cases h1
 exact⟨h2,h3,o,es,ep,h4,h5⟩
theorem Fra.move{C:Cx}{A:Around}{h h':Heap}(x:Fra C A h)(k:∀a o,onStack A a->h.get? a=some o->(∃es ep,o.data= .dict es ep)->∃o',h'.get? a=some o'∧∃es ep,o'.data= .dict es ep):Fra C A h':=by
 obtain⟨l,hl,hx⟩:=x.ex
 refine⟨l,hl,fun e he=>?_⟩
 obtain⟨h0,L,o,es,ep,h1,h2,h3,h4,h5⟩:=hx e he
 obtain⟨o',h6,es',ep',h7⟩:=k L o ⟨l,hl,e,he,h1⟩ h4 ⟨es,ep,h5⟩
 exact⟨h0,L,o',es',ep',h1,h2,h3,h6,h7⟩
theorem Fra.ext{C:Cx}{A:Around}{env:Env}{h h':Heap}(x:Fra C A h)(hn:∃m,h.Ns env.locals m)(e:Ext A env h h'):Fra C A h':=x.move fun a o ha ho hd=>by
 by_cases hl:a=env.locals
 ·subst hl
  obtain⟨m,hm⟩:=hn
  obtain⟨o',es,ep,ho',hd',_⟩:=e.ns m hm
  exact⟨o',ho',es,ep,hd'⟩
 ·obtain⟨sl,h1⟩:=e.fr a o ha hl ho
  exact⟨_,h1,hd⟩
theorem Fra.sk{C:Cx}{A:Around}{env:Env}{h h':Heap}(x:Fra C A h)(hn:∃m,h'.Ns env.locals m)(sk:Sk A env h h'):Fra C A h':=x.move fun a o ha ho hd=>by
 by_cases hl:a=env.locals
 ·subst hl
  obtain⟨m,o',es,ep,ho',hd',_⟩:=hn
  exact⟨o',ho',es,ep,hd'⟩
 ·obtain⟨sl,h1⟩:=sk a o ha hl ho
  exact⟨_,h1,hd⟩
theorem Fra.ne{C:Cx}{A:Around}{h:Heap}(x:Fra C A h){a:Addr}{o:Obj}(ho:h.get? a=some o)(hd:∀es ep,o.data≠.dict es ep): ¬onStack A a:=fun ha=>by
 obtain⟨_,_,o',es,ep,h1,h2⟩:=x.high ha
 rw[ho]at h1;cases h1
 exact hd es ep h2
theorem EnvOk.ext{C:Cx}{A:Around}{h h':Heap}{env:Env}(x:EnvOk C h env)(fx:Fra C A h)(e:Ext A env h h'):EnvOk C h' env where
 kind:=x.kind
 glob:=x.glob
 bltn:=x.bltn
 ns:=let⟨m,hm⟩:=x.ns;⟨m,e.ns m hm⟩
 cell:=fun y hy=>let⟨c,v,h1,o,h2,h3⟩:=x.cell y hy;⟨c,v,h1,o,e.keep c o (fun hz=>hz.elim (x.notL y c h1) (fx.ne h2 (by rw[h3];nofun))) h2,h3⟩
 call:=fun y c hy=>let⟨v,o,h2,h3⟩:=x.call y c hy;⟨v,o,e.keep c o (fun hz=>hz.elim (x.notL y c hy) (fx.ne h2 (by rw[h3];nofun))) h2,h3⟩
 apart:=x.apart
 notL:=x.notL
 below:=x.below
 high:=x.high
 chigh:=x.chigh
theorem Fra.low{C:Cx}{A:Around}{env:Env}{h:Heap}(x:Fra C A h)(k:EnvOk C h env){a:Addr}(ha:Fz A env a):(∀b o,C.K.lookup b=some o->b<a)∧mainGlobals<a:=by
 rcases ha with rfl|ha
 ·exact⟨k.below,k.high⟩
 ·exact⟨(x.high ha).1,(x.high ha).2.1⟩
theorem Base.ext{C:Cx}{A:Around}{env:Env}{h h':Heap}(x:Base C h)(e:Ext A env h h')(fx:Fra C A h)(k:EnvOk C h env):Base C h':=by
 have hne:∀ {a:Addr} {m},a≤mainGlobals->h.Ns a m->h'.Ns a m:=fun{a m} ha hn=>by
  obtain⟨o,es,ep,ho,r⟩:=hn
  exact⟨o,es,ep,e.keep a o (fun hz=>Nat.not_le.mpr (fx.low k hz).2 ha) ho,r⟩
 refine⟨fun a o hk=>e.keep a o (fun hz=>Nat.lt_irrefl _ ((fx.low k hz).1 a o hk)) (x.kin a o hk),?_,?_,?_⟩
 ·obtain⟨mc,h1,h2⟩:=x.nolimit
  exact⟨mc,hne (by decide) h1,h2⟩
 ·obtain⟨mb,h1,h2⟩:=x.bns
  exact⟨mb,hne (by decide) h1,h2⟩
 ·obtain⟨mc,h1,h2⟩:=x.nodigits
  exact⟨mc,hne (by decide) h1,h2⟩
noncomputable def VarAt(h:Heap)(env:Env)(x:Str)(v:Value):Prop:=
 (env.kindOf x=some .local∧∃m,h.Ns env.locals m∧m x=some v)∨
 ((env.kindOf x=some .cell∨env.kindOf x=some .free)∧x≠"__classdict__"∧∃c,env.cells.lookup x=some c∧h.IsCell c (some v))
theorem VarAt.ext{C:Cx}{A:Around}{h h':Heap}{env:Env}{x:Str}{v:Value}(k:EnvOk C h env)(fx:Fra C A h)(a:VarAt h env x v)(e:Ext A env h h'):VarAt h' env x v:=by
 rcases a with⟨h1,m,h2,h3⟩|⟨h1,h0,c,h2,o,h3,h4⟩
 ·exact .inl ⟨h1,m,e.ns m h2,h3⟩
 ·exact .inr ⟨h1,h0,c,h2,o,e.keep c o (fun hz=>hz.elim (k.notL x c h2) (fx.ne h3 (by rw[h4];nofun))) h3,h4⟩
noncomputable def isVar(k:Option NameKind):Bool:=match k with|some .local|some .cell|some .free=>true|_=>false
noncomputable abbrev Gam:=List (Str×Option (Nat×PV))
noncomputable def bn(md:Bool):Nat:=if md then 0 else 2
theorem bn_eq(md:Bool):(bn md==0)=md:=by cases md<;>rfl
noncomputable def Own1(C:Cx)(S U:Addr->Prop)(h:Heap)(v:Value):PV->Prop
 | .list xs=>∃a vs n,v= .ref a∧U a∧h.get? a=some (lob vs n)∧RdAll C.prog C.w S h vs xs
 | .dict kvs=>∃a vs,v= .ref a∧U a∧mainGlobals<a∧h.DictOf (mixKind C.prog C.w) a ((kvs.map (·.1)).zip vs)∧RdAll C.prog C.w S h vs (kvs.map (·.2))
 |_=>True
theorem Own1.mono{C:Cx}{S U S' U':Addr->Prop}{h h':Heap}{v:Value}{x:PV}(hS:∀a,S a->S' a)(hU:∀a,U a->U' a)(hSU:∀a,S a->U a)(hk:∀a o,U a->h.get? a=some o->h'.get? a=some o)(r:Own1 C S U h v x):Own1 C S' U' h' v x:=by
 cases x with
 |list xs=>obtain⟨a,vs,n,e,ha,ho,rs⟩:=r;exact⟨a,vs,n,e,hU a ha,hk a _ ha ho,rs.mono hS fun a o ha=>hk a o (hSU a ha)⟩
 |dict kvs=>obtain⟨a,vs,e,ha,hl,hd,rs⟩:=r;exact⟨a,vs,e,hU a ha,hl,DictOf.at hd fun o ho=>hk a o ha ho,rs.mono hS fun a o ha=>hk a o (hSU a ha)⟩
 |_=>trivial
structure Here(C:Cx)(A:Around)(S U:Addr->Prop)(env:Env)(Γ:Gam)(h:Heap):Prop where
 cx:C.Ok
 base:Base C h
 eok:EnvOk C h env
 fra:Fra C A h
 sub:∀a,S a->U a
 old:∀a,U a->(h.get? a).isSome=true∧¬Fz A env a∧∀x c,env.cells.lookup x=some c->a≠c
 has:∀x n pv,Γ.lookup x=some (some (n,pv))->isVar (env.kindOf x)=true->∃v,VarAt h env x v∧Rd C.prog C.w (fun a=>if n==0 then S a else U a) h v pv∧(n=1->Own1 C S U h v pv)
structure Nsf(C:Cx)(A:Around)(env:Env)(h:Heap):Prop where
 ns:∃m,h.Ns env.locals m
 fra:Fra C A h
theorem Here.nsf{C:Cx}{A:Around}{S U:Addr->Prop}{env:Env}{Γ:Gam}{h:Heap}(x:Here C A S U env Γ h):Nsf C A env h:=⟨x.eok.ns,x.fra⟩
theorem Nsf.there{C:Cx}{A:Around}{env:Env}{h:Heap}(x:Nsf C A env h){a:Addr}(ha:Fz A env a):(h.get? a).isSome=true:=by
 rcases ha with rfl|ha
 ·obtain⟨m,o',_,_,ho',_⟩:=x.ns;rw[ho'];rfl
 ·obtain⟨_,_,o,_,_,ho,_⟩:=x.fra.high ha;rw[ho];rfl
theorem Here.ext{C:Cx}{A:Around}{S U:Addr->Prop}{env:Env}{Γ:Gam}{h h':Heap}(x:Here C A S U env Γ h)(e:Ext A env h h'):Here C A S U env Γ h' where
 cx:=x.cx
 base:=x.base.ext e x.fra x.eok
 eok:=x.eok.ext x.fra e
 fra:=x.fra.ext x.eok.ns e
 sub:=x.sub
 old:=fun a ha=>by
  obtain⟨h1,h2,h3⟩:=x.old a ha
  obtain⟨o,ho⟩:=Option.isSome_iff_exists.mp h1
  exact⟨by rw[e.keep a o h2 ho];rfl,h2,h3⟩
 has:=fun y n pv hy hv=>by
  obtain⟨v,h1,h2,h3⟩:=x.has y n pv hy hv
  refine⟨v,h1.ext x.eok x.fra e,h2.mono (fun ω z=>z) fun a o ha ho=>e.keep a o ?_ ho,fun hn=>(h3 hn).mono (fun ω z=>z) (fun ω z=>z) x.sub fun a o ha ho=>e.keep a o (x.old a ha).2.1 ho⟩
  by_cases hn:(n==0)=true
  ·rw[if_pos hn]at ha;exact(x.old a (x.sub a ha)).2.1
  ·rw[if_neg hn]at ha;exact(x.old a ha).2.1
noncomputable def Room(C:Cx)(A:Around):Prop:=(C.hd=false->A.handled=none)∧A.depth+40+4*C.lev<recursionLimit∧A.units+400+40*C.lev<cLine
noncomputable def Reg(md:Bool)(S U:Addr->Prop)(h:Heap)(a:Addr):Prop:=(if md then S a else U a)∨h.get? a=none
theorem Ext.live{A:Around}{env:Env}{h h':Heap}(e:Ext A env h h')(hn:∃m,h.Ns env.locals m){a:Addr}(ha:(h.get? a).isSome=true):(h'.get? a).isSome=true:=by
 obtain⟨o,ho⟩:=Option.isSome_iff_exists.mp ha
 by_cases haL:a=env.locals
 ·subst haL
  obtain⟨m,hm⟩:=hn
  obtain⟨o',_,_,ho',_⟩:=e.ns m hm
  rw[ho'];rfl
 ·by_cases hs:onStack A a
  ·obtain⟨sl,h1⟩:=e.fr a o hs haL ho;rw[h1];rfl
  ·rw[e.keep a o (fun hz=>hz.elim haL hs) ho];rfl
theorem Ext.fresh{A:Around}{env:Env}{h h':Heap}(e:Ext A env h h')(hn:∃m,h.Ns env.locals m){a:Addr}(ha:h'.get? a=none):h.get? a=none:=by
 cases hh:h.get? a with
 |none=>rfl
 |some o=>have:=e.live hn (a:=a) (by rw[hh];rfl);rw[ha]at this;cases this
theorem Ext.fresh_at{A:Around}{env:Env}{h h':Heap}(e:Ext A env h h')(hn:∃m,h.Ns env.locals m):h.get? h'.objs.size=none:=
 e.fresh hn (by cases hh:h'.get? h'.objs.size with|none=>rfl|some o=>exact absurd (Heap.lt_size hh) (Nat.lt_irrefl _))
noncomputable def Ev(C:Cx)(env:Env)(Γ:Gam)(e:Expr)(md:Bool)(x:PV):Prop:=
 ∀ (A:Around) (S U:Addr->Prop) (s:Shared) (Q:Value->Shared->Prop) (E:Value->Shared->Prop),Room C A->Here C A S U env Γ s.heap->
  (∀v h' t',Ext A env s.heap h'->Rd C.prog C.w (Reg md S U s.heap) h' v x->Q v {s with heap:=h',toks:=t'})->
  wpAny (model C.prog C.w) A (eval e env) Q E s
noncomputable def EvB(C:Cx)(env:Env)(Γ:Gam)(e:Expr)(b:Bool):Prop:=
 ∀ (A:Around) (S U:Addr->Prop) (s:Shared) (Q:Bool->Shared->Prop) (E:Value->Shared->Prop),Room C A->Here C A S U env Γ s.heap->
  (∀h' t',Ext A env s.heap h'->Q b {s with heap:=h',toks:=t'})->
  wpAny (model C.prog C.w) A (isTrue e env (eval e env)) Q E s
section
variable{C:Cx}{env:Env}{Γ:Gam}
theorem Ev.imm{e:Expr}{md:Bool}{x:PV}(h:Ev C env Γ e md x)(hi:x.imm=true){md':Bool}:Ev C env Γ e md' x:=
 fun A S U s Q E hr hh hq=>h A S U s Q E hr hh fun v h' t' e r=>hq v h' t' e (r.imm hi)
theorem Ev.uns{e:Expr}{x:PV}(h:Ev C env Γ e true x){md:Bool}:Ev C env Γ e md x:=
 fun A S U s Q E hr hh hq=>h A S U s Q E hr hh fun v h' t' e r=>hq v h' t' e (r.mono (fun a ra=>by
  rcases ra with ra|ra
  ·left;cases md
   ·exact hh.sub a ra
   ·exact ra
  ·exact .inr ra) fun ω ω ω e=>e)
theorem Ev.int{i:Int}{k:Nat}{p:Pos}{md:Bool}:Ev C env Γ (.Constant (.int i) k p) md (.int i):=
 fun ω ω ω s ω ω ω ω hq=>wpAny_Constant_int (hq _ s.heap _ (.refl _ _ _) (.int _ _))
theorem Ev.bool{b:Bool}{k:Nat}{p:Pos}{md:Bool}:Ev C env Γ (.Constant (.bool b) k p) md (.bool b):=
 fun ω ω ω s ω ω ω ω hq=>wpAny_Constant_bool (hq _ s.heap _ (.refl _ _ _) (.bool _))
theorem Ev.nne{k:Nat}{p:Pos}{md:Bool}:Ev C env Γ (.Constant .none k p) md .none:=
 fun ω ω ω s ω ω ω ω hq=>wpAny_Constant_none (hq _ s.heap _ (.refl _ _ _) .none)
theorem isVar_cases{k:Option NameKind}(h:isVar k=true):k=some .local∨k=some .cell∨k=some .free:=by
 cases k with
 |none=>simp[isVar]at h
 |some k=>cases k<;>simp[isVar]at h<;>simp
theorem wpAny_loadVar{C:Cx}{M:Model}{A:Around}{E:Value->Shared->Prop}{s:Shared}{env:Env}{x:Str}{v:Value}{Q:Value->Shared->Prop}(k:EnvOk C s.heap env)(a:VarAt s.heap env x v)(h:Q v s):wpAny M A (loadName env x) Q E s:=by
 rcases a with⟨h1,m,h2,h3⟩|⟨h1|h1,h0,c,h2,h3⟩
 ·exact wpAny_loadName_local k.kind h1 h2 h3 h
 ·exact wpAny_loadName_cell k.kind h1 h2 h3 h
 ·exact wpAny_loadName_free k.kind h1 h2 h3 h (by simpa using h0)
theorem Ev.name{x:Str}{p:Pos}{n:Nat}{md:Bool}{pv:PV}(hx:Γ.lookup x=some (some (n,pv)))(hk:isVar (env.kindOf x)=true)(hmd:md=(n==0):=by rfl)(hd:(x==("__debug__":Str))=false:=by rfl):
  Ev C env Γ (.Name x p) md pv:=fun A S U s Q E hr hh hq=>by
 subst hmd
 obtain⟨v,h1,h2,_⟩:=hh.has x n pv hx hk
 refine wpAny_Name (wpAny_loadVar hh.eok h1 ?_) hd
 exact hq v s.heap s.toks (.refl _ _ _) (h2.mono (fun a ha=>.inl ha) fun ω ω ω e=>e)
set_option tactic.hygienic true in
theorem glob_ns{C:Cx}{h:Heap}(ok:C.Ok)(B:Base C h):∃m,h.Ns mainGlobals m∧∀x,m x=C.glob x:=by
 obtain⟨es,h1,h2⟩:=ok.g
 unfold Cx.gdict at h1
 cases hk:C.K.lookup mainGlobals with
 |none=>rw[hk]at h1;cases h1
 |some o=>
  rw[hk]at h1
  cases hd:o.data<;>simp only[hd]at h1<;>try cases h1
  rename_i n
  refine⟨nsFind es,⟨o,es,n,B.kin _ _ hk,hd,h2,fun ω=>rfl⟩,fun x=>?_⟩
  unfold Cx.glob Cx.gdict
  simp only[hk,hd]
theorem wpAny_loadGlob{M:Model}{A:Around}{E:Value->Shared->Prop}{s:Shared}{x:Str}{v:Value}{Q:Value->Shared->Prop}(ok:C.Ok)(B:Base C s.heap)(k:EnvOk C s.heap env)
  (hk:env.kindOf x=some .globalImplicit) (hv:C.glob x=some v∨(C.glob x=none∧x≠"__name__"∧bootBuiltins x=some v)) (h:Q v s):wpAny M A (loadName env x) Q E s:=by
 obtain⟨m,hm,hmx⟩:=glob_ns ok B
 have hg:env.globals=mainGlobals:=k.glob
 have hb:env.builtins=builtinsNs:=k.bltn
 unfold loadName
 simp only[Env.blockKind,k.kind,hk,ScopeKind.isAnnotationScope,Bool.false_and,Bool.false_eq_true,if_false]
 unfold loadGlobal
 rw[hg,hb]
 refine wpAny_bind (wpAny_nsGet hm ?_)
 rcases hv with hv|⟨h1,h2,h3⟩
 ·rw[hmx,hv];exact wpAny_pure h
 ·rw[hmx,h1]
  obtain⟨mb,hmb,hb'⟩:=B.bns
  refine wpAny_bind (wpAny_nsGet hmb ?_)
  rw[hb' x h2,h3];exact wpAny_pure h
theorem Ev.builtin{x:Str}{p:Pos}{v:Value}{md:Bool}(hk:env.kindOf x=some .globalImplicit)(hg:C.glob x=none)(hv:bootBuiltins x=some v)(hn:x≠"__name__":=by decide)(hd:(x==("__debug__":Str))=false:=by rfl):
  Ev C env Γ (.Name x p) md (.raw v):=fun ω ω ω s ω ω ω hh hq=>
 wpAny_Name (wpAny_loadGlob hh.cx hh.base hh.eok hk (.inr ⟨hg,hn,hv⟩) (hq v s.heap s.toks (.refl _ _ _) (.raw _))) hd
theorem Fz.there{C:Cx}{A:Around}{S U:Addr->Prop}{env:Env}{Γ:Gam}{h:Heap}(hh:Here C A S U env Γ h){a:Addr}(ha:Fz A env a):(h.get? a).isSome=true:=by
 rcases ha with rfl|ha
 ·obtain⟨m,o',_,_,ho',_⟩:=hh.eok.ns;rw[ho'];rfl
 ·obtain⟨_,_,o,_,_,ho,_⟩:=hh.fra.high ha;rw[ho];rfl
theorem Reg.neL{C:Cx}{A:Around}{env:Env}{Γ:Gam}{S U:Addr->Prop}{m1:Bool}{s:Shared}{a:Addr}(hh:Here C A S U env Γ s.heap)(ha:Reg m1 S U s.heap a): ¬Fz A env a:=by
 rcases ha with ha|ha
 ·cases m1
  ·exact(hh.old a ha).2.1
  ·exact(hh.old a (hh.sub a ha)).2.1
 ·intro hz
  have:=Fz.there hh hz
  rw[ha]at this;cases this
theorem Ev.two{l r:Expr}{m1 m2:Bool}{x y:PV}(h1:Ev C env Γ l m1 x)(h2:Ev C env Γ r m2 y){A:Around}{S U:Addr->Prop}{s:Shared}{F:Value->Value->Shared->Prop}{E:Value->Shared->Prop}
  (hr:Room C A) (hh:Here C A S U env Γ s.heap)
  (hq:∀v u h' t',Ext A env s.heap h'->Rd C.prog C.w (Reg m1 S U s.heap) h' v x->Rd C.prog C.w (Reg m2 S U s.heap) h' u y->F v u {s with heap:=h',toks:=t'}):
  wpAny (model C.prog C.w) A (eval l env) (fun a s₁=>wpAny (model C.prog C.w) A (eval r env) (fun b s₂=>F a b s₂) E s₁) E s:=
 h1 A S U s _ E hr hh fun v h' t' e rd=>h2 A S U _ _ E hr (hh.ext e) fun u h'' t'' e' rd'=>
  hq v u h'' t'' (e.trans e')
   (rd.mono (fun ω z=>z) fun a o ha ho=>e'.keep a o (Reg.neL hh ha) ho)
   (rd'.mono (fun a ha=>ha.imp id (e.fresh hh.eok.ns)) fun ω ω ω z=>z)
theorem Ev.bin{l r:Expr}{op:Operator}{p:Pos}{m1 m2 md:Bool}{x y z:PV}(h1:Ev C env Γ l m1 x)(h2:Ev C env Γ r m2 y)
  (hop:∀ (A:Around) (S U:Addr->Prop) (s:Shared) (h₀:Heap) (v u:Value) (Q:Value->Shared->Prop) (E:Value->Shared->Prop),Room C A->Here C A S U env Γ s.heap->Ext A env h₀ s.heap->Nsf C A env h₀->
   Rd C.prog C.w (Reg m1 S U h₀) s.heap v x->Rd C.prog C.w (Reg m2 S U h₀) s.heap u y->
   (∀v h' t',Ext A env s.heap h'->Rd C.prog C.w (Reg md S U h₀) h' v z->Q v {s with heap:=h',toks:=t'})->wpAny (model C.prog C.w) A (binaryOp op v u) Q E s):
  Ev C env Γ (.BinOp l op r p) md z:=fun A S U s Q E hr hh hq=>
 wpAny_BinOp (Ev.two h1 h2 hr hh fun v u h' t' e rv ru=>hop A S U _ s.heap v u Q E hr (hh.ext e) e hh.nsf rv ru fun v' h'' t'' e' r'=>hq v' h'' t'' (e.trans e') r')
theorem Rd.int_inv{S:Addr->Prop}{h:Heap}{v:Value}{i:Int}{prog:Program}{w:World}(r:Rd prog w S h v (.int i)):∃t,v= .int i t:=r.view
theorem Rd.str_inv{S:Addr->Prop}{h:Heap}{v:Value}{i:Str}{prog:Program}{w:World}(r:Rd prog w S h v (.str i)):∃t,v= .str i t:=r.view
theorem Rd.bool_inv{S:Addr->Prop}{h:Heap}{v:Value}{i:Bool}{prog:Program}{w:World}(r:Rd prog w S h v (.bool i)):v= .bool i:=r.view
theorem Rd.none_inv{S:Addr->Prop}{h:Heap}{v:Value}{prog:Program}{w:World}(r:Rd prog w S h v .none):v= .none:=r.view
theorem Rd.raw_inv{S:Addr->Prop}{h:Heap}{v u:Value}{prog:Program}{w:World}(r:Rd prog w S h v (.raw u)):v=u:=r.view
theorem Rd.list_inv{S:Addr->Prop}{h:Heap}{v:Value}{xs:List PV}{prog:Program}{w:World}(r:Rd prog w S h v (.list xs)):∃a vs n,v= .ref a∧S a∧h.get? a=some (lob vs n)∧RdAll prog w S h vs xs:=r.view
theorem Rd.tuple_inv{S:Addr->Prop}{h:Heap}{v:Value}{xs:List PV}{prog:Program}{w:World}(r:Rd prog w S h v (.tuple xs)):∃a vs n,v= .ref a∧S a∧h.get? a=some (tob vs n)∧RdAll prog w S h vs xs:=r.view
section
variable{l r:Expr}{p:Pos}{m1 m2 md:Bool}
theorem Ev.add_int{i j:Int}(h1:Ev C env Γ l m1 (.int i))(h2:Ev C env Γ r m2 (.int j)):Ev C env Γ (.BinOp l .Add r p) md (.int (i+j)):=
 Ev.bin h1 h2 fun A S U s h₀ v u Q E hr hh e hns rv ru hq=>by
  obtain⟨t,rfl⟩:=rv.int_inv;obtain⟨t',rfl⟩:=ru.int_inv
  exact wpAny_add_int (hq _ s.heap _ (.refl _ _ _) (.int _ _))
theorem Ev.sub_int{i j:Int}(h1:Ev C env Γ l m1 (.int i))(h2:Ev C env Γ r m2 (.int j)):Ev C env Γ (.BinOp l .Sub r p) md (.int (i - j)):=
 Ev.bin h1 h2 fun A S U s h₀ v u Q E hr hh e hns rv ru hq=>by
  obtain⟨t,rfl⟩:=rv.int_inv;obtain⟨t',rfl⟩:=ru.int_inv
  exact PyProof.Rows.sub_int (hq _ s.heap _ (.refl _ _ _) (.int _ _))
theorem Ev.mul_int{i j:Int}(h1:Ev C env Γ l m1 (.int i))(h2:Ev C env Γ r m2 (.int j))(hm:IntMulOk i j):Ev C env Γ (.BinOp l .Mult r p) md (.int (i*j)):=
 Ev.bin h1 h2 fun A S U s h₀ v u Q E hr hh e hns rv ru hq=>by
  obtain⟨t,rfl⟩:=rv.int_inv;obtain⟨t',rfl⟩:=ru.int_inv
  exact PyProof.Rows.mul_int (hq _ s.heap _ (.refl _ _ _) (.int _ _)) hm
end
end
noncomputable def hb(h:Heap)(L:Nat):Heap:={objs:=h.objs.extract 0 L,life:=h.life}
theorem hb_get{h:Heap}{L a:Nat}:(hb h L).get? a=if a<L then h.get? a else none:=by
 have e:(hb h L).objs[a]?=if a<L then h.objs[a]? else none:=by
  show(h.objs.extract 0 L)[a]?=_
  rw[Array.getElem?_extract]
  by_cases hl:a<L
  ·rw[if_pos hl]
   by_cases h2:a<h.objs.size
   ·rw[if_pos (by omega),Nat.zero_add]
   ·rw[if_neg (by omega),Array.getElem?_eq_none (by omega)]
  ·rw[if_neg hl,if_neg (by omega)]
 unfold Heap.get?
 rw[e]
 by_cases hl:a<L<;>simp only[hl,if_true,if_false]
noncomputable def allO(h:Heap)(L:Addr):List (Addr×Obj):=(List.range h.objs.size).filterMap fun a=>if a≤L then none else(h.get? a).map fun o=>(a,o)
set_option tactic.hygienic true in
theorem mem_allO{h:Heap}{L a:Addr}{o:Obj}:(a,o)∈allO h L↔L<a∧h.get? a=some o:=by
 unfold allO
 rw[List.mem_filterMap]
 constructor
 ·rintro⟨b,_,hb⟩
  split at hb
  ·cases hb
  ·rename_i hne
   cases hg:h.get? b with
   |none=>rw[hg]at hb;cases hb
   |some o'=>rw[hg]at hb;simp at hb;obtain⟨rfl,rfl⟩:=hb;exact⟨Nat.lt_of_not_le hne,hg⟩
 ·rintro⟨hne,ho⟩
  exact⟨a,List.mem_range.mpr (Heap.lt_size ho),by simp[Nat.not_le.mpr hne,ho]⟩
theorem fr0{h:Heap}{L:Addr}{m:Str->Option Value}(hn:h.Ns L m):Fr (hb h L) L h m:=
 ⟨hn,fun b o e=>(by rw[hb_get]at e;split at e<;>first|exact e|cases e),(by show(h.objs.extract 0 L).size≤L;rw[Array.size_extract];exact Nat.le_trans (Nat.sub_le _ _) (Nat.min_le_left _ _))⟩
theorem news0{h:Heap}{L:Addr}:News (hb h L) L h (allO h L):=by
 rintro⟨a,o⟩ hp
 obtain⟨h1,h2⟩:=mem_allO.mp hp
 exact⟨h2,Nat.ne_of_gt h1,by rw[hb_get,if_neg (by exact Nat.not_lt.mpr (Nat.le_of_lt h1))]⟩
theorem ext_of_fn{A:Around}{env:Env}{h h':Heap}{m:Str->Option Value}{news:List (Addr×Obj)}(hn:h.Ns env.locals m)(F:Fr (hb h env.locals) env.locals h' m)(N:News (hb h env.locals) env.locals h' news)(sub:∀p∈allO h env.locals,p∈news):Ext A env h h':=
 .of_keepB (fun a o ha e=>by
  rcases Nat.lt_or_gt_of_ne ha with hl|hl
  ·exact F.keep a o (by rw[hb_get,if_pos hl];exact e)
  ·exact(N (a,o) (sub _ (mem_allO.mpr ⟨hl,e⟩))).1) fun m' hm'=>by
  have:m'=m:=funext fun x=>hm'.agree hn x
  subst this;exact F.ns
section
variable{C:Cx}{A:Around}{env:Env}{Γ:Gam}
theorem IsList.of_lob{h:Heap}{a:Addr}{vs:List Value}{n:Nat}(e:h.get? a=some (lob vs n)):h.IsList a vs.toArray:=⟨_,e,rfl,n,rfl⟩
theorem IsTuple.of_tob{h:Heap}{a:Addr}{vs:List Value}{n:Nat}(e:h.get? a=some (tob vs n)):h.IsTuple a vs.toArray:=⟨_,e,rfl,n,rfl⟩
noncomputable def lim:Nat:=2^20
theorem Rd.up{S S':Addr->Prop}{h h':Heap}{v:Value}{x:PV}(r:Rd C.prog C.w S h v x)(e:Ext A env h h')(hL:∀a,S a->¬Fz A env a)(hS:∀a,S a->S' a):Rd C.prog C.w S' h' v x:=
 r.mono hS fun a o ha ho=>e.keep a o (hL a ha) ho
theorem RdAll.up{S S':Addr->Prop}{h h':Heap}{v:List Value}{x:List PV}(r:RdAll C.prog C.w S h v x)(e:Ext A env h h')(hL:∀a,S a->¬Fz A env a)(hS:∀a,S a->S' a):RdAll C.prog C.w S' h' v x:=
 r.mono hS fun a o ha ho=>e.keep a o (hL a ha) ho
theorem reg_neL{S U:Addr->Prop}{md:Bool}{h₀ h:Heap}(hh:Here C A S U env Γ h)(e:Ext A env h₀ h)(hns:Nsf C A env h₀){a:Addr}(ha:Reg md S U h₀ a): ¬Fz A env a:=by
 rcases ha with ha|ha
 ·cases md
  ·exact(hh.old a ha).2.1
  ·exact(hh.old a (hh.sub a ha)).2.1
 ·intro hz
  have:=hns.there hz
  rw[ha]at this;cases this
variable{l r:Expr}{p:Pos}{m1 m2 md:Bool}
noncomputable def EvN(C:Cx)(env:Env)(Γ:Gam)(e:Expr)(md:Bool)(xs:List PV):Prop:=
 ∀ (A:Around) (S U:Addr->Prop) (s:Shared) (Q:Value->Shared->Prop) (E:Value->Shared->Prop),Room C A->Here C A S U env Γ s.heap->
  (∀a vs n h' t',Ext A env s.heap h'->s.heap.get? a=none->mainGlobals<a->h'.get? a=some (lob vs n)->RdAll C.prog C.w (fun b=>Reg md S U s.heap b∧b≠a) h' vs xs->Q (.ref a) {s with heap:=h',toks:=t'})->
  wpAny (model C.prog C.w) A (eval e env) Q E s
theorem EvN.ev{e:Expr}{xs:List PV}(h:EvN C env Γ e md xs):Ev C env Γ e md (.list xs):=fun A S U s Q E hr hh hq=>
 h A S U s Q E hr hh fun a vs n h' t' ex hn hl ho ra=>hq _ h' t' ex (.list (.inr hn) ho (ra.mono (fun ω z=>z.1) fun ω ω ω z=>z))
theorem RdAll.new{S:Addr->Prop}{h h':Heap}{v:List Value}{x:List PV}{a:Addr}(r:RdAll C.prog C.w S h v x)(e:Ext A env h h')(hL:∀a,S a->¬Fz A env a)(ha:h.get? a=none):RdAll C.prog C.w (fun b=>S b∧b≠a) h' v x:=
 r.there.mono (fun b hb=>⟨hb.1,by rintro rfl;have:=hb.2;rw[ha]at this;cases this⟩) fun a o ha ho=>e.keep a o (hL a ha.1) ho
theorem Ext.highN{S U:Addr->Prop}{h₀ h:Heap}(e:Ext A env h₀ h)(hh:Here C A S U env Γ h₀):mainGlobals<h.objs.size:=by
 obtain⟨m,hm⟩:=hh.eok.ns
 exact Nat.lt_trans hh.eok.high (e.ns m hm).lt
theorem Ev.binN{l r:Expr}{op:Operator}{p:Pos}{m1 m2 md:Bool}{x y:PV}{zs:List PV}(h1:Ev C env Γ l m1 x)(h2:Ev C env Γ r m2 y)
  (hop:∀ (A:Around) (S U:Addr->Prop) (s:Shared) (h₀:Heap) (v u:Value) (Q:Value->Shared->Prop) (E:Value->Shared->Prop),Room C A->Here C A S U env Γ s.heap->Ext A env h₀ s.heap->Nsf C A env h₀->
   Rd C.prog C.w (Reg m1 S U h₀) s.heap v x->Rd C.prog C.w (Reg m2 S U h₀) s.heap u y->
   (∀a vs n h' t',Ext A env s.heap h'->s.heap.get? a=none->h'.get? a=some (lob vs n)->RdAll C.prog C.w (fun b=>Reg md S U h₀ b∧b≠a) h' vs zs->a=s.heap.objs.size->Q (.ref a) {s with heap:=h',toks:=t'})->wpAny (model C.prog C.w) A (binaryOp op v u) Q E s):
  EvN C env Γ (.BinOp l op r p) md zs:=fun A S U s Q E hr hh hq=>
 wpAny_BinOp (Ev.two h1 h2 hr hh fun v u h' t' e rv ru=>hop A S U _ s.heap v u Q E hr (hh.ext e) e hh.nsf rv ru fun a vs n h'' t'' e' hn ho r' ha=>hq a vs n h'' t'' (e.trans e') (e.fresh hh.eok.ns hn) (by rw[ha];exact e.highN hh) ho r')
theorem EvN.add{xs ys:List PV}(h1:Ev C env Γ l md (.list xs))(h2:Ev C env Γ r md (.list ys))(hsz:xs.length+ys.length≤lim):EvN C env Γ (.BinOp l .Add r p) md (xs++ys):=
 Ev.binN h1 h2 fun A S U s h₀ v u Q E hr hh e hns rv ru hq=>by
  obtain⟨a,vs,n,rfl,ha,hoa,ra⟩:=rv.list_inv
  obtain⟨b,us,k,rfl,hb,hob,rb⟩:=ru.list_inv
  obtain⟨m,hm⟩:=hh.eok.ns
  have hfr:s.heap.get? s.heap.objs.size=none:=(Ext.refl A env s.heap).fresh_at ⟨m,hm⟩
  refine add_arrays (fr0 hm) news0 (IsList.of_lob hoa) (IsList.of_lob hob) ?_ (by
   have e1:=ra.length;have e2:=rb.length
   simp only[List.size_toArray,e1,e2];unfold lim at hsz;show _≤2^24;omega)
  intro h' F N
  have e':Ext A env s.heap h':=ext_of_fn hm F N fun ω hp=>List.mem_cons_of_mem _ hp
  refine hq _ (vs++us) 0 h' s.toks e' hfr (N.get List.mem_cons_self) ?_ rfl
  exact RdAll.append (ra.new e' (fun a=>reg_neL hh e hns) hfr) (rb.new e' (fun a=>reg_neL hh e hns) hfr)
noncomputable def EvL(C:Cx)(env:Env)(Γ:Gam)(es:List Expr)(md:Bool)(xs:List PV):Prop:=
 ∀ (A:Around) (S U:Addr->Prop) (s:Shared) (p:Pos) (F:List Value->Shared->Prop) (E:Value->Shared->Prop),Room C A->Here C A S U env Γ s.heap->
  (∀vs h' t',Ext A env s.heap h'->RdAll C.prog C.w (Reg md S U s.heap) h' vs xs->F vs {s with heap:=h',toks:=t'})->
  wpAny (model C.prog C.w) A (spliced (backTo p (starEach es env))) F E s
theorem EvL.nil:EvL C env Γ [] md []:=fun A S U s p F E hr hh hq=>Calls.spliced_nil (hq [] s.heap s.toks (.refl _ _ _) .nil)
theorem EvL.cons{e:Expr}{es:List Expr}{x:PV}{xs:List PV}(h1:Ev C env Γ e md x)(h2:EvL C env Γ es md xs)(hs:∀env,starEach (e::es) env=(false,eval e env)::starEach es env:=by intro _;rfl):
  EvL C env Γ (e::es) md (x::xs):=fun A S U s p F E hr hh hq=>by
 rw[hs]
 refine Calls.spliced_cons ?_
 refine h1 A S U s _ E hr hh fun v h' t' e rd=>?_
 refine h2 A S U _ p _ E hr (hh.ext e) fun vs h'' t'' e' rds=>?_
 exact hq (v::vs) h'' t'' (e.trans e') (.cons (rd.up e' (fun a ha=>Reg.neL hh ha) fun ω z=>z) (rds.mono (fun a ha=>ha.imp id (e.fresh hh.eok.ns)) fun ω ω ω z=>z))
theorem EvN.list{es:List Expr}{xs:List PV}(h:EvL C env Γ es md xs)(hsz:xs.length≤lim):EvN C env Γ (.List es p) md xs:=fun A S U s Q E hr hh hq=>by
 refine wpAny_List_spliced (h A S U s p _ E hr hh fun vs h' t' e rds=>⟨?_,?_⟩)
 ·rw[rds.length];unfold lim at hsz;show _≤2^24;omega
 ·have hfr:h'.get? h'.objs.size=none:=(Ext.refl A env h').fresh_at (hh.ext e).eok.ns
  refine hq _ vs 0 _ _ (e.push _) (e.fresh_at hh.eok.ns) (e.highN hh) (Heap.get?_push_size _ rfl) ?_
  exact rds.there.mono (fun b hb=>⟨hb.1,by rintro rfl;have:=hb.2;rw[hfr]at this;cases this⟩) fun a o ω ho=>Heap.get?_push_of_some _ ho
theorem Ev.tuple{es:List Expr}{xs:List PV}{k:Nat}(h:EvL C env Γ es md xs)(hsz:xs.length≤lim):Ev C env Γ (.Tuple es k p) md (.tuple xs):=fun A S U s Q E hr hh hq=>by
 refine wpAny_Tuple_spliced (h A S U s p _ E hr hh fun vs h' t' e rds=>⟨?_,?_⟩)
 ·rw[rds.length];unfold lim at hsz;show _≤2^24;omega
 ·refine hq _ _ _ (e.push _) (.tuple (.inr (e.fresh_at hh.eok.ns)) (Heap.get?_push_size _ rfl) ?_)
  exact rds.mono (fun ω z=>z) fun a o ω ho=>Heap.get?_push_of_some _ ho
theorem foldl_replicate(items:Array Value):∀ (k:Nat) (acc:Array Value),(List.foldl (fun x1 x2=>x1++x2) acc (List.replicate k items))=acc++((List.replicate k items.toList).flatten).toArray
 |0,acc=>by simp
 |k+1,acc=>by
  rw[List.replicate_succ,List.foldl_cons,foldl_replicate items k,List.replicate_succ,List.flatten_cons]
  apply Array.ext';simp
theorem RdAll.replicate{S:Addr->Prop}{h:Heap}{vs:List Value}{xs:List PV}(r:RdAll C.prog C.w S h vs xs):∀k:Nat,RdAll C.prog C.w S h (List.replicate k vs).flatten (List.replicate k xs).flatten
 |0=>.nil
 |k+1=>by rw[List.replicate_succ,List.flatten_cons,List.replicate_succ,List.flatten_cons];exact r.append (RdAll.replicate r k)
theorem EvN.mul{xs:List PV}{k:Int}(h1:Ev C env Γ l md (.list xs))(h2:Ev C env Γ r m2 (.int k))(hlo: -(2^63:Int)≤k)(hhi:k<2^63)(hsz:xs.length*k.toNat≤lim):
  EvN C env Γ (.BinOp l .Mult r p) md (List.replicate k.toNat xs).flatten:=
 Ev.binN h1 h2 fun A S U s h₀ v u Q E hr hh e hns rv ru hq=>by
  obtain⟨a,vs,n,rfl,ha,hoa,ra⟩:=rv.list_inv
  obtain⟨t,rfl⟩:=ru.int_inv
  obtain⟨m,hm⟩:=hh.eok.ns
  have hfr:s.heap.get? s.heap.objs.size=none:=(Ext.refl A env s.heap).fresh_at ⟨m,hm⟩
  refine PyProof.Rows.mul_list (fr0 hm) news0 hoa hlo hhi ?_ ?_
  ·have e1:=ra.length
   simp only[List.size_toArray,e1];unfold lim at hsz;omega
  ·intro h' F N
   have e':Ext A env s.heap h':=ext_of_fn hm F N fun ω hp=>List.mem_cons_of_mem _ hp
   have hob:=N.get List.mem_cons_self
   have hval:(List.foldl (fun x1 x2=>x1++x2) #[] (List.replicate (if vs.toArray.isEmpty=true then 0 else k.toNat) vs.toArray))=(List.replicate k.toNat vs).flatten.toArray:=by
    rw[foldl_replicate]
    cases vs with
    |nil=>
     have:∀k,(List.replicate k ([]:List Value)).flatten=[]:=fun k=>by induction k<;>simp[List.replicate_succ, *]
     simp[this]
    |cons v vs=>simp
   rw[hval]at hob
   refine hq _ (List.replicate k.toNat vs).flatten 0 h' s.toks e' hfr hob ?_ rfl
   exact(ra.new e' (fun a=>reg_neL hh e hns) hfr).replicate _
theorem Ev.sub{l i:Expr}{m1 m2 md:Bool}{x y z:PV}{T id:String}(h1:Ev C env Γ l m1 x)(h2:Ev C env Γ i m2 y)
  (hT:∀ (s:Shared) (S:Addr->Prop) (v:Value),Rd C.prog C.w S s.heap v x->s.TypeIs v T) (hsl:typeLookup (.type T) (Str.ofString "__getitem__")=pure (some (.builtin id)))
  (hpl:∀o iv,∃ops,subscripted i false o iv=operate ops (getItem o iv))
  (hop:∀ (A:Around) (S U:Addr->Prop) (s:Shared) (h₀:Heap) (v u:Value) (Q:Value->Shared->Prop) (E:Value->Shared->Prop),Room C A->Here C A S U env Γ s.heap->Ext A env h₀ s.heap->Nsf C A env h₀->
   Rd C.prog C.w (Reg m1 S U h₀) s.heap v x->Rd C.prog C.w (Reg m2 S U h₀) s.heap u y->
   (∀v h' t',Ext A env s.heap h'->Rd C.prog C.w (Reg md S U h₀) h' v z->Q v {s with heap:=h',toks:=t'})->wpAny (model C.prog C.w) A (getItem v u) Q E s):
  Ev C env Γ (.Subscript l i p) md z:=fun A S U s Q E hr hh hq=>by
 refine Subscript_ (Ev.two h1 h2 hr hh fun v u h' t' e rv ru=>?_)
 obtain⟨ops,hops⟩:=hpl v u
 refine tail_any (hT {s with heap:=h',toks:=t'} _ v rv) hsl ?_ hops
 exact hop A S U _ s.heap v u Q E hr (hh.ext e) e hh.nsf rv ru fun v' h'' t'' e' r'=>hq v' h'' t'' (e.trans e') r'
theorem Rd.list_type{S:Addr->Prop}{s:Shared}{v:Value}{xs:List PV}(r:Rd C.prog C.w S s.heap v (.list xs)):s.TypeIs v "list":=by
 obtain⟨a,vs,n,rfl,_,ho,_⟩:=r.list_inv;exact⟨_,ho,rfl⟩
theorem Rd.tuple_type{S:Addr->Prop}{s:Shared}{v:Value}{xs:List PV}(r:Rd C.prog C.w S s.heap v (.tuple xs)):s.TypeIs v "tuple":=by
 obtain⟨a,vs,n,rfl,_,ho,_⟩:=r.tuple_inv;exact⟨_,ho,rfl⟩
theorem Ev.item{xs:List PV}{k:Int}{x:PV}{i:Expr}(h1:Ev C env Γ l md (.list xs))(h2:Ev C env Γ i m2 (.int k))(h0:0≤k)(hhi:k<2^63)(hx:xs[k.toNat]?=some x)
  (hpl:∀o iv,∃ops,subscripted i false o iv=operate ops (getItem o iv):=by intro _ _;exact⟨_,rfl⟩):Ev C env Γ (.Subscript l i p) md x:=
 Ev.sub h1 h2 (fun s S v r=>r.list_type) slot_list_getitem.lookup hpl fun A S U s h₀ v u Q E hr hh e hns rv ru hq=>by
  obtain⟨a,vs,n,rfl,ha,hoa,ra⟩:=rv.list_inv
  obtain⟨t,rfl⟩:=ru.int_inv
  obtain⟨y,hy,ry⟩:=ra.get hx
  exact wpAny_getItem_list (IsList.of_lob hoa) h0 hhi (by simpa using hy) (hq y s.heap s.toks (.refl _ _ _) ry)
end
section
variable{C:Cx}{A:Around}{env:Env}{Γ:Gam}{l r:Expr}{p p':Pos}{m1 m2 md:Bool}
noncomputable def EvP(C:Cx)(env:Env)(Γ:Gam)(o:Option Expr)(k:Option Int):Prop:=
 ∀ (A:Around) (S U:Addr->Prop) (s:Shared) (Q:Value->Shared->Prop) (E:Value->Shared->Prop),Room C A->Here C A S U env Γ s.heap->
  (∀v h' t',Ext A env s.heap h'->IsPart v k->Q v {s with heap:=h',toks:=t'})->wpAny (model C.prog C.w) A (evalPart o env) Q E s
theorem EvP.none:EvP C env Γ none none:=fun A S U s Q E hr hh hq=>wpAny_evalPart_none (hq _ s.heap s.toks (.refl _ _ _) .none)
theorem EvP.some{e:Expr}{k:Int}(h:Ev C env Γ e md (.int k)):EvP C env Γ (some e) (some k):=fun A S U s Q E hr hh hq=>
 wpAny_evalPart_some (h A S U s Q E hr hh fun v h' t' e rd=>by obtain⟨t,rfl⟩:=rd.int_inv;exact hq _ h' t' e (.int _ _))
theorem EvN.slice_core{xs ys:List PV}{lo hi:Option Expr}{a b:Option Int}(g:List Value->List Value)(h1:Ev C env Γ l md (.list xs))(ha:EvP C env Γ lo a)(hb:EvP C env Γ hi b)(hsz:xs.length≤lim)
  (hg:∀vs:List Value,vs.length=xs.length->slicePick vs.toArray a b none=(g vs).toArray) (hr:∀S h vs,RdAll C.prog C.w S h vs xs->RdAll C.prog C.w S h (g vs) ys):
  EvN C env Γ (.Subscript l (.Slice lo hi none p') p) md ys:=fun A S U s Q E hr' hh hq=>by
 refine Subscript_ (h1 A S U s _ E hr' hh fun v h' t' e rd=>wpAny_Slice (ha A S U _ _ E hr' (hh.ext e) fun vl h₂ t₂ e₂ pl=>hb A S U _ _ E hr' ((hh.ext e).ext e₂) fun vu h₃ t₃ e₃ pu=>wpAny_evalPart_none ?_))
 obtain⟨q,vs,n,rfl,hq',hoq,ra⟩:=rd.list_inv
 have e23:=e₂.trans e₃
 have hoq3:h₃.get? q=some (lob vs n):=e23.keep q _ (Reg.neL hh hq') hoq
 have hlen:=ra.length
 have eAll:=e.trans e23
 refine tail_any (T:="list") (ops:=[.ref h₃.objs.size,.ref q]) ⟨_,Heap.get?_push_of_some _ hoq3,rfl⟩ slot_list_getitem.lookup ?_ rfl
 refine wpAny_getItem_list_slice (IsList.of_lob (Heap.get?_push_of_some _ hoq3)) (Heap.IsSliceOf.new ..) pl pu .none (by simp) ?_ ?_
 ·rw[hg vs hlen]
  have hfr:h₃.get? (h₃.push {cls:=.type "slice",data:=.fields #[vl,vu,.none]}).objs.size=none:=((Ext.refl A env h₃).push _).fresh_at (hh.ext eAll).eok.ns
  refine hq _ (g vs) 0 _ _ ((eAll.push _).push _) ?_ ?_ (Heap.get?_push_size _ rfl) ?_
  ·exact(eAll.push {cls:=.type "slice",data:=.fields #[vl,vu,.none]}).fresh_at hh.eok.ns
  ·exact(eAll.push {cls:=.type "slice",data:=.fields #[vl,vu,.none]}).highN hh
  ·refine(hr _ _ _ (ra.up e23 (fun a ha=>Reg.neL hh ha) fun ω z=>z)).there.mono (fun b hb=>⟨hb.1,?_⟩) fun a o ω ho=>Heap.get?_push_of_some _ (Heap.get?_push_of_some _ ho)
   rintro rfl
   have:=hb.2
   rw[hfr]at this;cases this
 ·simp only[List.size_toArray,hlen];unfold lim at hsz;show _≤2^24;omega
theorem EvN.slice_to{xs:List PV}{hi:Expr}{k:Int}(h1:Ev C env Γ l md (.list xs))(h2:Ev C env Γ hi m2 (.int k))(h0:0≤k)(hsz:xs.length≤lim):
  EvN C env Γ (.Subscript l (.Slice none (some hi) none p') p) md (xs.take k.toNat):=
 EvN.slice_core (fun vs=>vs.take k.toNat) h1 .none (.some h2) hsz (fun vs ω=>by have:=slicePick_upto' vs.toArray k.toNat;rwa[Int.toNat_of_nonneg h0]at this) fun S h vs r=>r.take _
theorem EvN.slice_from{xs:List PV}{lo:Expr}{k:Int}(h1:Ev C env Γ l md (.list xs))(h2:Ev C env Γ lo m2 (.int k))(h0:0≤k)(hsz:xs.length≤lim):
  EvN C env Γ (.Subscript l (.Slice (some lo) none none p') p) md (xs.drop k.toNat):=
 EvN.slice_core (fun vs=>vs.drop k.toNat) h1 (.some h2) .none hsz (fun vs ω=>by have:=slicePick_from' vs.toArray k.toNat;rwa[Int.toNat_of_nonneg h0]at this) fun S h vs r=>r.drop _
noncomputable def Cop(C:Cx)(env:Env)(Γ:Gam)(op:CmpOp)(m1 m2:Bool)(x y z:PV):Prop:=
 ∀ (A:Around) (S U:Addr->Prop) (s:Shared) (h₀:Heap) (v u:Value) (Q:Value->Shared->Prop) (E:Value->Shared->Prop),Room C A->Here C A S U env Γ s.heap->Ext A env h₀ s.heap->Nsf C A env h₀->
   Rd C.prog C.w (Reg m1 S U h₀) s.heap v x->Rd C.prog C.w (Reg m2 S U h₀) s.heap u y->
   (∀v h' t',Ext A env s.heap h'->(∀md,Rd C.prog C.w (Reg md S U h₀) h' v z)->Q v {s with heap:=h',toks:=t'})->wpAny (model C.prog C.w) A (compareOp op v u) Q E s
theorem Ev.cmp{l r:Expr}{op:CmpOp}{p:Pos}{m1 m2 md:Bool}{x y z:PV}(h1:Ev C env Γ l m1 x)(h2:Ev C env Γ r m2 y)(hop:Cop C env Γ op m1 m2 x y z)
  (hm:behindInMarks op r=false:=by with_unfolding_all rfl):
  Ev C env Γ (.Compare l [op] [r] p) md z:=fun A S U s Q E hr hh hq=>
 wpAny_Compare1 (Ev.two h1 h2 hr hh fun v u h' t' e rv ru=>hop A S U _ s.heap v u Q E hr (hh.ext e) e hh.nsf rv ru fun v' h'' t'' e' r'=>hq v' h'' t'' (e.trans e') (r' md)) hm
theorem EvB.cmp{l r:Expr}{op:CmpOp}{p:Pos}{m1 m2:Bool}{x y:PV}{b:Bool}(h1:Ev C env Γ l m1 x)(h2:Ev C env Γ r m2 y)(hop:Cop C env Γ op m1 m2 x y (.bool b))
  (hm:behindInMarks op r=false:=by with_unfolding_all rfl):
  EvB C env Γ (.Compare l [op] [r] p) b:=fun A S U s Q E hr hh hq=>
 wpAny_isTrue_Compare1 (Ev.two h1 h2 hr hh fun v u h' t' e rv ru=>hop A S U _ s.heap v u _ E hr (hh.ext e) e hh.nsf rv ru fun v' h'' t'' e' r'=>by
  cases(r' true).bool_inv
  exact wpAny_truthy_bool (hq h'' t'' (e.trans e'))) hm
theorem Cop.lt_int{i j:Int}:Cop C env Γ .Lt m1 m2 (.int i) (.int j) (.bool (decide (i<j))):=fun A S U s h₀ v u Q E hr hh e hns rv ru hq=>by
 obtain⟨t,rfl⟩:=rv.int_inv;obtain⟨t',rfl⟩:=ru.int_inv
 exact PyProof.Rows.lt_int (hq _ s.heap _ (.refl _ _ _) fun ω=>.bool _)
theorem Cop.le_int{i j:Int}:Cop C env Γ .LtE m1 m2 (.int i) (.int j) (.bool (decide (i≤j))):=fun A S U s h₀ v u Q E hr hh e hns rv ru hq=>by
 obtain⟨t,rfl⟩:=rv.int_inv;obtain⟨t',rfl⟩:=ru.int_inv
 exact PyProof.Rows.le_int (hq _ s.heap _ (.refl _ _ _) fun ω=>.bool _)
theorem Cop.gt_int{i j:Int}:Cop C env Γ .Gt m1 m2 (.int i) (.int j) (.bool (decide (i>j))):=fun A S U s h₀ v u Q E hr hh e hns rv ru hq=>by
 obtain⟨t,rfl⟩:=rv.int_inv;obtain⟨t',rfl⟩:=ru.int_inv
 exact PyProof.Rows.gt_int (hq _ s.heap _ (.refl _ _ _) fun ω=>.bool _)
theorem Cop.ge_int{i j:Int}:Cop C env Γ .GtE m1 m2 (.int i) (.int j) (.bool (decide (i≥j))):=fun A S U s h₀ v u Q E hr hh e hns rv ru hq=>by
 obtain⟨t,rfl⟩:=rv.int_inv;obtain⟨t',rfl⟩:=ru.int_inv
 exact PyProof.Rows.ge_int (hq _ s.heap _ (.refl _ _ _) fun ω=>.bool _)
theorem Cop.eq_int{i j:Int}:Cop C env Γ .Eq m1 m2 (.int i) (.int j) (.bool (i==j)):=fun A S U s h₀ v u Q E hr hh e hns rv ru hq=>by
 obtain⟨t,rfl⟩:=rv.int_inv;obtain⟨t',rfl⟩:=ru.int_inv
 exact PyProof.Rows.eq_int (hq _ s.heap _ (.refl _ _ _) fun ω=>.bool _)
theorem Cop.ne_int{i j:Int}:Cop C env Γ .NotEq m1 m2 (.int i) (.int j) (.bool (i !=j)):=fun A S U s h₀ v u Q E hr hh e hns rv ru hq=>by
 obtain⟨t,rfl⟩:=rv.int_inv;obtain⟨t',rfl⟩:=ru.int_inv
 exact PyProof.Rows.ne_int (hq _ s.heap _ (.refl _ _ _) fun ω=>.bool _)
mutual
noncomputable def PV.okd:Nat->PV->Bool
 |_,.none|_,.bool _|_,.int _=>true
 |_,.str s=>PyData.strOk s
 |n+1,.list xs|n+1,.tuple xs=>PV.okds n xs
 |_,_=>false
noncomputable def PV.okds:Nat->List PV->Bool
 |_,[]=>true
 |n,x::xs=>PV.okd n x&&PV.okds n xs
end
theorem PV.okds_eq(n:Nat):∀xs:List PV,PV.okds n xs=xs.all (PV.okd n)
 |[]=>by simp[PV.okds]
 |x::xs=>by simp[PV.okds,PV.okds_eq n xs]
mutual
theorem PV.okd_plain:∀ (n:Nat) (x:PV),x.okd n=true->x.plain=true∧x.py.depth≤n
 |_,.none,_|_,.bool _,_|_,.int _,_=>by simp[PV.plain,PV.py,PyData.depth]
 |_,.str s,h=>by simp only[PV.okd]at h;simp[PV.plain,PV.py,PyData.depth,h]
 |n+1,.list xs,h|n+1,.tuple xs,h=>by
  have:=PV.okds_plain n xs (by simpa [PV.okd]using h)
  simp only[PV.plain,PV.py,PyData.depth]
  exact⟨this.1,by omega⟩
 |0,.list xs,h|0,.tuple xs,h=>by simp[PV.okd]at h
 |n,.rng _ _ _,h|n,.dict _,h|n,.raw _,h|n,.srt _,h|n,.sorter _,h|n,.info _,h|n,.set _,h|n,.exc _ _,h|n,.nxt _,h=>by cases n<;>simp[PV.okd]at h
theorem PV.okds_plain:∀ (n:Nat) (xs:List PV),PV.okds n xs=true->PV.plainAll xs=true∧PyData.depthAll (PV.pyAll xs)≤n
 |_,[],_=>by simp[PV.plainAll,PV.pyAll,PyData.depthAll]
 |n,x::xs,h=>by
  have h':x.okd n=true∧PV.okds n xs=true:=by simpa [PV.okds]using h
  have h1:=PV.okd_plain n x h'.1
  have h2:=PV.okds_plain n xs h'.2
  simp only[PV.plainAll,PV.pyAll,PyData.depthAll,h1.1,h2.1,Bool.and_self,true_and]
  exact Nat.max_le.mpr ⟨h1.2,h2.2⟩
end
noncomputable def PV.eqv(x y:PV):Bool:=x.py.eqv y.py
noncomputable def PV.ok(x:PV):Bool:=x.okd 8
theorem PV.ok_reads{S:Addr->Prop}{h:Heap}{x:PV}{v:Value}(hx:x.ok=true)(r:Rd C.prog C.w S h v x):∃as,Reads h v x.py as:=r.reads (PV.okd_plain _ _ hx).1
theorem PV.ok_shaped{x:PV}(hx:x.ok=true):PySem.SeqAt.shaped x.py=true:=by
 have h:=PV.okd_plain _ _ hx
 unfold PySem.SeqAt.shaped
 rw[PV.canLay0 x h.1,decide_eq_true (Nat.le_trans h.2 (by decide))];rfl
theorem Cop.eq{x y:PV}(hx:x.ok=true)(hy:y.ok=true):Cop C env Γ .Eq m1 m2 x y (.bool (x.eqv y)):=fun A S U s h₀ v u Q E hr hh e hns rv ru hq=>by
 obtain⟨as,ra⟩:=PV.ok_reads hx rv;obtain⟨bs,rb⟩:=PV.ok_reads hy ru
 exact eq_dataH ra rb (PV.ok_shaped hx) (PV.ok_shaped hy) (by have:=hr.2.2;omega) (hq _ s.heap _ (.refl _ _ _) fun ω=>.bool _)
theorem Cop.ne{x y:PV}(hx:x.ok=true)(hy:y.ok=true):Cop C env Γ .NotEq m1 m2 x y (.bool (!x.eqv y)):=fun A S U s h₀ v u Q E hr hh e hns rv ru hq=>by
 obtain⟨as,ra⟩:=PV.ok_reads hx rv;obtain⟨bs,rb⟩:=PV.ok_reads hy ru
 exact ne_dataH ra rb (PV.ok_shaped hx) (PV.ok_shaped hy) (by have:=hr.2.2;omega) (hq _ s.heap _ (.refl _ _ _) fun ω=>.bool _)
theorem any_of_rdAll{S:Addr->Prop}{h:Heap}{x:PV}{e:Value->Bool}{vs:List Value}{xs:List PV}(r:RdAll C.prog C.w S h vs xs):(∀v y,v∈vs->y∈xs->Rd C.prog C.w S h v y->e v=y.eqv x)->vs.any e=xs.any (fun y=>y.eqv x):=
 RdAll.ind (P:=fun vs xs=>(∀v y,v∈vs->y∈xs->Rd C.prog C.w S h v y->e v=y.eqv x)->vs.any e=xs.any (fun y=>y.eqv x)) (fun ω=>rfl) (fun ω ω ω ω a ω ih he=>by
  rw[List.any_cons,List.any_cons,he _ _ List.mem_cons_self List.mem_cons_self a,ih fun v y hv hy=>he v y (List.mem_cons_of_mem _ hv) (List.mem_cons_of_mem _ hy)]) r
theorem RdAll.mem{S:Addr->Prop}{h:Heap}{vs:List Value}{xs:List PV}{v:Value}(r:RdAll C.prog C.w S h vs xs):v∈vs->∃x∈xs,Rd C.prog C.w S h v x:=
 RdAll.ind (P:=fun vs xs=>v∈vs->∃x∈xs,Rd C.prog C.w S h v x) (fun h=>nomatch h)
  (fun ω ω x ω a ω ih hv=>(List.mem_cons.mp hv).elim (fun e=>⟨x,List.mem_cons_self,e▸a⟩) fun hv=>let⟨x,hx,rx⟩:=ih hv;⟨x,List.mem_cons_of_mem _ hx,rx⟩) r
theorem Rd.eqv_unique{S S':Addr->Prop}{h:Heap}{v:Value}{x y:PV}(hx:x.ok=true)(hy:y.ok=true)(rx:Rd C.prog C.w S h v x)(ry:Rd C.prog C.w S' h v y):x.py=y.py:=by
 obtain⟨as,ra⟩:=PV.ok_reads hx rx
 obtain⟨bs,rb⟩:=PV.ok_reads hy ry
 exact PySem.SeqAt.Reads.unique _ _ _ _ _ (PV.canLay0 x (PV.okd_plain _ _ hx).1) ra rb
theorem in_core{A:Around}{s:Shared}{S S':Addr->Prop}{vs:List Value}{xs:List PV}{u:Value}{x:PV}(hr:A.units+100<cLine)(ra:RdAll C.prog C.w S s.heap vs xs)(ru:Rd C.prog C.w S' s.heap u x)(hx:x.ok=true)(hxs:xs.all PV.ok=true):
  ∃e:Value->Bool,(∀y∈vs,PySem.SeqAt.EqAt A.in1 s y u (e y))∧vs.any e=xs.any fun y=>y.eqv x:=by
 classical
 have key:∀v∈vs,∃y∈xs,Rd C.prog C.w S s.heap v y:=fun v hv=>ra.mem hv
 refine⟨fun v=>if hv:v∈vs then(Classical.choose (key v hv)).eqv x else false,fun v hv=>?_,?_⟩
 ·simp only[hv,dif_pos]
  obtain⟨hy,ry⟩:=Classical.choose_spec (key v hv)
  have hyo:(Classical.choose (key v hv)).ok=true:=List.all_eq_true.mp hxs _ hy
  obtain⟨as,r1⟩:=PV.ok_reads hyo ry
  obtain⟨bs,r2⟩:=PV.ok_reads hx ru
  refine PySem.SeqAt.eqAt_reads _ _ _ _ _ _ _ _ r1 r2 (PV.canLay0 _ (PV.okd_plain _ _ hyo).1) (PV.canLay0 _ (PV.okd_plain _ _ hx).1) ?_
  have:=(PV.okd_plain _ _ hx).2
  have h2:A.in1.units=A.units+1:=rfl
  rw[h2]
  have h3:=Nat.min_le_right (Classical.choose (key v hv)).py.depth x.py.depth
  omega
 ·refine any_of_rdAll ra fun v y hv hy ry=>?_
  simp only[hv,dif_pos]
  obtain⟨hy',ry'⟩:=Classical.choose_spec (key v hv)
  unfold PV.eqv
  rw[Rd.eqv_unique (List.all_eq_true.mp hxs _ hy') (List.all_eq_true.mp hxs _ hy) ry' ry]
theorem Cop.in_list{x:PV}{xs:List PV}(hx:x.ok=true)(hxs:xs.all PV.ok=true):Cop C env Γ .In m1 m2 x (.list xs) (.bool (xs.any fun y=>y.eqv x)):=fun A S U s h₀ v u Q E hr hh e hns rv ru hq=>by
 obtain⟨a,vs,n,rfl,ha,hoa,ra⟩:=ru.list_inv
 obtain⟨f,hf,hfe⟩:=in_core (A:=A) (by have:=hr.2.2;omega) ra rv hx hxs
 refine PySem.SeqAt.in_listAt f (IsList.of_lob hoa) (fun y hy=>hf y (by simpa using hy)) ?_
 rw[List.any_toArray,hfe]
 exact hq _ s.heap _ (.refl _ _ _) fun ω=>.bool _
theorem Cop.notin_list{x:PV}{xs:List PV}(hx:x.ok=true)(hxs:xs.all PV.ok=true):Cop C env Γ .NotIn m1 m2 x (.list xs) (.bool (!xs.any fun y=>y.eqv x)):=fun A S U s h₀ v u Q E hr hh e hns rv ru hq=>by
 obtain⟨a,vs,n,rfl,ha,hoa,ra⟩:=ru.list_inv
 obtain⟨f,hf,hfe⟩:=in_core (A:=A) (by have:=hr.2.2;omega) ra rv hx hxs
 refine PySem.SeqAt.notIn_listAt f (IsList.of_lob hoa) (fun y hy=>hf y (by simpa using hy)) ?_
 rw[List.any_toArray,hfe]
 exact hq _ s.heap _ (.refl _ _ _) fun ω=>.bool _
noncomputable def Key.pv:Key->PV| .int i=>.int i| .str x=>.str x
noncomputable def kvGet(kvs:List (Key×PV))(k:Key):Option PV:=(kvs.find? fun kv=>kv.1=k).map (·.2)
theorem Rd.key{S:Addr->Prop}{h:Heap}{v:Value}{k:Key}(r:Rd C.prog C.w S h v k.pv):(mixKind C.prog C.w).is k v=true:=by
 cases k with
 |int i=>obtain⟨t,rfl⟩:=Rd.int_inv r;exact Key.is_int i t
 |str x=>obtain⟨t,rfl⟩:=Rd.str_inv r;exact Key.is_str x t
theorem Rd.dict_inv{S:Addr->Prop}{h:Heap}{v:Value}{kvs:List (Key×PV)}(r:Rd C.prog C.w S h v (.dict kvs)):∃a vs,v= .ref a∧S a∧mainGlobals<a∧h.DictOf (mixKind C.prog C.w) a ((kvs.map (·.1)).zip vs)∧RdAll C.prog C.w S h vs (kvs.map (·.2)):=r.view
theorem valueAt_zip{S:Addr->Prop}{h:Heap}(k:Key){kvs:List (Key×PV)}:∀ {vs:List Value},RdAll C.prog C.w S h vs (kvs.map (·.2))->
  (match kvGet kvs k with|some x=>∃v,valueAt ((kvs.map (·.1)).zip vs) k=some v∧Rd C.prog C.w S h v x|none=>valueAt ((kvs.map (·.1)).zip vs) k=none):=by
 induction kvs with
 |nil=>intro vs _;simp[kvGet,valueAt]
 |cons q kvs ih=>
  intro vs r
  obtain⟨a,x⟩:=q
  cases r with
  |cons h1 h2=>
   have ih:=ih h2
   unfold kvGet valueAt at*
   simp only[List.map_cons,List.zip_cons_cons,List.find?_cons]
   by_cases hk:a=k
   ·simp only[hk,decide_true,Option.map_some]
    exact⟨_,rfl,h1⟩
   ·simp only[hk,decide_false]
    exact ih
theorem noSys{a:Addr}(h:mainGlobals<a):(a==sysModules)=false:=by
 have:a≠sysModules:=Nat.ne_of_gt (Nat.lt_trans (by decide) h)
 simpa using this
theorem Cop.in_dict{k:Key}{kvs:List (Key×PV)}:Cop C env Γ .In m1 m2 k.pv (.dict kvs) (.bool ((kvGet kvs k).isSome)):=fun A S U s h₀ v u Q E hr hh e hns rv ru hq=>by
 obtain⟨a,vs,rfl,ha,hlo,hd,ra⟩:=ru.dict_inv
 refine wpAny_in_of rv.key (noSys hlo) hd.mapOf ?_
 have:=valueAt_zip k ra
 cases hk:kvGet kvs k with
 |none=>rw[hk]at this hq;rw[this];exact hq _ s.heap _ (.refl _ _ _) fun ω=>.bool _
 |some x=>rw[hk]at this hq;obtain⟨v',e',_⟩:=this;rw[e'];exact hq _ s.heap _ (.refl _ _ _) fun ω=>.bool _
theorem Ev.item_dict{k:Key}{kvs:List (Key×PV)}{x:PV}{i:Expr}(h1:Ev C env Γ l md (.dict kvs))(h2:Ev C env Γ i m2 k.pv)(hx:kvGet kvs k=some x)
  (hpl:∀o iv,∃ops,subscripted i false o iv=operate ops (getItem o iv):=by intro _ _;exact⟨_,rfl⟩):Ev C env Γ (.Subscript l i p) md x:=
 Ev.sub h1 h2 (fun s S v r=>by obtain⟨a,vs,rfl,_,_,hd,_⟩:=r.dict_inv;exact hd.typeIs) slot_dict_getitem.lookup hpl fun A S U s h₀ v u Q E hr hh e hns rv ru hq=>by
  obtain⟨a,vs,rfl,ha,hlo,hd,ra⟩:=rv.dict_inv
  have:=valueAt_zip k ra
  rw[hx]at this
  obtain⟨y,hy,ry⟩:=this
  exact wpAny_getItem_of ru.key hd.mapOf hy (hq y s.heap _ (.refl _ _ _) ry)
theorem Cop.is_none{x:PV}{b:Bool}(hb:(match x with| .none=>some true| .srt _=>some false| .list _=>some false| .tuple _=>some false| .dict _=>some false| .bool _=>some false|_=>none)=some b):Cop C env Γ .Is m1 m2 x .none (.bool (b)):=fun A S U s h₀ v u Q E hr hh e hns rv ru hq=>by
 cases ru.none_inv
 have hv:plainIs v .none=true∧(v== .none)=b:=by
  cases rv<;>simp at hb<;>subst hb<;>exact⟨rfl,rfl⟩
 refine wpAny_is_plain hv.1 ?_
 rw[hv.2]
 exact hq _ s.heap _ (.refl _ _ _) fun ω=>.bool _
theorem Cop.isnot_none{x:PV}{b:Bool}(hb:(match x with| .none=>some true| .srt _=>some false| .list _=>some false| .tuple _=>some false| .dict _=>some false| .bool _=>some false|_=>none)=some b):Cop C env Γ .IsNot m1 m2 x .none (.bool (!b)):=fun A S U s h₀ v u Q E hr hh e hns rv ru hq=>by
 cases ru.none_inv
 have hv:plainIs v .none=true∧(v== .none)=b:=by
  cases rv<;>simp at hb<;>subst hb<;>exact⟨rfl,rfl⟩
 refine wpAny_isNot_plain hv.1 ?_
 rw[hv.2]
 exact hq _ s.heap _ (.refl _ _ _) fun ω=>.bool _
theorem Cop.isnot_bool{a b:Bool}:Cop C env Γ .IsNot m1 m2 (.bool a) (.bool b) (.bool (a !=b)):=fun A S U s h₀ v u Q E hr hh e hns rv ru hq=>by
 cases rv.bool_inv;cases ru.bool_inv
 refine wpAny_isNot_plain rfl ?_
 have:(!Value.bool a==Value.bool b)=(a !=b):=by cases a<;>cases b<;>rfl
 rw[this]
 exact hq _ s.heap _ (.refl _ _ _) fun ω=>.bool _
theorem Cop.isnot_type{a b:String}:Cop C env Γ .IsNot m1 m2 (.raw (.type a)) (.raw (.type b)) (.bool (a !=b)):=fun A S U s h₀ v u Q E hr hh e hns rv ru hq=>by
 cases rv.raw_inv;cases ru.raw_inv
 refine wpAny_isNot_plain rfl ?_
 have:(!Value.type a==Value.type b)=(a !=b):=by
  rw[Bool.eq_iff_iff];simp
 rw[this]
 exact hq _ s.heap _ (.refl _ _ _) fun ω=>.bool _
end
theorem sub_lt_of{xl i n:Nat}(hn:n=xl - i)(hlt:i<xl):xl - (i+1)<n:=hn▸Nat.sub_lt_sub_left hlt (Nat.lt_succ_self i)
theorem hid{α:Type}{M:Model}{A:Around}{t:Sem α}{Q:α->Shared->Prop}{E:Value->Shared->Prop}{s:Shared}(h:∀ (Q':α->Shared->Prop) (E':Value->Shared->Prop),(∀a s,Q a s->Q' a s)->(∀e s,E e s->E' e s)->wpAny M A t Q' E' s):wpAny M A t Q E s:=h Q E (fun ω ω x=>x) fun ω ω x=>x
section
variable{prog:Program}{w:World}{A:Around}
theorem compLoop_gen{R:Result->Shared->Prop}{s:Shared}{elt:Expr}{gens:List Comprehension}{scope:Scope}{pos:Pos}{d:Nat}{it acc:Value}{env:Env}{g:Comprehension}(I:Nat->Shared->Prop)
  (hg:gens[d]?=some g) (ha:g.is_async=0) (ha':∀g',gens[d+1]?=some g'->g'.is_async=0∧∀x,foldedSetIterable g'.iter env x=pure x)
  (turn:∀n s,I n s->wpAny (model prog w) A (pyNext it) (fun r s₁=>match r with
   |none=>R (.ok .next) s₁
   |some v=>wpAny (model prog w) A (letOwnedTupleGo g.target it v) (fun ω s₁'=>wpAny (model prog w) A (assign g.target env v) (fun ω s₂=>
     wpAny (model prog w) A (forIn g.ifs true fun c r=>if r=true then do let ok ←isTrue c env (eval c env);pure (ForInStep.yield ok)else pure (ForInStep.yield r)) (fun ok s₃=>
      if ok=true then(match gens[d+1]? with
       |none=>wpAny (model prog w) A (eval elt env) (fun x s₄=>wpAny (model prog w) A (call (.builtin "list.append") [acc,x]) (fun ω s₅=>∃m,m<n∧I m s₅) (fun ω ω=>False) s₄) (fun ω ω=>False) s₃
       |some g'=>wpAny (model prog w) A (eval g'.iter env) (fun x s₄=>wpAny (model prog w) A (pyIter x) (fun it' s₅=>
         codeAny (model prog w) A (.compStart (.ListComp elt gens scope pos) (d+1) it' acc env) (fun r s₆=>match r with| .ok _=>∃m,m<n∧I m s₆| .error _=>False) s₅) (fun ω ω=>False) s₄) (fun ω ω=>False) s₃)
      else ∃m,m<n∧I m s₃) (fun ω ω=>False) s₂) (fun ω ω=>False) s₁') (fun ω ω=>False) s₁) (fun ω ω=>False) s)
  (n:Nat) (h:I n s):codeAny (model prog w) A (.compLoop (.ListComp elt gens scope pos) d it acc env) R s:=by
 refine codeAny_loop (c:=.compLoop (.ListComp elt gens scope pos) d it acc env) rfl I (fun n s hI=>?_) n h
 have hu:A.under (.compLoop (.ListComp elt gens scope pos) d it acc env)=A:=Around.under_of_weight rfl rfl
 rw[hu]
 show wpAny _ A ((compTurn (.ListComp elt gens scope pos) d it acc env).onRaise (fun x=>do noteFrame x env;theTreesLotGoes x)) _ _ s
 refine wpAny_noted ?_
 unfold compTurn
 simp only[hg,ha]
 refine wpAny_bind (wpAny_standAt ?_)
 refine wpAny_bind (wpAny_mono (turn n s hI) (fun r s₁ h₁=>?_) fun ω ω h'=>h'.elim)
 cases r with
 |none=>exact wpAny_pure h₁
 |some v=>
  refine wpAny_bind (wpAny_mono h₁ (fun ω s₁' h₁'=>?_) fun ω ω h'=>h'.elim)
  refine wpAny_bind (wpAny_mono h₁' (fun ω s₂ h₂=>?_) fun ω ω h'=>h'.elim)
  refine wpAny_bind (wpAny_mono h₂ (fun ok s₃ h₃=>?_) fun ω ω h'=>h'.elim)
  cases ok with
  |false=>exact wpAny_pure ⟨rfl,h₃⟩
  |true=>
   simp only[if_true]at h₃⊢
   cases hg':gens[d+1]? with
   |none=>
    rw[hg']at h₃
    simp only at h₃⊢
    refine wpAny_bind (wpAny_bind (wpAny_mono h₃ (fun x s₄ h₄=>wpAny_bind (wpAny_mono h₄ (fun ω s₅ h₅=>wpAny_pure (wpAny_pure ⟨rfl,h₅⟩)) fun ω ω h'=>h'.elim)) fun ω ω h'=>h'.elim))
   |some g'=>
    rw[hg']at h₃
    obtain⟨hz,hfs⟩:=ha' g' hg'
    simp only[hz]at h₃⊢
    refine wpAny_bind (wpAny_mono h₃ (fun x s₄ h₄=>?_) fun ω ω h'=>h'.elim)
    refine wpAny_bind (wpAny_standAt ?_)
    refine wpAny_bind ?_
    simp only[hfs]
    refine wpAny_pure ?_
    refine wpAny_bind (wpAny_holding (wpAny_mono h₄ (fun it' s₅ h₅=>?_) fun ω ω h'=>h'.elim))
    refine wpAny_bind (wpAny_runOwn (codeAny_mono h₅ fun r s₆ h₆=>?_))
    cases r with
    |error e=>exact h₆.elim
    |ok f=>exact wpAny_pure ⟨rfl,h₆⟩
end
theorem compLoop_core{R:Result->Shared->Prop}{s:Shared}{elt:Expr}{gens:List Comprehension}{scope:Scope}{pos:Pos}{d:Nat}{it acc:Value}{env:Env}{g:Comprehension}(I:Nat->Shared->Prop)
  (hg:gens[d]?=some g) (ha:g.is_async=0) (ha':∀g',gens[d+1]?=some g'->g'.is_async=0∧∀x,foldedSetIterable g'.iter env x=pure x)
  (turn:∀n s,I n s->∀ (Qn:Option Value->Shared->Prop) (Ef:Value->Shared->Prop) (QT:Bool->Shared->Prop),(∀s,R (.ok .next) s->Qn none s)->
   (∀v s₁,wpAny (model prog w) A (letOwnedTupleGo g.target it v) (fun ω s₁'=>wpAny (model prog w) A (assign g.target env v) (fun ω s₂=>
     wpAny (model prog w) A (forIn g.ifs true fun c r=>if r=true then do let ok ←isTrue c env (eval c env);pure (ForInStep.yield ok)else pure (ForInStep.yield r)) QT Ef s₂) Ef s₁') Ef s₁->Qn (some v) s₁)->
   (∀m s,m<n->I m s->QT false s)->
   (gens[d+1]?=none->∀s₃,(∀Qe:Value->Shared->Prop,(∀x s₄,(∀Qa:Value->Shared->Prop,(∀u m s,m<n->I m s->Qa u s)->wpAny (model prog w) A (call (.builtin "list.append") [acc,x]) Qa Ef s₄)->Qe x s₄)->wpAny (model prog w) A (eval elt env) Qe Ef s₃)->QT true s₃)->
   (∀g',gens[d+1]?=some g'->∀s₃,(∀Qi:Value->Shared->Prop,(∀it' s₅,(∀RR:Result->Shared->Prop,(∀f m s₆,m<n->I m s₆->RR (.ok f) s₆)->codeAny (model prog w) A (.compStart (.ListComp elt gens scope pos) (d+1) it' acc env) RR s₅)->Qi it' s₅)->
    wpAny (model prog w) A (eval g'.iter env) (fun x s₄=>wpAny (model prog w) A (pyIter x) Qi Ef s₄) Ef s₃)->QT true s₃)->
   wpAny (model prog w) A (pyNext it) Qn Ef s)
  (n:Nat) (h:I n s):codeAny (model prog w) A (.compLoop (.ListComp elt gens scope pos) d it acc env) R s:=by
 refine compLoop_gen I hg ha ha' (fun n s hI=>turn n s hI _ _ _ (fun ω x=>x) (fun ω ω x=>x) (fun m s hm hi=>?_) (fun e s₃ k=>?_) fun g' e s₃ k=>?_) n h
 ·exact⟨m,hm,hi⟩
 ·show(match gens[d+1]? with|none=>_|some g'=>_)
  rw[e];exact k _ fun x s₄ k=>k _ fun ω m ω hm hi=>⟨m,hm,hi⟩
 ·show(match gens[d+1]? with|none=>_|some g'=>_)
  rw[e];exact k _ fun it' s₅ k=>k _ fun ω m ω hm hi=>⟨m,hm,hi⟩
section
variable{prog:Program}{w:World}{A:Around}{E:Value->Shared->Prop}{s:Shared}
theorem compStart_gen{R:Result->Shared->Prop}{elt:Expr}{gens:List Comprehension}{scope:Scope}{pos:Pos}{d:Nat}{it acc:Value}{env:Env}{g:Comprehension}
  (hg:gens[d]?=some g) (ha:g.is_async=0)
  (h0:codeAny (model prog w) A (.compLoop (.ListComp elt gens scope pos) d it acc env) R s)
  (h:wpAny (model prog w) A (pyIter it) (fun it' s'=>codeAny (model prog w) A (.compLoop (.ListComp elt gens scope pos) d it' acc env) R s') (fun ω ω=>False) s):
  codeAny (model prog w) A (.compStart (.ListComp elt gens scope pos) d it acc env) R s:=by
 refine codeAny_of_tree ?_
 have hu:A.under (.compStart (.ListComp elt gens scope pos) d it acc env)=A:=Around.under_of_weight rfl rfl
 rw[hu]
 show wpAny _ _ ((compStart (.ListComp elt gens scope pos) d it acc env).onRaise (fun x=>do noteFrame x env;standAt theWindowsPlace)) _ _ s
 refine wpAny_notedAt ?_
 unfold compStart
 have hcl:(clausesOf (.ListComp elt gens scope pos))[d]?=some g:=hg
 simp only[hcl,Option.elim,ha]
 show wpAny _ _ (ask>>=_) _ _ s
 refine wpAny_bind (wpAny_askSetting ?_)
 refine wpAny_ite ?_
 split
 ·first
   |exact wpAny_bind (wpAny_pure (wpAny_pure (And.intro rfl h0)))
   |exact wpAny_pure (And.intro rfl h0)
 ·refine wpAny_bind (wpAny_rule ?_)
  refine wpAny_bind (wpAny_standAt ?_)
  refine wpAny_bind (wpAny_mono h (fun it' s' h'=>wpAny_pure (And.intro rfl h')) fun ω ω x=>x.elim)
noncomputable def ownedIters:List String:=["enumerate","zip","dict_itemiterator","dict_reverseitemiterator","odict_iterator","itertools.zip_longest","itertools.pairwise"]
set_option tactic.hygienic true in
theorem letOwned_quiet{target:Expr}{I:Addr}{v:Value}{o:Obj}{T:String}{Q:Unit->Shared->Prop}(ho:s.heap.get? I=some o)(hc:o.cls= .type T)(hT:ownedIters.contains T=false)(h:Q () s):
  wpAny (model prog w) A (letOwnedTupleGo target (.ref I) v) Q E s:=by
 unfold letOwnedTupleGo
 split
 all_goals first
  |exact wpAny_pure h
  |(cases v with
    |ref a=>
     refine wpAny_bind (wpAny_load ho ?_)
     rw[hc]
     cases hd:o.data<;>simp only[]<;>try exact wpAny_pure h
     rename_i vs
     show wpAny _ A (if(ownedIters.contains T&&vs[0]?==some (rawInt a))=true then _ else _) Q E s
     rw[hT,Bool.false_and,if_neg (by decide)]
     exact wpAny_pure h
    |_=>exact wpAny_pure h)
end
noncomputable def EvI(C:Cx)(env:Env)(Γ:Gam)(e:Expr)(md:Bool)(xs:List PV):Prop:=
 ∀ (A:Around) (S U:Addr->Prop) (s:Shared) (Q:Value->Shared->Prop) (E:Value->Shared->Prop),Room C A->Here C A S U env Γ s.heap->
  (∀I h' t' fp P St,Ext A env s.heap h'->s.heap.get? I=none->mainGlobals<I->Walks C.prog C.w A I fp [I] xs.length P St->St 0 h'->
   (∀i v,P i v->∃x,xs[i]?=some x∧Rd C.prog C.w (fun a=>Reg md S U s.heap a∧a≠I) h' v x)->(∀b∈fp,(b=I∨Reg md S U s.heap b)∧(h'.get? b).isSome=true)->xs.length≤2^24->
   (∀i h,St i h->∃o T,h.get? I=some o∧o.cls= .type T∧ownedIters.contains T=false)->Q (.ref I) {s with heap:=h',toks:=t'})->
  wpAny (model C.prog C.w) A (eval e env) (fun x s₁=>wpAny (model C.prog C.w) A (pyIter x) Q E s₁) E s
section
variable{C:Cx}{A:Around}{env:Env}{Γ:Gam}{e:Expr}{md:Bool}
theorem fresh_size{h:Heap}:h.get? h.objs.size=none:=by
 cases hh:h.get? h.objs.size with
 |none=>rfl
 |some o=>exact absurd (Heap.lt_size hh) (Nat.lt_irrefl _)
theorem Ext.high{S U:Addr->Prop}{h h':Heap}(e:Ext A env h h')(hh:Here C A S U env Γ h):mainGlobals<h'.objs.size:=by
 obtain⟨m,hm⟩:=hh.eok.ns
 exact Nat.lt_trans hh.eok.high (e.ns m hm).lt
theorem EvI.list{xs:List PV}(h:Ev C env Γ e md (.list xs))(hsz:xs.length≤lim)(hN:C.hd=false:=by assumption):EvI C env Γ e md xs:=fun A S U s Q E hr hh hq=>by
 refine h A S U s _ E hr hh fun v h' t' ex rd=>?_
 obtain⟨a,vs,n,rfl,ha,hoa,ra⟩:=rd.list_inv
 have hne:a≠h'.objs.size:=Nat.ne_of_lt (Heap.lt_size hoa)
 refine wpAny_pyIter_list (IsList.of_lob hoa) ?_
 have hk:∀b o,h'.get? b=some o->(h'.push {cls:=.type "list_iterator",data:=.fields #[.ref a,.int 0 0]}).get? b=some o:=fun b o ho=>Heap.get?_push_of_some _ ho
 have hW:=Walks.list (prog:=C.prog) (w:=C.w) (hr.1 hN) h'.objs.size a hne vs.toArray
 have hlen:vs.toArray.size=xs.length:=by simp[ra.length]
 rw[hlen]at hW
 refine hq h'.objs.size _ t' _ _ _ (ex.push _) (ex.fresh_at hh.eok.ns) (ex.high hh) hW ⟨⟨_,Heap.get?_push_size _ rfl,rfl,rfl⟩,(IsList.of_lob hoa).at fun o ho=>hk _ _ ho⟩ ?_ ?_ (by unfold lim at hsz;omega) ?_
 ·intro i v hv
  obtain⟨x,hx,rx⟩:=ra.getv (i:=i) (v:=v) (by simpa using hv)
  exact⟨x,hx,rx.there.mono (fun b hb=>⟨hb.1,by rintro rfl;have:=hb.2;rw[fresh_size]at this;cases this⟩) fun b o ω ho=>hk b o ho⟩
 ·intro b hb
  rcases List.mem_cons.mp hb with rfl|hb
  ·exact⟨.inl rfl,by rw[Heap.get?_push_size _ rfl];rfl⟩
  ·rcases List.mem_singleton.mp hb with rfl
   exact⟨.inr ha,by rw[hk _ _ hoa];rfl⟩
 ·rintro i h ⟨⟨o,ho,hc,_⟩,_⟩
  exact⟨o,_,ho,hc,by decide⟩
theorem EvI.tuple{xs:List PV}(h:Ev C env Γ e md (.tuple xs))(hsz:xs.length≤lim)(hN:C.hd=false:=by assumption):EvI C env Γ e md xs:=fun A S U s Q E hr hh hq=>by
 refine h A S U s _ E hr hh fun v h' t' ex rd=>?_
 obtain⟨a,vs,n,rfl,ha,hoa,ra⟩:=rd.tuple_inv
 have hne:a≠h'.objs.size:=Nat.ne_of_lt (Heap.lt_size hoa)
 refine wpAny_pyIter_tuple (IsTuple.of_tob hoa) ?_
 have hk:∀b o,h'.get? b=some o->(h'.push {cls:=.type "tuple_iterator",data:=.fields #[.ref a,.int 0 0]}).get? b=some o:=fun b o ho=>Heap.get?_push_of_some _ ho
 have hW:=Walks.tuple (prog:=C.prog) (w:=C.w) (hr.1 hN) h'.objs.size a hne vs.toArray
 have hlen:vs.toArray.size=xs.length:=by simp[ra.length]
 rw[hlen]at hW
 refine hq h'.objs.size _ t' _ _ _ (ex.push _) (ex.fresh_at hh.eok.ns) (ex.high hh) hW ⟨⟨_,Heap.get?_push_size _ rfl,rfl,rfl⟩,⟨_,hk _ _ hoa,rfl,n,rfl⟩⟩ ?_ ?_ (by unfold lim at hsz;omega) ?_
 ·intro i v hv
  obtain⟨x,hx,rx⟩:=ra.getv (i:=i) (v:=v) (by simpa using hv)
  exact⟨x,hx,rx.there.mono (fun b hb=>⟨hb.1,by rintro rfl;have:=hb.2;rw[fresh_size]at this;cases this⟩) fun b o ω ho=>hk b o ho⟩
 ·intro b hb
  rcases List.mem_cons.mp hb with rfl|hb
  ·exact⟨.inl rfl,by rw[Heap.get?_push_size _ rfl];rfl⟩
  ·rcases List.mem_singleton.mp hb with rfl
   exact⟨.inr ha,by rw[hk _ _ hoa];rfl⟩
 ·rintro i h ⟨⟨o,ho,hc,_⟩,_⟩
  exact⟨o,_,ho,hc,by decide⟩
noncomputable def rlen(a b c:Int):Nat:=(Builtin.Range.rangeSize a b c).toNat
noncomputable def rints(a b c:Int):List Int:=(List.range (rlen a b c)).map fun(i:Nat)=>a+(i:Int)*c
theorem Rd.rng_inv{S:Addr->Prop}{h:Heap}{v:Value}{x y z:Int}(r:Rd C.prog C.w S h v (.rng x y z)):∃a t1 t2 t3,v= .ref a∧S a∧h.get? a=some (rob x y z t1 t2 t3):=r.view
theorem rangeSize_nonneg(a b c:Int):0≤Builtin.Range.rangeSize a b c:=by
 unfold Builtin.Range.rangeSize
 split
 ·split
  ·have:0≤(b - a - 1) / c:=Int.ediv_nonneg (by omega) (by omega)
   omega
  ·exact Int.le_refl _
 ·split
  ·have:0≤(a - b - 1) / -c:=by
    rcases(by omega:c<0∨0≤c)with h|h
    ·exact Int.ediv_nonneg (by omega) (by omega)
    ·have:c=0:=by omega
     subst this;simp
   omega
  ·exact Int.le_refl _
theorem EvI.rng{a b c:Int}(h:Ev C env Γ e md (.rng a b c))(hs:Builtin.Range.small a b c=true)(hsz:rlen a b c≤2^24)(hN:C.hd=false:=by assumption):EvI C env Γ e md ((rints a b c).map .int):=fun A S U s Q E hr hh hq=>by
 refine h A S U s _ E hr hh fun v h' t' ex rd=>?_
 obtain⟨q,t1,t2,t3,rfl,ha,hoa⟩:=rd.rng_inv
 refine wpAny_pyIter_range hoa hs ?_
 have hk:∀ (b':Addr) o,h'.get? b'=some o->(h'.push {cls:=.type "range_iterator",data:=.fields #[rawInt a,rawInt (Builtin.Range.rangeSize a b c),rawInt c]}).get? b'=some o:=fun b o ho=>Heap.get?_push_of_some _ ho
 have hW:=Walks.range (prog:=C.prog) (w:=C.w) (hr.1 hN) h'.objs.size a c (rlen a b c)
 have hlen:((rints a b c).map PV.int).length=rlen a b c:=by simp[rints]
 refine hq h'.objs.size _ t' [h'.objs.size] (fun(i:Nat) v=>(∃t,v=Value.int (a+(i:Int)*c) t)∧i<rlen a b c) (fun(i:Nat) h=>IsRangeIter h h'.objs.size (a+(i:Int)*c) ((rlen a b c:Int) - (i:Int)) c) (ex.push _) (ex.fresh_at hh.eok.ns) (ex.high hh) ?_ ?_ ?_ ?_ (by rw[hlen];exact hsz) ?_
 ·rw[hlen]
  exact{sub:=hW.sub,frame:=hW.frame,item:=fun i s Q E hi st hQ=>hW.item i s Q E hi st fun v h' tk hp=>hQ v h' tk ⟨hp,hi⟩,done:=hW.done,self:=hW.self}
 ·have:(rlen a b c:Int)=Builtin.Range.rangeSize a b c:=Int.toNat_of_nonneg (rangeSize_nonneg a b c)
  show IsRangeIter _ _ (a+((0:Nat):Int)*c) ((rlen a b c:Int) - ((0:Nat):Int)) c
  rw[this]
  simp only[Int.natCast_zero,Int.zero_mul,Int.add_zero,Int.sub_zero]
  exact Heap.get?_push_size _ rfl
 ·rintro i v ⟨⟨t,rfl⟩,hi⟩
  refine⟨.int (a+i*c),?_,.int _ _⟩
  simp only[rints,List.map_map]
  rw[List.getElem?_map,List.getElem?_range hi];rfl
 ·intro b hb
  rcases List.mem_singleton.mp hb with rfl
  exact⟨.inl rfl,by rw[Heap.get?_push_size _ rfl];rfl⟩
 ·intro i h hst
  exact⟨_,_,hst,rfl,by decide⟩
end
noncomputable def clOf(env:Env):List (Str×NameKind)->List (Str×Addr)->List (Str×Addr)
 |[],acc=>acc
 |(n,k)::r,acc=>clOf env r (if k== .free then(n,(env.cells.lookup n).getD 0)::acc else acc)
theorem closureFor_eq{env:Env}{scope:Scope}(hc:∀x∈scope.names,x.2= .free->∃c,env.cells.lookup x.1=some c):closureFor scope env=pure (clOf env scope.names []):=by
 have key:∀ (names:List (Str×NameKind)) (acc:List (Str×Addr)),(∀x∈names,x.2= .free->∃c,env.cells.lookup x.1=some c)->
   (forIn names acc fun(x:Str×NameKind) (cs:List (Str×Addr))=>(match x with
    |(name,kind)=>if kind== .free then(do let c ←cellOf env name;pure (ForInStep.yield ((name,c)::cs)))else pure (ForInStep.yield cs):Sem (ForInStep (List (Str×Addr)))))=pure (clOf env names acc):=by
  intro names
  induction names with
  |nil=>intro acc _;rfl
  |cons x r ih=>
   intro acc h
   obtain⟨n,k⟩:=x
   rw[List.forIn_cons]
   unfold clOf
   by_cases hk:k= .free
   ·subst hk
    obtain⟨c,hc⟩:=h (n,.free) List.mem_cons_self rfl
    have hc':env.cells.lookup n=some c:=hc
    have:cellOf env n=pure c:=by unfold cellOf;rw[hc']
    simp only[beq_self_eq_true,if_true,this,hc',Option.getD_some]
    exact ih _ fun y hy=>h y (List.mem_cons_of_mem _ hy)
   ·have hk':(k==NameKind.free)=false:=by simpa using hk
    simp only[hk',Bool.false_eq_true,if_false]
    exact ih _ fun y hy=>h y (List.mem_cons_of_mem _ hy)
 have:=key scope.names [] hc
 unfold closureFor
 exact congrArg (fun t=>t>>=fun cs=>pure cs) this
theorem clOf_lookup{env:Env}:∀ (names:List (Str×NameKind)) (acc:List (Str×Addr)) (x:Str),(∀n k,(n,k)∈names->n=x->k≠.free)->(clOf env names acc).lookup x=acc.lookup x
 |[],acc,x,_=>rfl
 |(n,k)::r,acc,x,h=>by
  unfold clOf
  rw[clOf_lookup r _ x fun n' k' hm=>h n' k' (List.mem_cons_of_mem _ hm)]
  by_cases hk:k= .free
  ·subst hk
   have hne:n≠x:=fun e=>h n .free List.mem_cons_self e rfl
   have:(x==n)=false:=by simpa using Ne.symm hne
   simp[List.lookup_cons,this]
  ·have hk':(k==NameKind.free)=false:=by simpa using hk
   simp[hk']
theorem clOf_lookup_free{env:Env}:∀ (names:List (Str×NameKind)) (acc:List (Str×Addr)) (x:Str) (c:Addr),(names.map (·.1)).Nodup->(x,.free)∈names->env.cells.lookup x=some c->(clOf env names acc).lookup x=some c
 |[],acc,x,c,_,h,_=>by cases h
 |(n,k)::r,acc,x,c,hnd,hm,hc=>by
  unfold clOf
  have hnd':n∉r.map (·.1)∧(r.map (·.1)).Nodup:=by simpa using hnd
  rcases List.mem_cons.mp hm with e|hm
  ·cases e
   rw[clOf_lookup r _ n fun n' k' hm' e=>absurd (List.mem_map.mpr ⟨(n',k'),hm',e⟩) hnd'.1]
   simp[List.lookup_cons,hc]
  ·exact clOf_lookup_free r _ x c hnd'.2 hm hc
theorem clOf_some{env:Env}(names:List (Str×NameKind)):∀ (acc:List (Str×Addr)) (x:Str) (c:Addr),(∀y∈names,y.2= .free->∃c,env.cells.lookup y.1=some c)->(clOf env names acc).lookup x=some c->acc.lookup x=some c∨((x,.free)∈names∧env.cells.lookup x=some c):=by
 induction names with
 |nil=>exact fun ω ω ω ω h=>.inl h
 |cons q r ih=>
  obtain⟨n,k⟩:=q
  intro acc x c hf h
  unfold clOf at h
  rcases ih _ x c (fun y hy=>hf y (List.mem_cons_of_mem _ hy)) h with h1|⟨h1,h2⟩
  ·by_cases hk:k= .free
   ·subst hk
    simp only[beq_self_eq_true,if_true,List.lookup_cons]at h1
    cases hx:x==n with
    |true=>
     rw[hx]at h1
     have:x=n:=beq_iff_eq.mp hx
     subst this
     obtain⟨c',hc'⟩:=hf (x,.free) List.mem_cons_self rfl
     have hc'':env.cells.lookup x=some c':=hc'
     rw[hc'']at h1;cases h1
     exact .inr ⟨List.mem_cons_self,hc''⟩
    |false=>rw[hx]at h1;exact .inl h1
   ·have hk':(k==NameKind.free)=false:=by simpa using hk
    rw[hk']at h1;exact .inl h1
  ·exact .inr ⟨List.mem_cons_of_mem _ h1,h2⟩
structure CellsIn(N:Nat)(h0 h:Heap)(base cells:List (Str×Addr))(done:List (Str×NameKind)):Prop where
 keep:∀a o,h0.get? a=some o->h.get? a=some o
 size:N≤h.objs.size
 old:∀x,(∀k,(x,k)∈done->k≠.cell)->cells.lookup x=base.lookup x
 fresh:∀x,(x,.cell)∈done->∃c,cells.lookup x=some c∧N≤c
 all:∀x c,cells.lookup x=some c->(base.lookup x=some c∧∀k,(x,k)∈done->k≠.cell)∨(N≤c∧c<h.objs.size∧h.IsCell c none∧(x,.cell)∈done)
 apart:∀x y c,N≤c->cells.lookup x=some c->cells.lookup y=some c->x=y
theorem cellsIn(N:Nat)(h0:Heap)(base:List (Str×Addr))(hbase:∀x c,base.lookup x=some c->c<N)(names:List (Str×NameKind)):∀ (h:Heap) (cells:List (Str×Addr)) (done:List (Str×NameKind)),
  CellsIn N h0 h base cells done->CellsIn N h0 (pushCells h names) base (cellsFrom h.objs.size names cells) (done++names):=by
 induction names with
 |nil=>exact fun h cells done x=>by simpa [pushCells,cellsFrom]using x
 |cons q r ih=>
  obtain⟨n,k⟩:=q
  intro h cells done x
  unfold pushCells cellsFrom
  by_cases hk:k= .cell
  ·subst hk
   simp only[beq_self_eq_true,if_true]
   have:=ih (h.push {cls:=.type "cell",data:=.cell none}) ((n,h.objs.size)::cells) (done++[(n,.cell)]) ?_
   ·rw[Heap.size_push]at this
    simpa using this
   ·refine⟨fun a o e=>Heap.get?_push_of_some _ (x.keep a o e),?_,?_,?_,?_,?_⟩
    ·rw[Heap.size_push];exact Nat.le_succ_of_le x.size
    ·intro y hy
     have hne:y≠n:=fun e=>hy .cell (by simp[e]) rfl
     have:(y==n)=false:=by simpa using hne
     rw[List.lookup_cons,this]
     exact x.old y fun k hk=>hy k (List.mem_append_left _ hk)
    ·intro y hy
     rw[List.lookup_cons]
     cases hb:y==n with
     |true=>exact⟨_,rfl,x.size⟩
     |false=>
      rcases List.mem_append.mp hy with hy|hy
      ·exact x.fresh y hy
      ·simp only[List.mem_singleton,Prod.mk.injEq,and_true]at hy
       subst hy;simp at hb
    ·intro y c hc
     rw[List.lookup_cons]at hc
     cases hb:y==n with
     |true=>
      rw[hb]at hc;cases hc
      have:y=n:=beq_iff_eq.mp hb
      subst this
      exact .inr ⟨x.size,by rw[Heap.size_push];exact Nat.lt_succ_self _,⟨_,Heap.get?_push_size _ rfl,rfl⟩,by simp⟩
     |false=>
      rw[hb]at hc
      rcases x.all y c hc with⟨h1,h2⟩|⟨h1,h2,h3,h4⟩
      ·refine .inl ⟨h1,fun k hk=>?_⟩
       rcases List.mem_append.mp hk with hk|hk
       ·exact h2 k hk
       ·simp only[List.mem_singleton,Prod.mk.injEq]at hk
        rw[hk.1]at hb;simp at hb
      ·exact .inr ⟨h1,by rw[Heap.size_push];exact Nat.lt_succ_of_lt h2,h3.keeps fun b o e=>Heap.get?_push_of_some _ e,List.mem_append_left _ h4⟩
    ·intro y z c hN hy hz
     rw[List.lookup_cons]at hy hz
     have lt:∀y,cells.lookup y=some c->c≠h.objs.size:=fun y hy e=>by
      rcases x.all y c hy with⟨h1,_⟩|⟨_,h2,_⟩
      ·exact absurd (hbase y c h1) (Nat.not_lt.mpr hN)
      ·exact absurd h2 (by rw[e];exact Nat.lt_irrefl _)
     cases hb:y==n with
     |true=>
      cases hb':z==n with
      |true=>rw[beq_iff_eq.mp hb,beq_iff_eq.mp hb']
      |false=>
       rw[hb]at hy;rw[hb']at hz;cases hy
       exact absurd rfl (lt z hz)
     |false=>
      cases hb':z==n with
      |true=>
       rw[hb]at hy;rw[hb']at hz;cases hz
       exact absurd rfl (lt y hy)
      |false=>rw[hb]at hy;rw[hb']at hz;exact x.apart y z c hN hy hz
  ·have hk':(k==NameKind.cell)=false:=by simpa using hk
   simp only[hk',Bool.false_eq_true,if_false]
   have:=ih h cells (done++[(n,k)]) ?_
   ·simpa using this
   ·refine⟨x.keep,x.size,fun y hy=>x.old y fun k hk=>hy k (List.mem_append_left _ hk),fun y hy=>?_,fun y c hc=>?_,x.apart⟩
    ·rcases List.mem_append.mp hy with hy|hy
     ·exact x.fresh y hy
     ·simp only[List.mem_singleton,Prod.mk.injEq]at hy
      exact absurd hy.2.symm hk
    ·rcases x.all y c hc with⟨h1,h2⟩|⟨h1,h2,h3,h4⟩
     ·refine .inl ⟨h1,fun k' hk2=>?_⟩
      rcases List.mem_append.mp hk2 with hk2|hk2
      ·exact h2 k' hk2
      ·simp only[List.mem_singleton,Prod.mk.injEq]at hk2
       rw[hk2.2];exact hk
     ·exact .inr ⟨h1,h2,h3,List.mem_append_left _ h4⟩
structure Keepx(env:Env)(ns:List Str)(h h':Heap):Prop where
 keep:∀a o,a≠env.locals->(∀y∈ns,env.cells.lookup y≠some a)->h.get? a=some o->h'.get? a=some o
 live:∀a,(h.get? a).isSome=true->(h'.get? a).isSome=true
theorem wpAny_storeVar{C:Cx}{M:Model}{A:Around}{E:Value->Shared->Prop}{s:Shared}{env:Env}{x:Str}{v:Value}{Q:Unit->Shared->Prop}(k:EnvOk C s.heap env)
  (hx:env.kindOf x=some .local∨env.kindOf x=some .cell) (hcd:x≠"__classdict__")
  (h:∀h' t',EnvOk C h' env->VarAt h' env x v->(∀y u,y≠x->VarAt s.heap env y u->VarAt h' env y u)->Keepx env [x] s.heap h'->h'.objs.size=s.heap.objs.size->Q () {s with heap:=h',toks:=t'}):
  wpAny M A (storeName env x v) Q E s:=by
 rcases hx with hx|hx
 ·obtain⟨m,hm⟩:=k.ns
  refine wpAny_storeName_local hx hm (fun h' hn hs=>?_) (by rw[k.kind];rfl)
  refine h h' _ ?_ ?_ ?_ ?_ hs.1
  ·exact{kind:=k.kind,glob:=k.glob,bltn:=k.bltn,ns:=⟨_,hn⟩,cell:=fun y hy=>by
              obtain⟨c,u,h1,h2⟩:=k.cell y hy
              exact⟨c,u,h1,h2.sameBut hs (k.notL y c h1)⟩,call:=fun y c hy=>let⟨u,h2⟩:=k.call y c hy;⟨u,h2.sameBut hs (k.notL y c hy)⟩,apart:=k.apart,notL:=k.notL,below:=k.below,high:=k.high,chigh:=k.chigh}
  ·exact .inl ⟨hx,_,hn,by simp⟩
  ·rintro y u hy (⟨h1,m',h2,h3⟩|⟨h1,h0,c,h2,h3⟩)
   ·refine .inl ⟨h1,_,hn,?_⟩
    simp only[hy,if_false]
    rw[←h2.agree hm y];exact h3
   ·exact .inr ⟨h1,h0,c,h2,h3.sameBut hs (k.notL y c h2)⟩
  ·refine⟨fun a o ha ω ho=>(hs.2 a ha).trans ho,fun a ha=>?_⟩
   by_cases hL:a=env.locals
   ·subst hL;obtain⟨o,_,_,ho,_⟩:=hn;rw[ho];rfl
   ·rw[hs.2 a hL];exact ha
 ·obtain⟨c,v₀,hc,hv⟩:=k.cell x (.inl hx)
  refine wpAny_storeName_cell k.kind hx hc hv fun h' hc' hs=>?_
  refine h h' s.toks ?_ ?_ ?_ ?_ hs.1
  ·obtain⟨m,hm⟩:=k.ns
   refine{kind:=k.kind,glob:=k.glob,bltn:=k.bltn,ns:=⟨_,hm.sameBut hs (Ne.symm (k.notL x c hc))⟩,cell:=fun y hy=>?_,call:=fun y c₂ hy=>?_,apart:=k.apart,notL:=k.notL,below:=k.below,high:=k.high,chigh:=k.chigh}
   rotate_left
   ·obtain⟨u,h2⟩:=k.call y c₂ hy
    by_cases hcc:c₂=c
    ·subst hcc;exact⟨_,hc'⟩
    ·exact⟨u,h2.sameBut hs hcc⟩
   obtain⟨c₂,u,h1,h2⟩:=k.cell y hy
   by_cases hcc:c₂=c
   ·subst hcc;exact⟨c₂,_,h1,hc'⟩
   ·exact⟨c₂,u,h1,h2.sameBut hs hcc⟩
  ·exact .inr ⟨.inl hx,hcd,c,hc,hc'⟩
  ·rintro y u hy (⟨h1,m',h2,h3⟩|⟨h1,h0,c₂,h2,h3⟩)
   ·exact .inl ⟨h1,m',h2.sameBut hs (Ne.symm (k.notL x c hc)),h3⟩
   ·refine .inr ⟨h1,h0,c₂,h2,h3.sameBut hs ?_⟩
    rintro rfl
    exact hy (k.apart y x c₂ h2 hc)
  ·refine⟨fun a o ω hca ho=>(hs.2 a (fun e=>hca x (by simp) (by rw[e];exact hc))).trans ho,fun a ha=>?_⟩
   by_cases hL:a=c
   ·subst hL;obtain⟨o,ho,_⟩:=hc';rw[ho];rfl
   ·rw[hs.2 a hL];exact ha
noncomputable def Asg(C:Cx)(env:Env)(Γ:Gam)(target:Expr)(md:Bool)(x:PV)(ns:List Str)(Γ':Gam):Prop:=
 ∀ (A:Around) (S U:Addr->Prop) (s:Shared) (v:Value) (Q:Unit->Shared->Prop) (E:Value->Shared->Prop),Room C A->Here C A S U env Γ s.heap->
  Rd C.prog C.w (fun a=>if md then S a else U a) s.heap v x->
  (∀h' t',Here C A S U env Γ' h'->Keepx env ns s.heap h'->(∀y u,y∉ns->VarAt s.heap env y u->VarAt h' env y u)->Q () {s with heap:=h',toks:=t'})->wpAny (model C.prog C.w) A (assign target env v) Q E s
theorem Here.low{C:Cx}{A:Around}{S U:Addr->Prop}{env:Env}{Γ:Gam}{h:Heap}(x:Here C A S U env Γ h){a:Addr}{o:Obj}(e:C.K.lookup a=some o):a<env.locals:=x.eok.below a o e
theorem Here.store{C:Cx}{A:Around}{S U:Addr->Prop}{env:Env}{Γ:Gam}{h h':Heap}{x:Str}{v:Value}{md:Bool}{pv:PV}(hh:Here C A S U env Γ h)(hr:Rd C.prog C.w (fun a=>if md then S a else U a) h v pv)
  (ek:EnvOk C h' env) (hx:VarAt h' env x v) (hy:∀y u,y≠x->VarAt h env y u->VarAt h' env y u) (kx:Keepx env [x] h h'):Here C A S U env ((x,some (bn md,pv))::Γ) h':=by
 have kU:∀a o,U a->h.get? a=some o->h'.get? a=some o:=fun a o ha ho=>kx.keep a o (fun e=>(hh.old a ha).2.1 (.inl e)) (fun y hy' hc=>(hh.old a ha).2.2 y a hc rfl) ho
 have kM:∀ (a:Addr) o,a≤mainGlobals->h.get? a=some o->h'.get? a=some o:=fun a o ha ho=>kx.keep a o (Nat.ne_of_lt (Nat.lt_of_le_of_lt ha hh.eok.high)) (fun y hy' hc=>by
  rcases List.mem_singleton.mp hy' with rfl
  exact absurd ha (Nat.not_le.mpr (hh.eok.chigh _ a hc).1)) ho
 have kNs:∀ {a:Addr} {m},a≤mainGlobals->h.Ns a m->h'.Ns a m:=fun{a m} ha hn=>by
  obtain⟨o,es,ep,ho,r⟩:=hn
  exact⟨o,es,ep,kM a o ha ho,r⟩
 refine{cx:=hh.cx,base:=⟨fun a o e=>kx.keep a o (Nat.ne_of_lt (hh.low e)) (fun y hy' hc=>by
             rcases List.mem_singleton.mp hy' with rfl
             exact(hh.eok.chigh _ a hc).2 a o e rfl) (hh.base.kin a o e),?_,?_,?_⟩,eok:=ek,fra:=hh.fra.move fun a o ha ho hd=>?_,sub:=hh.sub,old:=fun a ha=>?_,has:=fun y md' pv' hl hv=>?_}
 ·obtain⟨mc,h1,h2⟩:=hh.base.nolimit
  exact⟨mc,kNs (by decide) h1,h2⟩
 ·obtain⟨mb,h1,h2⟩:=hh.base.bns
  exact⟨mb,kNs (by decide) h1,h2⟩
 ·obtain⟨mc,h1,h2⟩:=hh.base.nodigits
  exact⟨mc,kNs (by decide) h1,h2⟩
 ·by_cases hl:a=env.locals
  ·subst hl
   obtain⟨m,o',es,ep,ho',hd',_⟩:=ek.ns
   exact⟨o',ho',es,ep,hd'⟩
  ·refine⟨o,kx.keep a o hl (fun y ω hc=>?_) ho,hd⟩
   obtain⟨u,o2,ho2,hd2⟩:=hh.eok.call y a hc
   obtain⟨es,ep,hd⟩:=hd
   rw[ho]at ho2;cases ho2
   rw[hd]at hd2;cases hd2
 ·obtain⟨h1,h2,h3⟩:=hh.old a ha
  obtain⟨o,ho⟩:=Option.isSome_iff_exists.mp h1
  exact⟨by rw[kU a o ha ho];rfl,h2,h3⟩
 ·rw[List.lookup_cons]at hl
  cases hb:y==x with
  |true=>
   rw[hb]at hl;cases hl
   have:y=x:=beq_iff_eq.mp hb
   subst this
   refine⟨v,hx,hr.mono (fun a ha=>by rw[bn_eq];exact ha) fun a o ha ho=>kU a o ?_ ho,fun hn=>by cases md<;>simp[bn]at hn⟩
   cases md
   ·exact ha
   ·exact hh.sub a ha
  |false=>
   rw[hb]at hl
   obtain⟨u,h1,h2,h3⟩:=hh.has y md' pv' hl hv
   refine⟨u,hy y u (by simpa using hb) h1,h2.mono (fun ω z=>z) fun a o ha ho=>kU a o ?_ ho,fun hn=>(h3 hn).mono (fun ω z=>z) (fun ω z=>z) hh.sub kU⟩
   by_cases hn:(md'==0)=true
   ·rw[if_pos hn]at ha;exact hh.sub a ha
   ·rw[if_neg hn]at ha;exact ha
section
variable{C:Cx}{A:Around}{env:Env}{Γ:Gam}
theorem Asg.name{x:Str}{p:Pos}{md:Bool}{pv:PV}(hx:env.kindOf x=some .local∨env.kindOf x=some .cell)(hcd:x≠"__classdict__":=by decide):
  Asg C env Γ (.Name x p) md pv [x] ((x,some (bn md,pv))::Γ):=fun A S U s v Q E hr hh rd hq=>
 wpAny_assign_Name (wpAny_storeVar hh.eok hx hcd fun h' t' ek h1 h2 kx ω=>hq h' t' (hh.store rd ek h1 h2 kx) kx fun y u hy=>h2 y u (by simpa using hy))
noncomputable def AsgL(C:Cx)(env:Env)(Γ:Gam)(ts:List Expr)(md:Bool)(xs:List PV)(ns:List Str)(Γ':Gam):Prop:=
 ∀ (A:Around) (S U:Addr->Prop) (s:Shared) (vs:List Value) (Q:Unit->Shared->Prop) (E:Value->Shared->Prop),Room C A->Here C A S U env Γ s.heap->
  RdAll C.prog C.w (fun a=>if md then S a else U a) s.heap vs xs->
  (∀h' t',Here C A S U env Γ' h'->Keepx env ns s.heap h'->(∀y u,y∉ns->VarAt s.heap env y u->VarAt h' env y u)->Q () {s with heap:=h',toks:=t'})->wpAny (model C.prog C.w) A (assignInOrder ((assignEach ts env).map (·.2)) vs) Q E s
theorem AsgL.nil{md:Bool}:AsgL C env Γ [] md [] [] Γ:=fun A S U s vs Q E hr hh rd hq=>by
 cases rd
 exact wpAny_pure (hq s.heap s.toks hh ⟨fun a o ω ω e=>e,fun ω e=>e⟩ fun ω ω ω e=>e)
theorem AsgL.cons{t:Expr}{ts:List Expr}{md:Bool}{x:PV}{xs:List PV}{ns ns':List Str}{Γ' Γ'':Gam}(h1:Asg C env Γ t md x ns Γ')(h2:AsgL C env Γ' ts md xs ns' Γ'')
  (hs:∀env,assignEach (t::ts) env=(false,assign t env)::assignEach ts env:=by intro _;rfl):AsgL C env Γ (t::ts) md (x::xs) (ns++ns') Γ'':=fun A S U s vs Q E hr hh rd hq=>by
 cases rd with
 |cons r1 r2=>
  rw[hs]
  refine wpAny_assignInOrder_more ?_
  refine h1 A S U s _ _ E hr hh r1 fun h' t' hh' kx vk=>?_
  refine h2 A S U _ _ _ E hr hh' ?_ fun h'' t'' hh'' kx' vk'=>?_
  ·refine r2.mono (fun ω z=>z) fun a o ha ho=>kx.keep a o ?_ ?_ ho
   ·intro e
    cases md
    ·exact(hh.old a ha).2.1 (.inl e)
    ·exact(hh.old a (hh.sub a ha)).2.1 (.inl e)
   ·intro y _ hc
    cases md
    ·exact(hh.old a ha).2.2 y a hc rfl
    ·exact(hh.old a (hh.sub a ha)).2.2 y a hc rfl
  ·exact hq h'' t'' hh'' ⟨fun a o ha hn ho=>kx'.keep a o ha (fun y hy=>hn y (List.mem_append_right _ hy)) (kx.keep a o ha (fun y hy=>hn y (List.mem_append_left _ hy)) ho),fun a ha=>kx'.live a (kx.live a ha)⟩ fun y u hy hu=>vk' y u (fun h=>hy (List.mem_append_right _ h)) (vk y u (fun h=>hy (List.mem_append_left _ h)) hu)
theorem Asg.tuple{ts:List Expr}{k:Nat}{p:Pos}{md:Bool}{xs:List PV}{ns:List Str}{Γ':Gam}(h:AsgL C env Γ ts md xs ns Γ')(hlen:∀env,(assignEach ts env).length=xs.length)(hns:∀env,List.findIdx? (fun x=>x.fst) (assignEach ts env)=none)(hN:C.hd=false:=by assumption):
  Asg C env Γ (.Tuple ts k p) md (.tuple xs) ns Γ':=fun A S U s v Q E hr hh rd hq=>by
 obtain⟨a,vs,n,rfl,ha,hoa,ra⟩:=rd.tuple_inv
 refine wpAny_assign_Tuple (hr.1 hN) (IsTuple.of_tob hoa) (by simp[hlen,ra.length]) (hns env) fun h' hx=>?_
 have kk:∀b o,s.heap.get? b=some o->h'.get? b=some o:=fun b o e=>hx b o (Nat.ne_of_lt (Heap.lt_size e)) e
 have e:Ext A env s.heap h':=.of_keeps kk
 refine h A S U {s with heap:=h'} vs Q E hr (hh.ext e) (ra.mono (fun ω z=>z) fun b o ω ho=>kk b o ho) fun h'' t'' hh'' kx vk=>?_
 exact hq h'' t'' hh'' ⟨fun b o hb hn ho=>kx.keep b o hb hn (kk b o ho),fun b hb=>kx.live b (by obtain⟨o,ho⟩:=Option.isSome_iff_exists.mp hb;rw[kk b o ho];rfl)⟩ fun y u hy hu=>vk y u hy (hu.ext hh.eok hh.fra e)
noncomputable def EvT(C:Cx)(env:Env)(Γ:Gam)(fs:List Expr)(b:Bool):Prop:=
 ∀ (A:Around) (S U:Addr->Prop) (s:Shared) (Q:Bool->Shared->Prop) (E:Value->Shared->Prop),Room C A->Here C A S U env Γ s.heap->
  (∀h' t',Ext A env s.heap h'->Q b {s with heap:=h',toks:=t'})->
  wpAny (model C.prog C.w) A (forIn fs true fun c r=>if r=true then do let ok ←isTrue c env (eval c env);pure (ForInStep.yield ok)else pure (ForInStep.yield r)) Q E s
theorem EvT.nil:EvT C env Γ [] true:=fun A S U s Q E hr hh hq=>wpAny_tests_nil (hq s.heap s.toks (.refl _ _ _))
theorem EvT.one{c:Expr}{b:Bool}(h:EvB C env Γ c b):EvT C env Γ [c] b:=fun A S U s Q E hr hh hq=>wpAny_tests_one (h A S U s Q E hr hh hq)
end
mutual
inductive OwnT(C:Cx)(S:Addr->Prop)(h:Heap):Nat->Value->PV->List Addr->Prop
 |val {v x}:Rd C.prog C.w S h v x->OwnT C S h 0 v x []
 |list {k a vs n xs fps}:h.get? a=some (lob vs n)->OwnTs C S h k vs xs fps->OwnT C S h (k+1) (.ref a) (.list xs) (a::fps)
 |dict {k a vs fps} {kvs:List (Key×PV)}:mainGlobals<a->h.DictOf (mixKind C.prog C.w) a ((kvs.map (·.1)).zip vs)->OwnTs C S h k vs (kvs.map (·.2)) fps->OwnT C S h (k+1) (.ref a) (.dict kvs) (a::fps)
 |srt {k a} {St:SState}:SorterAt C.prog C.w h a St->OwnT C S h (k+1) (.ref a) (.srt St) (St.fp a)
 |set {k a} {ks:List Key}:h.SetOf (mixKind C.prog C.w) a (fun k=>decide (k∈ks)) ks.length->ks.Nodup->OwnT C S h (k+1) (.ref a) (.set ks) [a]
 |nxt {k b it p}:h.get? b=some (nextObj it)->(h.get? it).isSome=true->(∀l i,p=some (l,i)->h.IsListIter it l i)->OwnT C S h (k+1) (.ref b) (.nxt p) [b,it]
 |sorter {k a} {St:SState} {x}:SorterAt C.prog C.w h a St->St.abs=x->OwnT C S h (k+1) (.ref a) (.sorter x) (St.fp a)
inductive OwnTs(C:Cx)(S:Addr->Prop)(h:Heap):Nat->List Value->List PV->List Addr->Prop
 |nil {k}:OwnTs C S h k [] [] []
 |cons {k v vs x xs f fs}:OwnT C S h k v x f->OwnTs C S h k vs xs fs->OwnTs C S h k (v::vs) (x::xs) (f++fs)
end
section
variable{C:Cx}
theorem OwnT.gen(b:Bool){S S':Addr->Prop}{h h':Heap}(hS:∀a,S a->(h.get? a).isSome=true->S' a)(hk:∀a o,S a->h.get? a=some o->h'.get? a=some o):
  (∀k v x fp,OwnT C S h k v x fp->(∀a∈fp,∀o,h.get? a=some o->h'.get? a=some o)->OwnT {C with hd:=b} S' h' k v x fp)∧∀k v x fp,OwnTs C S h k v x fp->(∀a∈fp,∀o,h.get? a=some o->h'.get? a=some o)->OwnTs {C with hd:=b} S' h' k v x fp:=
 ⟨fun ω ω ω ω r=>OwnT.rec (C:=C) (motive_1:=fun k v x fp ω=>(∀a∈fp,∀o,h.get? a=some o->h'.get? a=some o)->OwnT {C with hd:=b} S' h' k v x fp) (motive_2:=fun k v x fp ω=>(∀a∈fp,∀o,h.get? a=some o->h'.get? a=some o)->OwnTs {C with hd:=b} S' h' k v x fp) (fun r ω=>.val ((Rd.gen hS hk).1 _ _ r)) (fun ho ω ih hf=>.list (hf _ List.mem_cons_self _ ho) (ih fun a ha=>hf a (List.mem_cons_of_mem _ ha)))
  (fun hl hd ω ih hf=>.dict hl (DictOf.at hd fun o e=>hf _ List.mem_cons_self o e) (ih fun a ha=>hf a (List.mem_cons_of_mem _ ha))) (fun hs hf=>.srt (hs.mono hf)) (fun hs hn hf=>.set (SetOf.at hs fun o e=>hf _ List.mem_cons_self o e) hn)
  (fun h1 h2 h3 hf=>.nxt (hf _ List.mem_cons_self _ h1) (some_keep h2 fun o e=>hf _ (List.mem_cons_of_mem _ List.mem_cons_self) o e) fun l i e=>(h3 l i e).at fun o e=>hf _ (List.mem_cons_of_mem _ List.mem_cons_self) o e) (fun hs e hf=>.sorter (hs.mono hf) e)
  (fun ω=>.nil) (fun ω ω a b hf=>.cons (a fun q hq=>hf q (List.mem_append_left _ hq)) (b fun q hq=>hf q (List.mem_append_right _ hq))) r,
  fun ω ω ω ω r=>OwnTs.rec (C:=C) (motive_1:=fun k v x fp ω=>(∀a∈fp,∀o,h.get? a=some o->h'.get? a=some o)->OwnT {C with hd:=b} S' h' k v x fp) (motive_2:=fun k v x fp ω=>(∀a∈fp,∀o,h.get? a=some o->h'.get? a=some o)->OwnTs {C with hd:=b} S' h' k v x fp) (fun r ω=>.val ((Rd.gen hS hk).1 _ _ r)) (fun ho ω ih hf=>.list (hf _ List.mem_cons_self _ ho) (ih fun a ha=>hf a (List.mem_cons_of_mem _ ha)))
  (fun hl hd ω ih hf=>.dict hl (DictOf.at hd fun o e=>hf _ List.mem_cons_self o e) (ih fun a ha=>hf a (List.mem_cons_of_mem _ ha))) (fun hs hf=>.srt (hs.mono hf)) (fun hs hn hf=>.set (SetOf.at hs fun o e=>hf _ List.mem_cons_self o e) hn)
  (fun h1 h2 h3 hf=>.nxt (hf _ List.mem_cons_self _ h1) (some_keep h2 fun o e=>hf _ (List.mem_cons_of_mem _ List.mem_cons_self) o e) fun l i e=>(h3 l i e).at fun o e=>hf _ (List.mem_cons_of_mem _ List.mem_cons_self) o e) (fun hs e hf=>.sorter (hs.mono hf) e)
  (fun ω=>.nil) (fun ω ω a b hf=>.cons (a fun q hq=>hf q (List.mem_append_left _ hq)) (b fun q hq=>hf q (List.mem_append_right _ hq))) r⟩
theorem OwnT.mono{S S':Addr->Prop}{h h':Heap}{k:Nat}{v:Value}{x:PV}{fp:List Addr}(hS:∀a,S a->S' a)(hk:∀a o,S a->h.get? a=some o->h'.get? a=some o)(hf:∀a∈fp,∀o,h.get? a=some o->h'.get? a=some o)
  (r:OwnT C S h k v x fp):OwnT C S' h' k v x fp:=(OwnT.gen C.hd (fun a x ω=>hS a x) hk).1 k v x fp r hf
theorem OwnTs.mono{S S':Addr->Prop}{h h':Heap}{k:Nat}{v:List Value}{x:List PV}{fp:List Addr}(hS:∀a,S a->S' a)(hk:∀a o,S a->h.get? a=some o->h'.get? a=some o)(hf:∀a∈fp,∀o,h.get? a=some o->h'.get? a=some o)
  (r:OwnTs C S h k v x fp):OwnTs C S' h' k v x fp:=(OwnT.gen C.hd (fun a x ω=>hS a x) hk).2 k v x fp r hf
theorem OwnT.rdG{S U:Addr->Prop}{h:Heap}(hS:∀a,S a->U a):(∀k v x fp,OwnT C S h k v x fp->(∀a∈fp,U a)->Rd C.prog C.w U h v x)∧∀k v x fp,OwnTs C S h k v x fp->(∀a∈fp,U a)->RdAll C.prog C.w U h v x:=
 ⟨fun ω ω ω ω r=>OwnT.rec (motive_1:=fun ω v x fp ω=>(∀a∈fp,U a)->Rd C.prog C.w U h v x) (motive_2:=fun ω v x fp ω=>(∀a∈fp,U a)->RdAll C.prog C.w U h v x) (fun r ω=>r.mono hS fun ω ω ω e=>e) (fun ho ω ih hf=>.list (hf _ List.mem_cons_self) ho (ih fun a ha=>hf a (List.mem_cons_of_mem _ ha)))
  (fun hl hd ω ih hf=>.dict (hf _ List.mem_cons_self) hl hd (ih fun a ha=>hf a (List.mem_cons_of_mem _ ha))) (fun hs hf=>.srt hf hs) (fun hs hn hf=>.set (hf _ List.mem_cons_self) hs hn)
  (fun h1 h2 h3 hf=>.nxt (hf _ List.mem_cons_self) (hf _ (List.mem_cons_of_mem _ List.mem_cons_self)) h1 h2 h3) (fun hs e hf=>.sorter hf hs e)
  (fun ω=>.nil) (fun ω ω a b hf=>.cons (a fun q hq=>hf q (List.mem_append_left _ hq)) (b fun q hq=>hf q (List.mem_append_right _ hq))) r,
  fun ω ω ω ω r=>OwnTs.rec (motive_1:=fun ω v x fp ω=>(∀a∈fp,U a)->Rd C.prog C.w U h v x) (motive_2:=fun ω v x fp ω=>(∀a∈fp,U a)->RdAll C.prog C.w U h v x) (fun r ω=>r.mono hS fun ω ω ω e=>e) (fun ho ω ih hf=>.list (hf _ List.mem_cons_self) ho (ih fun a ha=>hf a (List.mem_cons_of_mem _ ha)))
  (fun hl hd ω ih hf=>.dict (hf _ List.mem_cons_self) hl hd (ih fun a ha=>hf a (List.mem_cons_of_mem _ ha))) (fun hs hf=>.srt hf hs) (fun hs hn hf=>.set (hf _ List.mem_cons_self) hs hn)
  (fun h1 h2 h3 hf=>.nxt (hf _ List.mem_cons_self) (hf _ (List.mem_cons_of_mem _ List.mem_cons_self)) h1 h2 h3) (fun hs e hf=>.sorter hf hs e)
  (fun ω=>.nil) (fun ω ω a b hf=>.cons (a fun q hq=>hf q (List.mem_append_left _ hq)) (b fun q hq=>hf q (List.mem_append_right _ hq))) r⟩
theorem OwnT.rd{S U:Addr->Prop}{h:Heap}{k:Nat}{v:Value}{x:PV}{fp:List Addr}(hS:∀a,S a->U a)(hf:∀a∈fp,U a)(r:OwnT C S h k v x fp):Rd C.prog C.w U h v x:=(OwnT.rdG hS).1 k v x fp r hf
theorem OwnT.thereG{S:Addr->Prop}{h:Heap}:(∀k v x fp,OwnT C S h k v x fp->∀a∈fp,(h.get? a).isSome=true)∧∀k v x fp,OwnTs C S h k v x fp->∀a∈fp,(h.get? a).isSome=true:=
 ⟨fun ω ω ω ω r=>OwnT.rec (motive_1:=fun ω ω ω fp ω=>∀a∈fp,(h.get? a).isSome=true) (motive_2:=fun ω ω ω fp ω=>∀a∈fp,(h.get? a).isSome=true) (fun ω ω h=>nomatch h) (fun ho ω ih=>List.forall_mem_cons.mpr ⟨so ho,ih⟩) (fun ω hd ω ih=>List.forall_mem_cons.mpr ⟨DictOf.so hd,ih⟩) (fun hs=>hs.there) (fun hs ω=>List.forall_mem_cons.mpr ⟨SetOf.so hs,fun ω h=>nomatch h⟩)
  (fun h1 h2 ω=>List.forall_mem_cons.mpr ⟨so h1,List.forall_mem_cons.mpr ⟨h2,fun ω h=>nomatch h⟩⟩) (fun hs ω=>hs.there)
  (fun ω h=>nomatch h) (fun ω ω a b q hq=>(List.mem_append.mp hq).elim (a q) (b q)) r,
  fun ω ω ω ω r=>OwnTs.rec (motive_1:=fun ω ω ω fp ω=>∀a∈fp,(h.get? a).isSome=true) (motive_2:=fun ω ω ω fp ω=>∀a∈fp,(h.get? a).isSome=true) (fun ω ω h=>nomatch h) (fun ho ω ih=>List.forall_mem_cons.mpr ⟨so ho,ih⟩) (fun ω hd ω ih=>List.forall_mem_cons.mpr ⟨DictOf.so hd,ih⟩) (fun hs=>hs.there) (fun hs ω=>List.forall_mem_cons.mpr ⟨SetOf.so hs,fun ω h=>nomatch h⟩)
  (fun h1 h2 ω=>List.forall_mem_cons.mpr ⟨so h1,List.forall_mem_cons.mpr ⟨h2,fun ω h=>nomatch h⟩⟩) (fun hs ω=>hs.there)
  (fun ω h=>nomatch h) (fun ω ω a b q hq=>(List.mem_append.mp hq).elim (a q) (b q)) r⟩
theorem OwnT.there{S:Addr->Prop}{h:Heap}{k:Nat}{v:Value}{x:PV}{fp:List Addr}(r:OwnT C S h k v x fp):∀a∈fp,(h.get? a).isSome=true:=OwnT.thereG.1 k v x fp r
theorem OwnTs.there{S:Addr->Prop}{h:Heap}{k:Nat}{v:List Value}{x:List PV}{fp:List Addr}(r:OwnTs C S h k v x fp):∀a∈fp,(h.get? a).isSome=true:=OwnT.thereG.2 k v x fp r
theorem OwnT.strong{S:Addr->Prop}{h:Heap}{k:Nat}{v:Value}{x:PV}{fp:List Addr}(r:OwnT C S h k v x fp):OwnT C (fun a=>S a∧(h.get? a).isSome=true) h k v x fp:=
 (OwnT.gen C.hd (fun ω x y=>⟨x,y⟩) fun ω ω ω e=>e).1 k v x fp r fun ω ω ω e=>e
theorem OwnTs.strong{S:Addr->Prop}{h:Heap}{k:Nat}{v:List Value}{x:List PV}{fp:List Addr}(r:OwnTs C S h k v x fp):OwnTs C (fun a=>S a∧(h.get? a).isSome=true) h k v x fp:=
 (OwnT.gen C.hd (fun ω x y=>⟨x,y⟩) fun ω ω ω e=>e).2 k v x fp r fun ω ω ω e=>e
theorem OwnTs.ind{S:Addr->Prop}{h:Heap}{k:Nat}{P:List Value->List PV->List Addr->Prop}(n:P [] [] [])(c:∀v vs x xs f fs,OwnT C S h k v x f->OwnTs C S h k vs xs fs->P vs xs fs->P (v::vs) (x::xs) (f++fs)){vs:List Value}{xs:List PV}{fp:List Addr}(r:OwnTs C S h k vs xs fp):P vs xs fp:=
 OwnTs.rec (motive_1:=fun ω ω ω ω ω=>True) (motive_2:=fun k' vs xs fp ω=>k'=k->P vs xs fp) (fun ω=>trivial) (fun ω ω ω=>trivial) (fun ω ω ω ω=>trivial) (fun ω=>trivial) (fun ω ω=>trivial) (fun ω ω ω=>trivial) (fun ω ω=>trivial)
  (fun ω=>n) (fun a b ω i e=>by subst e;exact c _ _ _ _ _ _ a b (i rfl)) r rfl
theorem OwnT.zero{S:Addr->Prop}{h:Heap}{v:Value}{x:PV}{f:List Addr}(r:OwnT C S h 0 v x f):Rd C.prog C.w S h v x∧f=[]:=by
 cases r with
 |val r=>exact⟨r,rfl⟩
theorem OwnTs.of_rd{S:Addr->Prop}{h:Heap}{vs:List Value}{xs:List PV}(r:RdAll C.prog C.w S h vs xs):OwnTs C S h 0 vs xs []:=
 RdAll.ind (P:=fun vs xs=>OwnTs C S h 0 vs xs []) .nil (fun ω ω ω ω a ω ih=>.cons (.val a) ih) r
theorem OwnTs.to_rd{S:Addr->Prop}{h:Heap}{vs:List Value}{xs:List PV}{fp:List Addr}(r:OwnTs C S h 0 vs xs fp):RdAll C.prog C.w S h vs xs∧fp=[]:=
 OwnTs.ind (P:=fun vs xs fp=>RdAll C.prog C.w S h vs xs∧fp=[]) ⟨.nil,rfl⟩ (fun ω ω ω ω ω ω a ω ih=>⟨.cons a.zero.1 ih.1,by rw[a.zero.2,ih.2];rfl⟩) r
noncomputable def OwnTV(C:Cx)(S:Addr->Prop)(h:Heap)(n:Nat)(v:Value)(f:List Addr)(x:PV):Prop:=match x with
 | .list xs=>∃a vs m fps,v= .ref a∧f=a::fps∧h.get? a=some (lob vs m)∧OwnTs C S h n vs xs fps
 | .dict kvs=>∃a vs fps,v= .ref a∧f=a::fps∧mainGlobals<a∧h.DictOf (mixKind C.prog C.w) a ((kvs.map (·.1)).zip vs)∧OwnTs C S h n vs (kvs.map (·.2)) fps
 | .srt St=>∃a,v= .ref a∧f=St.fp a∧SorterAt C.prog C.w h a St
 | .sorter x=>∃a St,v= .ref a∧f=SState.fp St a∧SorterAt C.prog C.w h a St∧St.abs=x
 | .set ks=>∃a,v= .ref a∧f=[a]∧h.SetOf (mixKind C.prog C.w) a (fun k=>decide (k∈ks)) ks.length∧ks.Nodup
 | .nxt p=>∃b it,v= .ref b∧f=[b,it]∧h.get? b=some (nextObj it)∧(h.get? it).isSome=true∧∀l i,p=some (l,i)->h.IsListIter it l i
 |_=>True
theorem OwnT.view{S:Addr->Prop}{h:Heap}{n:Nat}{v:Value}{f:List Addr}{x:PV}(r:OwnT C S h (n+1) v x f):OwnTV C S h n v f x:=by
 generalize hk:n+1=k at r
 cases r with
 |val=>cases hk
 |list a b=>cases hk;exact⟨_,_,_,_,rfl,rfl,a,b⟩
 |dict a b c=>cases hk;exact⟨_,_,_,rfl,rfl,a,b,c⟩
 |srt a=>exact⟨_,rfl,rfl,a⟩
 |set a b=>exact⟨_,rfl,rfl,a,b⟩
 |nxt a b c=>exact⟨_,_,rfl,rfl,a,b,c⟩
 |sorter a b=>exact⟨_,_,rfl,rfl,a,b⟩
theorem OwnTs.nil_of{S:Addr->Prop}{h:Heap}{k:Nat}{vs:List Value}{xs:List PV}{fp:List Addr}(e:k=0)(r:OwnTs C S h k vs xs fp):fp=[]:=by
 subst e
 exact r.to_rd.2
theorem OwnTs.length{S:Addr->Prop}{h:Heap}{k:Nat}{vs:List Value}{xs:List PV}{fp:List Addr}(r:OwnTs C S h k vs xs fp):vs.length=xs.length:=
 OwnTs.ind (P:=fun vs xs ω=>vs.length=xs.length) rfl (fun ω ω ω ω ω ω ω ω ih=>congrArg Nat.succ ih) r
theorem OwnTs.at{S:Addr->Prop}{h:Heap}{k:Nat}{vs:List Value}{xs:List PV}{fp:List Addr}{i:Nat}{x:PV}(r:OwnTs C S h k vs xs fp):fp.Nodup->xs[i]?=some x->
  ∃v f,vs[i]?=some v∧OwnT C S h k v x f∧f.Nodup∧(∀a∈f,a∈fp)∧
   ∀ (S':Addr->Prop) h' y,(∀a,S a->S' a)->(∀a o,S a->h.get? a=some o->h'.get? a=some o)->(∀a∈fp,a∉f->∀o,h.get? a=some o->h'.get? a=some o)->OwnT C S' h' k v y f->OwnTs C S' h' k vs (xs.set i y) fp:=
 OwnTs.ind (P:=fun vs xs fp=>∀i:Nat,fp.Nodup->xs[i]?=some x->∃v f,vs[i]?=some v∧OwnT C S h k v x f∧f.Nodup∧(∀a∈f,a∈fp)∧
   ∀ (S':Addr->Prop) h' y,(∀a,S a->S' a)->(∀a o,S a->h.get? a=some o->h'.get? a=some o)->(∀a∈fp,a∉f->∀o,h.get? a=some o->h'.get? a=some o)->OwnT C S' h' k v y f->OwnTs C S' h' k vs (xs.set i y) fp)
  (fun ω ω e=>by cases e) (fun v ω ω ω f ω a b ih i hnd=>Nat.casesOn i
   (fun e=>⟨v,f,rfl,Option.some.inj e▸a,(List.nodup_append.mp hnd).1,fun q hq=>List.mem_append_left _ hq,fun S' h' y hSS hS hf r=>.cons r (b.mono hSS hS fun q hq o ho=>hf q (List.mem_append_right _ hq) (fun hqf=>(List.nodup_append.mp hnd).2.2 q hqf q hq rfl) o ho)⟩)
   fun i e=>(ih i (List.nodup_append.mp hnd).2.1 e).imp fun v h=>h.imp fun g h=>
    ⟨h.1,h.2.1,h.2.2.1,fun q hq=>List.mem_append_right _ (h.2.2.2.1 q hq),fun S' h' y hSS hS hf r=>.cons (a.mono hSS hS fun q hq o ho=>hf q (List.mem_append_left _ hq) (fun hqg=>(List.nodup_append.mp hnd).2.2 q hq q (h.2.2.2.1 q hqg) rfl) o ho)
     (h.2.2.2.2 S' h' y hSS hS (fun q hq hqg o ho=>hf q (List.mem_append_right _ hq) hqg o ho) r)⟩) r i
end
section
variable{C:Cx}{A:Around}{env:Env}{Γ:Gam}
noncomputable def EvE(C:Cx)(env:Env)(Γ:Gam)(e:Expr)(k:Nat)(x:PV):Prop:=
 ∀ (A:Around) (S U:Addr->Prop) (s:Shared) (Q:Value->Shared->Prop) (E:Value->Shared->Prop),Room C A->Here C A S U env Γ s.heap->
  (∀v h' t' f,Ext A env s.heap h'->OwnT C (fun a=>k=0∧Reg true S U s.heap a) h' k v x f->f.Nodup->(∀a∈f,s.heap.get? a=none∧mainGlobals<a)->Q v {s with heap:=h',toks:=t'})->
  wpAny (model C.prog C.w) A (eval e env) Q E s
theorem EvE.of_ev{e:Expr}{x:PV}(h:Ev C env Γ e true x):EvE C env Γ e 0 x:=fun A S U s Q E hr hh hq=>
 h A S U s Q E hr hh fun v h' t' ex rd=>hq v h' t' [] ex (.val (rd.mono (fun a ha=>⟨rfl,ha⟩) fun ω ω ω z=>z)) List.nodup_nil (fun ω h=>nomatch h)
theorem EvE.of_new{e:Expr}{md:Bool}{xs:List PV}(h:EvN C env Γ e md xs)(hi:∀x∈xs,x.imm=true):EvE C env Γ e 1 (.list xs):=fun A S U s Q E hr hh hq=>
 h A S U s Q E hr hh fun a vs n h' t' ex hn hl ho ra=>hq (.ref a) h' t' [a] ex (.list ho (OwnTs.of_rd (ra.imm hi))) (by simp) (fun b hb=>by
  rcases List.mem_singleton.mp hb with rfl
  exact⟨hn,hl⟩)
noncomputable def EvK(C:Cx)(env:Env)(Γ:Gam)(e:Expr)(k:Nat)(x:PV):Prop:=
 ∀ (A:Around) (S U:Addr->Prop) (s:Shared) (Q:Value->Shared->Prop) (E:Value->Shared->Prop),Room C A->Here C A S U env Γ s.heap->
  (∀v h' t' f,Ext A env s.heap h'->OwnT C (fun a=>Reg true S U s.heap a∧a∉f) h' k v x f->f.Nodup->(∀a∈f,s.heap.get? a=none∧mainGlobals<a)->Q v {s with heap:=h',toks:=t'})->
  wpAny (model C.prog C.w) A (eval e env) Q E s
theorem EvN.k1{e:Expr}{xs:List PV}(h:EvN C env Γ e true xs):EvK C env Γ e 1 (.list xs):=fun A S U s Q E hr hh hq=>
 h A S U s Q E hr hh fun a vs n h' t' ex hn hl ho ra=>hq (.ref a) h' t' [a] ex (.list ho (OwnTs.of_rd (ra.mono (fun b hb=>⟨hb.1,by simpa using hb.2⟩) fun ω ω ω z=>z))) (by simp) (fun b hb=>by
  rcases List.mem_singleton.mp hb with rfl
  exact⟨hn,hl⟩)
theorem EvN.k1i{e:Expr}{md:Bool}{xs:List PV}(h:EvN C env Γ e md xs)(hi:∀x∈xs,x.imm=true):EvK C env Γ e 1 (.list xs):=fun A S U s Q E hr hh hq=>
 h A S U s Q E hr hh fun a vs n h' t' ex hn hl ho ra=>hq (.ref a) h' t' [a] ex (.list ho (OwnTs.of_rd (ra.imm hi))) (by simp) (fun b hb=>by
  rcases List.mem_singleton.mp hb with rfl
  exact⟨hn,hl⟩)
end
noncomputable def Gle(Γ Γ':Gam):Prop:=∀y e,Γ.lookup y=some (some e)->Γ'.lookup y=some (some e)
theorem Gle.cons{Γ:Gam}{x:Str}{e:Option (Nat×PV)}(h:Γ.lookup x=some none∨Γ.lookup x=none):Gle Γ ((x,e)::Γ):=fun y e' hy=>by
 rw[List.lookup_cons]
 cases hb:y==x with
 |true=>
  have:y=x:=beq_iff_eq.mp hb
  subst this
  rcases h with h|h<;>rw[h]at hy<;>cases hy
 |false=>exact hy
section
variable{C:Cx}{A:Around}{env:Env}{Γ Γ':Gam}{S U:Addr->Prop}{h h':Heap}
theorem Here.move(hh:Here C A S U env Γ h)(B:Addr->Prop)(ek:EnvOk C h' env)(vk:∀y e u,Γ.lookup y=some (some e)->VarAt h env y u->VarAt h' env y u)
  (hk:∀a o,¬B a->h.get? a=some o->h'.get? a=some o) (hU:∀a,U a->¬B a) (hB:∀a,B a->mainGlobals<a∧∀o,C.K.lookup a≠some o) (sk:Sk A env h h'):Here C A S U env Γ h':=by
 have kNs:∀ {a:Addr} {m},a≤mainGlobals->h.Ns a m->h'.Ns a m:=fun{a m} ha hn=>by
  obtain⟨o,es,ep,ho,r⟩:=hn
  exact⟨o,es,ep,hk a o (fun hb=>absurd ha (Nat.not_le.mpr (hB a hb).1)) ho,r⟩
 refine{cx:=hh.cx,base:=⟨fun a o e=>hk a o (fun hb=>(hB a hb).2 o e) (hh.base.kin a o e),?_,?_,?_⟩,eok:=ek,fra:=hh.fra.sk ek.ns sk,sub:=hh.sub,old:=fun a ha=>?_,has:=fun y md pv hl hv=>?_}
 ·obtain⟨mc,h1,h2⟩:=hh.base.nolimit
  exact⟨mc,kNs (by decide) h1,h2⟩
 ·obtain⟨mb,h1,h2⟩:=hh.base.bns
  exact⟨mb,kNs (by decide) h1,h2⟩
 ·obtain⟨mc,h1,h2⟩:=hh.base.nodigits
  exact⟨mc,kNs (by decide) h1,h2⟩
 ·obtain⟨h1,h2,h3⟩:=hh.old a ha
  obtain⟨o,ho⟩:=Option.isSome_iff_exists.mp h1
  exact⟨by rw[hk a o (hU a ha) ho];rfl,h2,h3⟩
 ·obtain⟨u,h1,h2,h3⟩:=hh.has y md pv hl hv
  refine⟨u,vk y _ u hl h1,h2.mono (fun ω z=>z) fun a o ha ho=>hk a o ?_ ho,fun hn=>(h3 hn).mono (fun ω z=>z) (fun ω z=>z) hh.sub fun a o ha=>hk a o (hU a ha)⟩
  by_cases hn:(md==0)=true
  ·rw[if_pos hn]at ha;exact hU a (hh.sub a ha)
  ·rw[if_neg hn]at ha;exact hU a ha
theorem EnvOk.move(ek:EnvOk C h env)(B:Addr->Prop)(hk:∀a o,¬B a->h.get? a=some o->h'.get? a=some o)(hL: ¬B env.locals)(hc:∀x c,env.cells.lookup x=some c->¬B c):EnvOk C h' env:=
 {kind:=ek.kind,glob:=ek.glob,bltn:=ek.bltn,apart:=ek.apart,notL:=ek.notL,below:=ek.below,high:=ek.high,chigh:=ek.chigh
  ns:=let⟨m,o,es,ep,ho,r⟩:=ek.ns;⟨m,o,es,ep,hk _ o hL ho,r⟩
  cell:=fun x hx=>let⟨c,v,h1,o,h2,h3⟩:=ek.cell x hx;⟨c,v,h1,o,hk c o (hc x c h1) h2,h3⟩
  call:=fun x c hx=>let⟨v,o,h2,h3⟩:=ek.call x c hx;⟨v,o,hk c o (hc x c hx) h2,h3⟩}
theorem VarAt.move{x:Str}{u:Value}(a:VarAt h env x u)(B:Addr->Prop)(hk:∀a o,¬B a->h.get? a=some o->h'.get? a=some o)(hL: ¬B env.locals)(hc:∀x c,env.cells.lookup x=some c->¬B c):VarAt h' env x u:=by
 rcases a with⟨h1,m,⟨o,es,ep,ho,r⟩,h3⟩|⟨h1,h0,c,h2,o,h3,h4⟩
 ·exact .inl ⟨h1,m,⟨o,es,ep,hk _ o hL ho,r⟩,h3⟩
 ·exact .inr ⟨h1,h0,c,h2,o,hk c o (hc x c h2) h3,h4⟩
end
noncomputable def Cl(C:Cx)(env:Env)(own:Str->Prop)(elt:Expr)(dp:Nat):List Comprehension->Gam->List PV->Prop
 |[],Γ,out=>∃x,out=[x]∧EvE C env Γ elt dp x
 |c::cs,Γ,out=>∃ (md:Bool) (xs:List PV) (f:Nat->List PV),EvI C env Γ c.iter md xs∧
   (∀i x,xs[i]?=some x->∃ns Γ' b,Asg C env Γ c.target md x ns Γ'∧Gle Γ Γ'∧(∀y∈ns,own y∧∀e,Γ.lookup y≠some (some e))∧EvT C env Γ' c.ifs b∧(b=true->Cl C env own elt dp cs Γ' (f i))∧(b=false->f i=[]))∧
   out=(List.range xs.length).flatMap f
noncomputable def Tn(C:Cx)(env:Env)(own:Str->Prop)(elt:Expr)(dp:Nat)(c:Comprehension)(cs:List Comprehension)(Γ:Gam)(md:Bool)(xs:List PV)(f:Nat->List PV):Prop:=
 ∀i x,xs[i]?=some x->∃ns Γ' b,Asg C env Γ c.target md x ns Γ'∧Gle Γ Γ'∧(∀y∈ns,own y∧∀e,Γ.lookup y≠some (some e))∧EvT C env Γ' c.ifs b∧(b=true->Cl C env own elt dp cs Γ' (f i))∧(b=false->f i=[])
theorem flatMap_range_le{α:Type}(f:Nat->List α){i n:Nat}(h:i≤n):((List.range i).flatMap f).length≤((List.range n).flatMap f).length:=by
 obtain⟨k,rfl⟩:=Nat.exists_eq_add_of_le h
 rw[List.range_add,List.flatMap_append,List.length_append]
 exact Nat.le_add_right _ _
noncomputable def Chg(A:Around)(env:Env)(own:Str->Prop)(I D a:Addr):Prop:=a=D∨a=I∨Fz A env a∨∃y,own y∧env.cells.lookup y=some a
noncomputable def Els(C:Cx)(dp:Nat)(G F0 Bad:Addr->Prop)(h:Heap)(ys:List Value)(outs:List PV):Prop:=
 ∃fps,OwnTs C (fun a=>dp=0∧G a∧¬Bad a) h dp ys outs fps∧fps.Nodup∧∀a∈fps,F0 a∧mainGlobals<a∧¬Bad a
theorem Els.mono{C:Cx}{dp:Nat}{G F0 Bad:Addr->Prop}{h h':Heap}{ys:List Value}{outs:List PV}(x:Els C dp G F0 Bad h ys outs)(hk:∀a o,¬Bad a->h.get? a=some o->h'.get? a=some o):Els C dp G F0 Bad h' ys outs:=
 let⟨fps,h1,h2,h3⟩:=x
 ⟨fps,h1.mono (fun ω z=>z) (fun a o ha ho=>hk a o ha.2.2 ho) (fun a ha o ho=>hk a o (h3 a ha).2.2 ho),h2,h3⟩
theorem Els.length{C:Cx}{dp:Nat}{G F0 Bad:Addr->Prop}{h:Heap}{ys:List Value}{outs:List PV}(x:Els C dp G F0 Bad h ys outs):ys.length=outs.length:=let⟨_,h1,_⟩:=x;h1.length
theorem OwnTs.append{C:Cx}{S:Addr->Prop}{h:Heap}{k:Nat}{vs us:List Value}{xs ys:List PV}{f g:List Addr}(r:OwnTs C S h k vs xs f)(r':OwnTs C S h k us ys g):OwnTs C S h k (vs++us) (xs++ys) (f++g):=
 OwnTs.ind (P:=fun vs xs f=>OwnTs C S h k (vs++us) (xs++ys) (f++g)) r' (fun ω ω ω ω f ω a ω ih=>(List.append_assoc f _ _).symm▸ .cons a ih) r
theorem Els.snoc{C:Cx}{dp:Nat}{G F0 Bad:Addr->Prop}{h h₀:Heap}{ys:List Value}{outs:List PV}{v:Value}{x:PV}{f:List Addr}(e:Els C dp G F0 Bad h ys outs)(hth:∀a,(h₀.get? a).isSome=true∨h₀.get? a=none)
  (he0:Els C dp G F0 Bad h₀ ys outs) (r:OwnT C (fun a=>dp=0∧G a∧¬Bad a) h dp v x f) (hf:f.Nodup) (hn:∀a∈f,h₀.get? a=none∧F0 a∧mainGlobals<a∧¬Bad a) (hk:∀a o,¬Bad a->h₀.get? a=some o->h.get? a=some o):Els C dp G F0 Bad h (ys++[v]) (outs++[x]):=by
 obtain⟨fps,h1,h2,h3⟩:=he0
 refine⟨fps++(f++[]),OwnTs.append (h1.mono (fun ω z=>z) (fun a o ha ho=>hk a o ha.2.2 ho) (fun a ha o ho=>hk a o (h3 a ha).2.2 ho)) (.cons r .nil),?_,?_⟩
 ·rw[List.append_nil]
  refine List.nodup_append.mpr ⟨h2,hf,fun a ha b hb e=>?_⟩
  subst e
  have:=h1.there a ha
  rw[(hn a hb).1]at this;cases this
 ·intro a ha
  rw[List.append_nil]at ha
  rcases List.mem_append.mp ha with ha|ha
  ·exact h3 a ha
  ·exact(hn a ha).2
noncomputable def LoopOk(C:Cx)(elt:Expr)(dp:Nat)(gens:List Comprehension)(scope:Scope)(pos:Pos)(env:Env)(own:Str->Prop)(cs:List Comprehension)(d:Nat)(c:Comprehension):Prop:=
  ∀ {A:Around} {S U:Addr->Prop} {s:Shared} {Γ:Gam} {md:Bool} {xs:List PV} {f:Nat->List PV} {I D:Addr} {fp:List Addr} {P:Nat->Value->Prop} {St:Nat->Heap->Prop} {ys:List Value} {n:Nat} {outs:List PV} {R:Result->Shared->Prop}
   (Bad G F0:Addr->Prop),Room C A->Here C A S U env Γ s.heap->Walks C.prog C.w A I fp [I] xs.length P St->St 0 s.heap->
   (∀i v,P i v->∃x,xs[i]?=some x∧Rd C.prog C.w (fun a=>if md then S a else U a) s.heap v x)->
   (∀i h,St i h->∃o T,h.get? I=some o∧o.cls= .type T∧ownedIters.contains T=false)->
   Tn C env own elt dp c cs Γ md xs f->
   (Bad I∧Bad D∧Bad env.locals∧∀y,own y->∀k,env.cells.lookup y=some k->Bad k)->
   (∀a,onStack A a->Bad a)->(∀a,Bad a->(s.heap.get? a).isSome=true∧mainGlobals<a∧∀o,C.K.lookup a≠some o)->
   (∀a,U a->¬Bad a)->(∀a,S a->G a)->(∀a,s.heap.get? a=none->G a∧F0 a)->
   (∀b∈fp,b=I∨¬Bad b)->
   (I≠D∧¬Fz A env D∧¬Fz A env I∧∀y k,env.cells.lookup y=some k->k≠D∧k≠I)->
   s.heap.get? D=some (lob ys n)->Els C dp G F0 Bad s.heap ys outs->
   outs.length+((List.range xs.length).flatMap f).length≤2^24->
   (∀h' t' ys' n',(∀a o,¬Chg A env own I D a->s.heap.get? a=some o->h'.get? a=some o)->(∀a,Bad a->a≠I->(h'.get? a).isSome=true)->EnvOk C h' env->(∀y e u,Γ.lookup y=some (some e)->VarAt s.heap env y u->VarAt h' env y u)->
    h'.get? D=some (lob ys' n')->Els C dp G F0 Bad h' ys' (outs++(List.range xs.length).flatMap f)->Sk A env s.heap h'->R (.ok .next) {s with heap:=h',toks:=t'})->
   codeAny (model C.prog C.w) A (.compLoop (.ListComp elt gens scope pos) d (.ref I) (.ref D) env) R s
inductive LevelInv(C:Cx)(A:Around)(env:Env)(own:Str->Prop)(s:Shared)(Γ:Gam)(dp xl:Nat)(I D:Addr)(St:Nat->Heap->Prop)(Bad G F0:Addr->Prop)(outs:List PV)(f:Nat->List PV)(k:Nat)(s':Shared):Prop
 |mk (h':Heap) (t' i:Nat) (ys':List Value) (n':Nat):k=xl+1 - i->i≤xl->s'={s with heap:=h',toks:=t'}->St i h'->EnvOk C h' env->(∀y e u,Γ.lookup y=some (some e)->VarAt s.heap env y u->VarAt h' env y u)->
   (∀a o,¬Chg A env own I D a->s.heap.get? a=some o->h'.get? a=some o)->(∀a,Bad a->(h'.get? a).isSome=true)->h'.get? D=some (lob ys' n')->Els C dp G F0 Bad h' ys' (outs++(List.range i).flatMap f)->Sk A env s.heap h'->LevelInv C A env own s Γ dp xl I D St Bad G F0 outs f k s'
theorem none_of{α:Type}{o:Option α}(h:∀x,o≠some x):o=none:=by
 cases o with
 |none=>rfl
 |some x=>exact absurd rfl (h x)
theorem noS{α:Type}{o:Option α}(h:o.isSome=true)(e:o=none):False:=by rw[e]at h;cases h
theorem rgS{S U N M:Addr->Prop}{I:Addr}{md':Bool}{a:Addr}(h:(if md' then S a else U a)∨N a)(h1:M a)(h2:a≠I):(if md' then S a∨(N a∧M a∧a≠I)else U a∨(N a∧M a∧a≠I)):=by
 cases md'
 ·exact h.imp id fun h=>⟨h,h1,h2⟩
 ·exact h.imp id fun h=>⟨h,h1,h2⟩
theorem comp_level{C:Cx}{elt:Expr}{dp:Nat}{gens:List Comprehension}{scope:Scope}{pos:Pos}{env:Env}{own:Str->Prop}{cs:List Comprehension}{d:Nat}{c:Comprehension}
  (hasync:∀c∈gens,c.is_async=0∧∀x,foldedSetIterable c.iter env x=pure x) (hd:gens.drop d=c::cs)
  (rec:∀c' cs',cs=c'::cs'->LoopOk C elt dp gens scope pos env own cs' (d+1) c'):LoopOk C elt dp gens scope pos env own cs d c:=by
 intro A S U s Γ md xs f I D fp P St ys n outs R Bad G F0 hr hh W hst hP hqu hT hBad hBs hBx hUB hSG hfG hfp hap hD hys hsz hR
 have hdr:∀k,gens[d+k]?=(c::cs)[k]?:=fun k=>by rw[←hd,List.getElem?_drop]
 have hg:gens[d]?=some c:=hdr 0
 have hg1:gens[d+1]?=cs[0]?:=hdr 1
 have hcm:c∈gens:=List.mem_of_getElem? hg
 refine compLoop_core (I:=LevelInv C A env own s Γ dp xs.length I D St Bad G F0 outs f)
  hg (hasync c hcm).1 (fun g' hg'=>hasync g' (List.mem_of_getElem? hg')) (fun k s' hIn Qn Ef QT qD qV qF qN qC=>?_) (xs.length+1) ⟨s.heap,s.toks,0,ys,n,rfl,Nat.zero_le _,rfl,hst,hh.eok,fun ω ω ω ω e=>e,fun ω ω ω e=>e,fun a ha=>(hBx a ha).1,hD,by simpa using hys,Sk.refl _⟩
 obtain⟨H,tk,i,ys',n',hkk,hi,rfl,hst',ek',vk',hkc,hb',hD',hys',hsk⟩:=hIn
 have nSI:∀a,onStack A a->a≠I:=fun a ha e=>hap.2.2.1 (.inr (e▸ha))
 have nSD:∀a,onStack A a->a≠D:=fun a ha e=>hap.2.1 (.inr (e▸ha))
 have nc:∀a,¬Bad a->¬Chg A env own I D a:=fun a hb hc=>hb (hc.elim (fun e=>e▸hBad.2.1) fun h=>h.elim (fun e=>e▸hBad.1) fun h=>h.elim (fun h=>h.elim (fun e=>e▸hBad.2.2.1) (hBs a)) fun h=>h.elim fun y h=>hBad.2.2.2 y h.1 a h.2)
 have hk':∀a o,¬Bad a->s.heap.get? a=some o->H.get? a=some o:=fun a o hb ho=>hkc a o (nc a hb) ho
 have hBB:∀a,Bad a->mainGlobals<a∧∀o,C.K.lookup a≠some o:=fun a ha=>(hBx a ha).2
 have hH:Here C A S U env Γ H:=hh.move Bad ek' vk' hk' hUB hBB hsk
 have frG:∀ (h₂:Heap),(∀a o,¬Bad a->H.get? a=some o->h₂.get? a=some o)->(∀a,Bad a->(h₂.get? a).isSome=true)->∀a,h₂.get? a=none->(G a∧F0 a)∧¬Bad a:=fun h₂ k2 b2 a ha=>by
  have nb: ¬Bad a:=fun hb=>by have:=b2 a hb;rw[ha]at this;cases this
  refine⟨hfG a ?_,nb⟩
  cases hq:s.heap.get? a with
  |none=>rfl
  |some o=>rw[k2 a o nb (hk' a o nb hq)]at ha;cases ha
 have nIl:∀a,a≠I->a∉[I]:=fun a h hm=>h (List.mem_singleton.mp hm)
 have nbI:∀a,¬Bad a->a≠I:=fun a hb e=>hb (e▸hBad.1)
 have nD:∀a,¬Bad a->a≠D:=fun a hb e=>hb (e▸hBad.2.1)
 by_cases hlt:i<xs.length
 rotate_left
 ·have hin:i=xs.length:=Nat.le_antisymm hi (Nat.not_lt.mp hlt)
  refine W.done _ _ _ (hin▸hst') fun h₁ tk₁ hk₁=>qD _ ?_
  have k1:∀a o,a≠I->H.get? a=some o->h₁.get? a=some o:=fun a o ha ho=>hk₁ a o (nIl a ha) ho
  have ek1:EnvOk C h₁ env:=ek'.move (fun a=>a=I) k1 (fun e=>hap.2.2.1 (.inl e.symm)) fun x c hc e=>(hap.2.2.2 x c hc).2 e
  refine hR h₁ tk₁ ys' n' (fun a o hb ho=>k1 a o (fun e=>hb (.inr (.inl e))) (hkc a o hb ho)) (fun a ha hne=>?_) ek1 (fun y e u hy hu=>(vk' y e u hy hu).move (fun a=>a=I) k1 (fun e=>hap.2.2.1 (.inl e.symm)) fun x c hc e=>(hap.2.2.2 x c hc).2 e) (k1 D _ (Ne.symm hap.1) hD') (hin▸hys'.mono fun a o ha ho=>k1 a o (nbI a ha) ho) (hsk.trans (.of_keep fun a o hs ω ho=>k1 a o (nSI a hs) ho))
  obtain⟨o,ho⟩:=Option.isSome_iff_exists.mp (hb' a ha)
  rw[k1 a o hne ho];rfl
 refine W.item i _ _ _ hlt hst' fun v h₁ tk₁ hPv hst₁ hk₁=>qV v _ ?_
 have k1:∀a o,a≠I->H.get? a=some o->h₁.get? a=some o:=fun a o ha ho=>hk₁ a o (nIl a ha) ho
 have k1':∀a o,¬Bad a->H.get? a=some o->h₁.get? a=some o:=fun a o hb ho=>k1 a o (nbI a hb) ho
 obtain⟨oI,TI,hoI,hcI,hTI⟩:=hqu _ _ hst₁
 have b1:∀a,Bad a->(h₁.get? a).isSome=true:=fun a ha=>by
  by_cases hne:a=I
  ·exact hne▸so hoI
  ·exact some_keep (hb' a ha) fun o=>k1 a o hne
 have ek1:EnvOk C h₁ env:=ek'.move (fun a=>a=I) k1 (fun e=>hap.2.2.1 (.inl e.symm)) fun x c hc e=>(hap.2.2.2 x c hc).2 e
 have vk1:∀y e u,Γ.lookup y=some (some e)->VarAt H env y u->VarAt h₁ env y u:=fun y e u ω hu=>hu.move (fun a=>a=I) k1 (fun e=>hap.2.2.1 (.inl e.symm)) fun x c hc e=>(hap.2.2.2 x c hc).2 e
 have hh1:Here C A S U env Γ h₁:=hH.move Bad ek1 vk1 k1' hUB hBB (.of_keep fun a o hs ω ho=>k1 a o (nSI a hs) ho)
 refine letOwned_quiet (s:={s with heap:=h₁,toks:=tk₁}) hoI hcI hTI ?_
 obtain⟨x,hx,rx⟩:=hP i v hPv
 have nbM:∀a,(if md then S a else U a)->¬Bad a:=fun a ha=>hUB a (by cases md;exact ha;exact hh.sub a ha)
 have rx1:Rd C.prog C.w (fun a=>if md then S a else U a) h₁ v x:=rx.mono (fun ω z=>z) fun a o ha ho=>k1' a o (nbM a ha) (hk' a o (nbM a ha) ho)
 obtain⟨ns,Γ',b,hA,hgle,hns,hTst,hyes,hno⟩:=hT i x hx
 refine hA A S U _ v _ _ hr hh1 rx1 fun h₂ t₂ hh2 kx vk2=>?_
 have nbF:∀a,¬Bad a->¬Fz A env a∧∀y∈ns,env.cells.lookup y≠some a:=fun a hb=>⟨fun h=>hb (h.elim (fun e=>e▸hBad.2.2.1) (hBs a)),fun y hy hc=>hb (hBad.2.2.2 y (hns y hy).1 a hc)⟩
 have k2:∀a o,¬Bad a->h₁.get? a=some o->h₂.get? a=some o:=fun a o hb ho=>kx.keep a o (fun e=>(nbF a hb).1 (.inl e)) (nbF a hb).2 ho
 have kI:∀o,h₁.get? I=some o->h₂.get? I=some o:=fun o ho=>kx.keep I o (fun e=>hap.2.2.1 (.inl e)) (fun y ω hc=>(hap.2.2.2 y I hc).2 rfl) ho
 have kD:∀o,h₁.get? D=some o->h₂.get? D=some o:=fun o ho=>kx.keep D o (fun e=>hap.2.1 (.inl e)) (fun y ω hc=>(hap.2.2.2 y D hc).1 rfl) ho
 have hst₂:St (i+1) h₂:=W.frame _ _ _ hst₁ fun b hb o ho=>(hfp b hb).elim (fun e=>by rw[e]at ho⊢;exact kI o ho) fun hb=>k2 b o hb ho
 have nFp:∀b∈fp,¬Fz A env b:=fun b hb=>(hfp b hb).elim (fun e=>e▸hap.2.2.1) fun hb=>(nbF b hb).1
 have nDp:∀b∈fp,b≠D:=fun b hb=>(hfp b hb).elim (fun e=>e▸hap.1) (nD b)
 have b2:∀a,Bad a->(h₂.get? a).isSome=true:=fun a ha=>kx.live a (b1 a ha)
 refine hTst A S U _ _ _ hr hh2 fun h₃ t₃ e₃=>?_
 have live3:∀a,(h₂.get? a).isSome=true->(h₃.get? a).isSome=true:=fun a ha=>e₃.live hh2.eok.ns ha
 have hsk1:Sk A env s.heap h₁:=hsk.trans (.of_keep fun a o hs ω ho=>k1 a o (nSI a hs) ho)
 have hsk3:Sk A env s.heap h₃:=(hsk1.trans (.of_keep fun a o hs hl ho=>kx.keep a o hl (fun y ω hc=>by
  obtain⟨u,o2,ho2,hd2⟩:=hh1.eok.call y a hc
  exact hh1.fra.ne ho2 (by rw[hd2];nofun) hs) ho)).trans e₃.fr
 have hst₃:St (i+1) h₃:=W.frame _ _ _ hst₂ fun b hb o ho=>e₃.keep b o (nFp b hb) ho
 have kH3:∀a o,¬Bad a->H.get? a=some o->h₃.get? a=some o:=fun a o hb ho=>e₃.keep a o (nbF a hb).1 (k2 a o hb (k1' a o hb ho))
 have cH3:∀a o,¬Chg A env own I D a->H.get? a=some o->h₃.get? a=some o:=fun a o hb ho=>e₃.keep a o (fun e=>hb (.inr (.inr (.inl e)))) (kx.keep a o (fun e=>hb (.inr (.inr (.inl (.inl e))))) (fun y hy hc=>hb (.inr (.inr (.inr ⟨y,(hns y hy).1,hc⟩)))) (k1 a o (fun e=>hb (.inr (.inl e))) ho))
 have b3:∀a,Bad a->(h₃.get? a).isSome=true:=fun a ha=>live3 a (b2 a ha)
 have hh3:Here C A S U env Γ' h₃:=hh2.ext e₃
 have vkH3:∀y e u,Γ.lookup y=some (some e)->VarAt H env y u->VarAt h₃ env y u:=fun y e u hy hu=>(vk2 y u (fun hm=>(hns y hm).2 e hy) (vk1 y e u hy hu)).ext hh2.eok hh2.fra e₃
 have hD3:h₃.get? D=some (lob ys' n'):=e₃.keep D _ hap.2.1 (kD _ (k1 D _ (Ne.symm hap.1) hD'))
 have hys3:Els C dp G F0 Bad h₃ ys' (outs++(List.range i).flatMap f):=hys'.mono kH3
 have hlen':ys'.length=(outs++(List.range i).flatMap f).length:=hys'.length
 have hf1:(List.range (i+1)).flatMap f=(List.range i).flatMap f++f i:=by rw[List.range_succ,List.flatMap_append];simp
 have hle0:=flatMap_range_le f (Nat.le_of_lt hlt)
 have hle1:((List.range (i+1)).flatMap f).length≤((List.range xs.length).flatMap f).length:=flatMap_range_le f hlt
 have hm1:xs.length+1 - (i+1)<k:=sub_lt_of hkk (Nat.lt_succ_of_lt hlt)
 cases b with
 |false=>
  refine qF _ _ hm1 ⟨h₃,t₃,i+1,ys',n',rfl,hlt,rfl,hst₃,hh3.eok,fun y e u hy hu=>vkH3 y e u hy (vk' y e u hy hu),fun a o hb ho=>cH3 a o hb (hkc a o hb ho),b3,hD3,?_,hsk3⟩
  rw[hf1,hno rfl,List.append_nil];exact hys3
 |true=>
  have hcl:=hyes rfl
  have hG3:=frG h₃ kH3 b3
  cases cs with
  |nil=>
   obtain⟨y,hy,hev⟩:=hcl
   refine qN hg1 _ fun Qe qe=>hev A S U _ _ _ hr hh3 fun v' h₄ t₄ fv e₄ rv hndv hfv=>qe _ _ fun Qa qa=>?_
   have hD4:h₄.PlainList D ys'.toArray:=⟨n',e₄.keep D _ hap.2.1 hD3⟩
   have hsz':ys'.toArray.size≤sizeLine:=by
    rw[List.size_toArray,hlen',List.length_append]
    have h1:((List.range (i+1)).flatMap f).length=((List.range i).flatMap f).length+(f i).length:=by rw[hf1,List.length_append]
    have h2:(2:Nat)^24=sizeLine:=rfl
    omega
   refine wpAny_list_append_plain hD4 (fun h₅ hl₅ hs₅=>?_) hsz'
   obtain⟨n₅,hl₅⟩:=hl₅
   have kD5:∀a o,a≠D->h₄.get? a=some o->h₅.get? a=some o:=fun a o ha ho=>(hs₅.2 a ha).trans ho
   have live4:∀a,(h₃.get? a).isSome=true->(h₄.get? a).isSome=true:=fun a ha=>e₄.live hh3.eok.ns ha
   have b5:∀a,Bad a->(h₅.get? a).isSome=true:=fun a ha=>by
    by_cases hDa:a=D
    ·exact hDa▸so hl₅
    ·rw[hs₅.2 a hDa];exact live4 a (b3 a ha)
   have ek4:EnvOk C h₄ env:=hh3.eok.ext hh3.fra e₄
   have ek5:EnvOk C h₅ env:=ek4.move (fun a=>a=D) kD5 (fun e=>hap.2.1 (.inl e.symm)) fun x c hc e=>(hap.2.2.2 x c hc).1 e
   refine qa _ _ _ hm1 ⟨h₅,t₄,i+1,ys'++[v'],n₅,rfl,hlt,rfl,?_,ek5,fun y e u hy hu=>?_,fun a o hb ho=>kD5 a o (fun e=>hb (.inl e)) (e₄.keep a o (fun e=>hb (.inr (.inr (.inl e)))) (cH3 a o hb (hkc a o hb ho))),b5,?_,?_,(hsk3.trans e₄.fr).trans (.of_keep fun a o hs ω ho=>kD5 a o (nSD a hs) ho)⟩
   ·exact W.frame _ _ _ hst₃ fun b hb o ho=>kD5 b o (nDp b hb) (e₄.keep b o (nFp b hb) ho)
   ·exact((vkH3 y e u hy (vk' y e u hy hu)).ext hh3.eok hh3.fra e₄).move (fun a=>a=D) kD5 (fun e=>hap.2.1 (.inl e.symm)) fun x c hc e=>(hap.2.2.2 x c hc).1 e
   ·rw[hl₅];simp
   ·rw[hf1,hy,←List.append_assoc]
    have k35:∀a o,¬Bad a->h₃.get? a=some o->h₅.get? a=some o:=fun a o hb ho=>kD5 a o (nD a hb) (e₄.keep a o (nbF a hb).1 ho)
    refine Els.snoc (h₀:=h₃) (hys3.mono k35) (fun a=>by cases h₃.get? a<;>simp) hys3 ?_ hndv (fun a ha=>?_) k35
    ·have rg:∀a,(dp=0∧Reg true S U h₃ a)->dp=0∧G a∧¬Bad a:=fun a ha=>by
      refine⟨ha.1,?_⟩
      rcases ha.2 with ha|ha
      ·exact⟨hSG a ha,hUB a (hh.sub a ha)⟩
      ·exact⟨(hG3 a ha).1.1,(hG3 a ha).2⟩
     refine rv.mono rg (fun a o ha ho=>kD5 a o (nD a (rg a ha).2.2) ho) fun a ha o ho=>kD5 a o (nD a (hG3 a (hfv a ha).1).2) ho
    ·exact⟨(hfv a ha).1,(hG3 a (hfv a ha).1).1.2,(hfv a ha).2,(hG3 a (hfv a ha).1).2⟩
  |cons c' cs'=>
   obtain⟨md',xs',f',hI',hT',hout⟩:=hcl
   refine qC c' hg1 _ fun Qi qi=>hI' A S U _ _ _ hr hh3 fun I' h₄ t₄ fp' P' St' e₄ hfr' hlow' W' hst' hP' hfp' hsz'' hqu'=>qi _ _ fun RR qr=>?_
   have neL:∀a,h₃.get? a=none->¬Fz A env a:=fun a ha hz=>noS (Fz.there hh3 hz) ha
   have neC:∀a,h₃.get? a=none->∀y k,env.cells.lookup y=some k->k≠a:=fun a ha y k hk e=>(hh3.eok.call y k hk).elim fun v h=>h.elim fun o h=>noS (so h.1) (e▸ha)
   have nbI': ¬Bad I':=fun hb=>noS (b3 I' hb) hfr'
   have nbM':∀a,(if md' then S a else U a)->¬Bad a:=fun a ha=>hUB a (by cases md';exact ha;exact hh.sub a ha)
   let Bad':Addr->Prop:=fun a=>Bad a∨a=I'
   let S':Addr->Prop:=fun a=>S a∨(h₃.get? a=none∧(h₄.get? a).isSome=true∧a≠I')
   let U':Addr->Prop:=fun a=>U a∨(h₃.get? a=none∧(h₄.get? a).isSome=true∧a≠I')
   have hh4:Here C A S' U' env Γ' h₄:=by
    have x:=hh3.ext e₄
    refine{cx:=x.cx,base:=x.base,eok:=x.eok,fra:=x.fra,sub:=fun a ha=>ha.imp (hh.sub a) id,old:=fun a ha=>?_,has:=fun y m pv hl hv=>?_}
    ·rcases ha with ha|⟨h1,h2,h3⟩
     ·exact x.old a ha
     ·exact⟨h2,neL a h1,fun y k hk e=>neC a h1 y k hk e.symm⟩
    ·obtain⟨u,h1,h2,h3⟩:=x.has y m pv hl hv
     refine⟨u,h1,h2.mono (fun a ha=>?_) (fun ω ω ω e=>e),fun hn=>(h3 hn).mono (fun ω z=>.inl z) (fun ω z=>.inl z) hh.sub fun ω ω ω e=>e⟩
     by_cases hn:(m==0)=true
     ·rw[if_pos hn]at ha⊢;exact .inl ha
     ·rw[if_neg hn]at ha⊢;exact .inl ha
   have k4:∀a o,¬Bad a->h₃.get? a=some o->h₄.get? a=some o:=fun a o hb ho=>e₄.keep a o (nbF a hb).1 ho
   have live4:∀a,(h₃.get? a).isSome=true->(h₄.get? a).isSome=true:=fun a ha=>e₄.live hh3.eok.ns ha
   have fr4:∀a,h₄.get? a=none->h₃.get? a=none:=fun a ha=>by
    cases hq:h₃.get? a with
    |none=>rfl
    |some o=>have:=live4 a (by rw[hq];rfl);rw[ha]at this;cases this
   have hIsome:(h₄.get? I').isSome=true:=by
    obtain⟨o,T,ho,_⟩:=hqu' _ _ hst'
    rw[ho];rfl
   have IH:codeAny (model C.prog C.w) A (.compLoop (.ListComp elt gens scope pos) (d+1) (.ref I') (.ref D) env) RR {s with heap:=h₄,toks:=t₄}:=by
    refine rec c' cs' rfl (A:=A) (S:=S') (U:=U') (s:={s with heap:=h₄,toks:=t₄}) (Γ:=Γ') (md:=md') (xs:=xs') (f:=f') (I:=I') (D:=D) (fp:=fp') (P:=P') (St:=St') (ys:=ys') (n:=n') (outs:=outs++(List.range i).flatMap f) Bad' G F0 hr hh4 W' hst' ?_ hqu' hT' ?_ (fun a ha=>.inl (hBs a ha)) ?_ ?_ ?_ ?_ ?_ ?_ ?_ ?_ ?_ ?_
    ·intro q u hq
     obtain⟨z,hz,rz⟩:=hP' q u hq
     refine⟨z,hz,rz.there.mono (fun a ha=>?_) fun ω ω ω e=>e⟩
     exact rgS (md':=md') (N:=fun a=>h₃.get? a=none) (M:=fun a=>(h₄.get? a).isSome=true) (show(if md' then S a else U a)∨h₃.get? a=none from ha.1.1) ha.2 ha.1.2
    ·exact⟨.inr rfl,.inl hBad.2.1,.inl hBad.2.2.1,fun y hy k hk=>.inl (hBad.2.2.2 y hy k hk)⟩
    ·exact fun a ha=>ha.elim (fun ha=>⟨live4 a (b3 a ha),hBB a ha⟩) fun e=>e▸⟨hIsome,hlow',fun o ho=>(nomatch hfr'.symm.trans (hh3.base.kin _ _ ho))⟩
    ·exact fun a ha hb=>hb.elim (fun hb=>ha.elim (fun ha=>hUB a ha hb) fun h=>noS (b3 a hb) h.1) fun e=>ha.elim (fun ha=>noS (hh3.old a ha).1 (e▸hfr')) fun h=>h.2.2 e
    ·exact fun a ha=>ha.elim (hSG a) fun h=>(hG3 a h.1).1.1
    ·intro a ha
     exact(hG3 a (fr4 a ha)).1
    ·intro b hb
     by_cases hbI:b=I'
     ·exact .inl hbI
     ·exact .inr fun hbad=>hbad.elim (fun hbad=>(hfp' b hb).1.elim hbI fun h=>h.elim (fun h=>nbM' b h hbad) fun h=>noS (b3 b hbad) h) hbI
    ·refine⟨?_,hap.2.1,neL I' hfr',fun y k hk=>⟨(hap.2.2.2 y k hk).1,neC I' hfr' y k hk⟩⟩
     exact fun e=>nomatch (e▸hfr').symm.trans hD3
    ·exact e₄.keep D _ hap.2.1 hD3
    ·obtain⟨fps,g1,g2,g3⟩:=hys3
     refine⟨fps,?_,g2,fun a ha=>⟨(g3 a ha).1,(g3 a ha).2.1,fun hb=>?_⟩⟩
     ·refine g1.strong.mono (fun a ha=>⟨ha.1.1,ha.1.2.1,fun hb=>?_⟩) (fun a o ha ho=>k4 a o ha.1.2.2 ho) (fun a ha o ho=>k4 a o (g3 a ha).2.2 ho)
      exact hb.elim ha.1.2.2 fun e=>noS ha.2 (e▸hfr')
     ·exact hb.elim (g3 a ha).2.2 fun e=>noS (g1.there _ ha) (e▸hfr')
    ·have h1:((List.range (i+1)).flatMap f).length=((List.range i).flatMap f).length+(f i).length:=by rw[hf1,List.length_append]
     rw[List.length_append,←hout]
     omega
    ·intro h₅ t₅ ys₅ n₅ hk5 hb5 ek5 vk5 hD5 hys5 hsk5
     have ne':∀a o,h₃.get? a=some o->a≠I':=fun a o ho e=>noS (so ho) (e▸hfr')
     have c35:∀a o,a≠D->¬Fz A env a->(¬ ∃y,own y∧env.cells.lookup y=some a)->h₃.get? a=some o->h₅.get? a=some o:=fun a o h1 h2 h3 ho=>
      hk5 a o (fun h=>h.elim h1 fun h=>h.elim (ne' a o ho) fun h=>h.elim h2 h3) (e₄.keep a o h2 ho)
     have hst5:St (i+1) h₅:=W.frame _ _ _ hst₃ fun b hb o ho=>c35 b o (nDp b hb) (nFp b hb) (fun h=>(hfp b hb).elim (fun e=>h.elim fun y h=>(hap.2.2.2 y b h.2).2 e) fun hb'=>h.elim fun y h=>hb' (hBad.2.2.2 y h.1 b h.2)) ho
     refine qr _ _ _ hm1 ⟨h₅,t₅,i+1,ys₅,n₅,rfl,hlt,rfl,hst5,ek5,fun y e u hy hu=>?_,fun a o hb ho=>c35 a o (fun e=>hb (.inl e)) (fun e=>hb (.inr (.inr (.inl e)))) (fun e=>hb (.inr (.inr (.inr e)))) (cH3 a o hb (hkc a o hb ho)),fun a ha=>hb5 a (.inl ha) (fun e=>nbI' (e▸ha)),hD5,?_,(hsk3.trans e₄.fr).trans hsk5⟩
     ·refine vk5 y e u (hgle y e hy) ((vkH3 y e u hy (vk' y e u hy hu)).ext hh3.eok hh3.fra e₄)
     ·rw[hf1,←List.append_assoc,hout]
      obtain⟨fps,g1,g2,g3⟩:=hys5
      exact⟨fps,g1.mono (fun a ha=>⟨ha.1,ha.2.1,fun hb=>ha.2.2 (.inl hb)⟩) (fun ω ω ω e=>e) (fun ω ω ω e=>e),g2,fun a ha=>⟨(g3 a ha).1,(g3 a ha).2.1,fun hb=>(g3 a ha).2.2 (.inl hb)⟩⟩
   refine compStart_gen (g:=c') (by rw[hg1];rfl) (hasync c' (List.mem_of_getElem? (i:=d+1) (by rw[hg1];rfl))).1 IH ?_
   exact W'.self 0 _ _ _ hst' IH
theorem comp_loop{C:Cx}{elt:Expr}{dp:Nat}{gens:List Comprehension}{scope:Scope}{pos:Pos}{env:Env}(own:Str->Prop)
  (hasync:∀c∈gens,c.is_async=0∧∀x,foldedSetIterable c.iter env x=pure x):
  ∀ (cs:List Comprehension) (d:Nat) (c:Comprehension),gens.drop d=c::cs->LoopOk C elt dp gens scope pos env own cs d c:=by
 intro cs
 induction cs with
 |nil=>exact fun d c hd=>comp_level hasync hd fun ω ω h=>by cases h
 |cons c' cs' ih=>
  intro d c hd
  refine comp_level hasync hd ?_
  intro c₂ cs₂ h
  cases h
  have e:gens.drop (d+1)=c'::cs':=by rw[←List.drop_drop,hd];rfl
  exact @ih (d+1) c' e
noncomputable def CE(scope:Scope)(env:Env)(D:Addr)(cells:List (Str×Addr)):Env:=
 {scope:=relabel scope env,locals:=D,globals:=env.globals,cells:=cells,qual:=env.qual,func:=none,code:=env.code,frame:=env.frame,builtins:=env.builtins}
noncomputable def ownP(scope:Scope)(y:Str):Prop:=scope.names.lookup y=some .local∨scope.names.lookup y=some .cell
noncomputable def ownNames(scope:Scope):List Str:=(scope.names.filter fun x=>x.2== .local||x.2== .cell).map (·.1)
noncomputable def inner(scope:Scope)(Γ:Gam):Gam:=(ownNames scope).map (fun x=>(x,none))++Γ
structure ScopeOk(scope:Scope)(env:Env):Prop where
 kind:scope.kind= .function
 nodup:(scope.names.map (·.1)).Nodup
 free:∀x∈scope.names,x.2= .free->env.kindOf x.1=some .cell∨env.kindOf x.1=some .free
 nocd:∀x∈scope.names,x.1≠"__classdict__"
theorem lookup_of_mem{α:Type}:∀ {l:List (Str×α)} {x:Str} {k:α},(l.map (·.1)).Nodup->(x,k)∈l->l.lookup x=some k
 |(n,j)::r,x,k,hnd,hm=>by
  have hnd':n∉r.map (·.1)∧(r.map (·.1)).Nodup:=by simpa using hnd
  rw[List.lookup_cons]
  rcases List.mem_cons.mp hm with e|hm
  ·cases e;simp
  ·have hne:x≠n:=by rintro rfl;exact hnd'.1 (List.mem_map.mpr ⟨_,‹(x,k)∈r›,rfl⟩)
   have:(x==n)=false:=by simpa using hne
   rw[this];exact lookup_of_mem hnd'.2 hm
theorem mem_of_lookup'{α:Type}:∀ {l:List (Str×α)} {x:Str} {k:α},l.lookup x=some k->(x,k)∈l
 |(n,j)::r,x,k,h=>by
  rw[List.lookup_cons]at h
  cases hb:x==n with
  |true=>rw[hb]at h;cases h;rw[beq_iff_eq.mp hb];exact List.mem_cons_self
  |false=>rw[hb]at h;exact List.mem_cons_of_mem _ (mem_of_lookup' h)
theorem relabel_lookup(env:Env):∀ (names:List (Str×NameKind)) (x:Str),
  (names.map fun(n,k)=>if(k==NameKind.free&&env.scope.kind== .function&&env.kindOf n==some .cell)then(n,NameKind.cell)else(n,k)).lookup x=
   (names.lookup x).map fun k=>if(k==NameKind.free&&env.scope.kind== .function&&env.kindOf x==some .cell)then .cell else k
 |[],x=>rfl
 |(n,k)::r,x=>by
  have ih:=relabel_lookup env r x
  show List.lookup x ((if(k==NameKind.free&&env.scope.kind== .function&&env.kindOf n==some .cell)=true then(n,NameKind.cell)else(n,k))::_)=_
  by_cases hc:(k==NameKind.free&&env.scope.kind== .function&&env.kindOf n==some .cell)=true
  ·rw[if_pos hc,List.lookup_cons,List.lookup_cons]
   cases hb:x==n with
   |true=>
    have:x=n:=beq_iff_eq.mp hb
    subst this
    simp only[Option.map_some,hc,if_true]
   |false=>exact ih
  ·rw[if_neg hc,List.lookup_cons,List.lookup_cons]
   cases hb:x==n with
   |true=>
    have:x=n:=beq_iff_eq.mp hb
    subst this
    simp only[Option.map_some]
    rw[if_neg hc]
   |false=>exact ih
theorem CE_kindOf{scope:Scope}{env:Env}{D:Addr}{cells:List (Str×Addr)}(x:Str):
  (CE scope env D cells).kindOf x=(scope.names.lookup x).map fun k=>if(k==NameKind.free&&env.scope.kind== .function&&env.kindOf x==some .cell)then .cell else k:=relabel_lookup env scope.names x
theorem CE_isVar{scope:Scope}{env:Env}{D:Addr}{cells:List (Str×Addr)}{x:Str}(h:isVar (scope.names.lookup x)=true):isVar ((CE scope env D cells).kindOf x)=true:=by
 rw[CE_kindOf]
 rcases isVar_cases h with h|h|h<;>rw[h]
 ·rfl
 ·rfl
 ·simp only[Option.map_some]
  split<;>rfl
theorem CE_isVar_iff{scope:Scope}{env:Env}{D:Addr}{cells:List (Str×Addr)}{x:Str}(h:isVar ((CE scope env D cells).kindOf x)=true):isVar (scope.names.lookup x)=true:=by
 rw[CE_kindOf]at h
 cases hl:scope.names.lookup x with
 |none=>rw[hl]at h;simp[isVar]at h
 |some k=>
  rw[hl]at h
  simp only[Option.map_some]at h
  cases k<;>simp_all [isVar]
theorem CE_glob{scope:Scope}{env:Env}{D:Addr}{cells:List (Str×Addr)}{x:Str}(h:scope.names.lookup x=some .globalImplicit):(CE scope env D cells).kindOf x=some .globalImplicit:=by
 rw[CE_kindOf,h];rfl
theorem CE_local{scope:Scope}{env:Env}{D:Addr}{cells:List (Str×Addr)}{x:Str}(h:scope.names.lookup x=some .local∨scope.names.lookup x=some .cell):(CE scope env D cells).kindOf x=some .local∨(CE scope env D cells).kindOf x=some .cell:=by
 rw[CE_kindOf]
 rcases h with h|h<;>rw[h]<;>simp
theorem inner_lookup{scope:Scope}{Γ:Gam}{x:Str}{e:Nat×PV}(h:(inner scope Γ).lookup x=some (some e)):Γ.lookup x=some (some e)∧x∉ownNames scope:=by
 unfold inner at h
 generalize ownNames scope=ns at h⊢
 induction ns with
 |nil=>exact⟨h,by simp⟩
 |cons n r ih=>
  rw[List.map_cons,List.cons_append,List.lookup_cons]at h
  cases hb:x==n with
  |true=>rw[hb]at h;cases h
  |false=>
   rw[hb]at h
   have:=ih h
   refine⟨this.1,?_⟩
   rw[List.mem_cons,not_or]
   exact⟨by simpa using hb,this.2⟩
section
variable{C:Cx}{A:Around}{env:Env}{Γ:Gam}
theorem wpAny_newEnvC{M:Model}{A:Around}{E:Value->Shared->Prop}{s:Shared}{scope:Scope}{cl:List (Str×Addr)}{Q:Env->Shared->Prop}
  (h:Q {scope:=scope,locals:=s.heap.objs.size,globals:=env.globals,cells:=cellsFrom (s.heap.objs.size+1) scope.names cl,qual:=env.qual,func:=none,code:=env.code,frame:=env.frame,builtins:=env.builtins}
   {s with heap:=pushCells (s.heap.push {cls:=.type "dict",data:=.dict #[]}) scope.names}):
  wpAny M A (newFunctionEnv scope env.globals cl [] env.qual none .none (some env)) Q E s:=by
 unfold newFunctionEnv
 simp only[Option.isSome_some,if_true]
 refine wpAny_bind (wpAny_alloc ?_)
 refine wpAny_bind (wpAny_layCells _ (fun name kind cells=>by cases hkc:kind==NameKind.cell<;>simp[hkc]) _ _ _ _ ?_)
 rw[Heap.size_push]
 exact wpAny_bind (wpAny_pure (wpAny_pure h))
structure Begun(C:Cx)(A:Around)(env:Env)(Γ:Gam)(own:Str->Prop)(md:Bool)(xs:List PV)(I D:Addr)(fp:List Addr)(P:Nat->Value->Prop)(St:Nat->Heap->Prop)(S U Bad G F0:Addr->Prop)(h:Heap)(o₀:Obj):Prop where
 hh:Here C A S U env Γ h
 W:Walks C.prog C.w A I fp [I] xs.length P St
 st:St 0 h
 hP:∀i v,P i v->∃x,xs[i]?=some x∧Rd C.prog C.w (fun a=>if md then S a else U a) h v x
 qu:∀i h,St i h->∃o T,h.get? I=some o∧o.cls= .type T∧ownedIters.contains T=false
 bad:Bad I∧Bad D∧Bad env.locals∧∀y,own y->∀k,env.cells.lookup y=some k->Bad k
 bs:∀a,onStack A a->Bad a
 bx:∀a,Bad a->(h.get? a).isSome=true∧mainGlobals<a∧∀o,C.K.lookup a≠some o
 ub:∀a,U a->¬Bad a
 sg:∀a,S a->G a
 fg:∀a,h.get? a=none->G a∧F0 a
 fp:∀b∈fp,b=I∨¬Bad b
 ap:I≠D∧¬Fz A env D∧¬Fz A env I∧∀y k,env.cells.lookup y=some k->k≠D∧k≠I
 at_:h.get? D=some o₀
theorem comp_env{e:Expr}{scope:Scope}{p:Pos}{c:Comprehension}{cs:List Comprehension}{md:Bool}{xs:List PV}{use:Option (Value->Sem Unit)}{newAcc:Sem Value}{o₀:Obj}
  (hcl:clausesOf e=c::cs) (hasync:c.is_async=0∧∀env x,foldedSetIterable c.iter env x=pure x) (hs:ScopeOk scope env) (h1:EvI C env Γ c.iter md xs)
  (hof:o₀.isFreed=false) (hnew:∀ {A:Around} {E:Value->Shared->Prop} {s:Shared} {Q:Value->Shared->Prop},Q (.ref s.heap.objs.size) {s with heap:=s.heap.push o₀}->wpAny (model C.prog C.w) A newAcc Q E s)
  {A:Around} {S U:Addr->Prop} {s:Shared} {Q:Value->Shared->Prop} {E:Value->Shared->Prop} (hr:Room C A) (hh:Here C A S U env Γ s.heap) (Acc:(Addr->Prop)->Addr->Heap->Prop)
  (loop:∀ (I D L:Addr) (h:Heap) (t:Nat) (cells:List (Str×Addr)) (fp:List Addr) (P:Nat->Value->Prop) (St:Nat->Heap->Prop) (S' U' Bad:Addr->Prop) (R:Result->Shared->Prop),Begun C A (CE scope env L cells) (inner scope Γ) (ownP scope) md xs I D fp P St S' U' Bad (fun a=>S a∨s.heap.get? a=none) (fun a=>s.heap.get? a=none) h o₀->
   (∀h' t',(∀a o,¬Chg A (CE scope env L cells) (ownP scope) I D a->h.get? a=some o->h'.get? a=some o)->(∀a,Bad a->a≠I->(h'.get? a).isSome=true)->EnvOk C h' (CE scope env L cells)->(∀y e u,(inner scope Γ).lookup y=some (some e)->VarAt h (CE scope env L cells) y u->VarAt h' (CE scope env L cells) y u)->
    Acc Bad D h'->Sk A (CE scope env L cells) h h'->R (.ok .next) {s with heap:=h',toks:=t'})->
   codeAny (model C.prog C.w) A (.compStart e 0 (.ref I) (.ref D) (CE scope env L cells)) R {s with heap:=h,toks:=t})
  (hq:∀L D h' t' m (Bad:Addr->Prop),s.heap.get? L=none->L≠D->s.heap.get? D=none->Ext A env s.heap h'->Bad L->Bad D->Acc Bad D h'->mainGlobals<D->mainGlobals<L->h'.Ns L m->
   compPost (model C.prog C.w) A E use Q (.ref D) L (.ok .next) {s with heap:=h',toks:=t'}):
  wpAny (model C.prog C.w) A (comprehension e scope env p newAcc false (eval c.iter env) use) Q E s:=by
 have hcells:∀x∈scope.names,x.2= .free->∃c,env.cells.lookup x.1=some c:=fun x hx hf=>by
  obtain⟨c,v,h1,_⟩:=hh.eok.cell x.1 (hs.free x hx hf)
  exact⟨c,h1⟩
 refine wpAny_comprehension_free (cl:=clOf env scope.names []) hcl (hasync.2 env) (closureFor_eq hcells) hs.kind (fun x hx hl=>by
  have:=lookup_of_mem hs.nodup (k:=x.2) (x:=x.1) hx
  rw[this,hl]) ?_
 refine h1 A S U s _ E hr hh fun I h₂ t₂ fp P St e₂ hfI hlow W hst hP hfp hn24 hqu=>?_
 refine hnew ?_
 refine wpAny_newEnvC ?_
 obtain⟨mL,hmL⟩:=hh.eok.ns
 have hLlt:env.locals<h₂.objs.size:=(e₂.ns mL hmL).lt
 let D:Addr:=h₂.objs.size
 let h₃:Heap:=h₂.push o₀
 have hL:h₃.objs.size=D+1:=Heap.size_push ..
 let L:Addr:=h₃.objs.size
 let h₃':Heap:=h₃.push {cls:=.type "dict",data:=.dict #[]}
 have hsz3:h₃'.objs.size=L+1:=Heap.size_push ..
 let cells:=cellsFrom (L+1) scope.names (clOf env scope.names [])
 let h₄:Heap:=pushCells h₃' scope.names
 have hclspec:∀x k,(clOf env scope.names []).lookup x=some k->(x,.free)∈scope.names∧env.cells.lookup x=some k:=fun x k hx=>(clOf_some scope.names [] x k hcells hx).elim (fun h=>nomatch h) id
 have hcellv:∀x k,env.cells.lookup x=some k->∃v,h₂.IsCell k v:=fun x k hx=>(hh.eok.ext hh.fra e₂).call x k hx
 have hbase:∀x k,(clOf env scope.names []).lookup x=some k->k<L+1:=fun x k hx=>by
  obtain⟨v,hv⟩:=hcellv x k (hclspec x k hx).2
  have:=hv.lt
  show k<h₃.objs.size+1
  rw[hL]
  exact Nat.lt_succ_of_lt (Nat.lt_succ_of_lt this)
 have CI:CellsIn (L+1) h₃' h₄ (clOf env scope.names []) cells scope.names:=by
  have:=cellsIn (L+1) h₃' (clOf env scope.names []) hbase scope.names h₃' (clOf env scope.names []) [] ⟨fun ω ω e=>e,by rw[hsz3];exact Nat.le_refl _,fun ω ω=>rfl,fun ω h=>(nomatch h),fun x k hx=>.inl ⟨hx,fun ω h=>(nomatch h)⟩,
   fun x y k hN hx ω=>absurd (hbase x k hx) (Nat.not_lt.mpr hN)⟩
  rw[hsz3]at this
  simpa using this
 have k34:∀a o,h₂.get? a=some o->h₄.get? a=some o:=fun a o ho=>CI.keep a o (Heap.get?_push_of_some _ (Heap.get?_push_of_some _ ho))
 have hD4:h₄.get? D=some o₀:=CI.keep _ _ (Heap.get?_push_of_some _ (Heap.get?_push_size _ hof))
 have hN4:h₄.Ns L fun ω=>none:=(Heap.Ns.new h₃ (.type "dict")).keeps CI.keep
 have oldlt:∀ {a:Addr},(h₂.get? a).isSome=true->a<D:=fun{a} ha=>by
  obtain⟨o,ho⟩:=Option.isSome_iff_exists.mp ha
  exact Heap.lt_size ho
 have hDL:D<L:=by show D<h₃.objs.size;rw[hL];exact Nat.lt_succ_self _
 have frD:∀a,h₄.get? a=none->s.heap.get? a=none:=fun a ha=>e₂.fresh hh.eok.ns (none_of fun o hq'=>nomatch ha.symm.trans (k34 a o hq'))
 have new0:∀a,D≤a->s.heap.get? a=none:=fun a ha=>e₂.fresh hh.eok.ns (none_of fun o hq'=>absurd (Heap.lt_size hq') (Nat.not_lt.mpr ha))
 have hlowD:mainGlobals<D:=e₂.high hh
 have kK:∀a o,C.K.lookup a=some o->a<env.locals:=hh.eok.below
 have hfree:∀y,(y,NameKind.free)∈scope.names->(∀k,(y,k)∈scope.names->k≠.cell):=fun y hy k hk hc=>by
  subst hc
  have h1:=lookup_of_mem hs.nodup hy
  have h2:=lookup_of_mem hs.nodup hk
  rw[h1]at h2;cases h2
 have hown:∀y,ownP scope y->∀a,cells.lookup y=some a->L+1≤a:=fun y hy a ha=>by
  rcases CI.all y a ha with⟨h1,h2⟩|⟨h1,_⟩
  ·have hf:=(hclspec y a h1).1
   have:=lookup_of_mem hs.nodup hf
   rcases hy with hy|hy<;>rw[this]at hy<;>cases hy
  ·exact h1
 have hEK:EnvOk C h₄ (CE scope env L cells):=by
  refine{kind:=hs.kind,glob:=hh.eok.glob,bltn:=hh.eok.bltn,ns:=⟨_,hN4⟩,cell:=fun x hx=>?_,call:=fun x k hx=>?_,apart:=fun x y k hx hy=>?_,notL:=fun x k hx=>?_,below:=fun a o ho=>?_,high:=Nat.lt_trans hlowD hDL,chigh:=fun x k hx=>?_}
  ·have hv:isVar (scope.names.lookup x)=true:=CE_isVar_iff (env:=env) (D:=L) (cells:=cells) (by rcases hx with hx|hx<;>rw[hx]<;>rfl)
   have hk:=CE_kindOf (scope:=scope) (env:=env) (D:=L) (cells:=cells) x
   rcases isVar_cases hv with h|h|h
   ·rw[h]at hk
    rcases hx with hx|hx<;>rw[hx]at hk<;>simp at hk
   ·obtain⟨k,h1,h2⟩:=CI.fresh x (mem_of_lookup' h)
    rcases CI.all x k h1 with⟨_,h3⟩|⟨_,_,h3,_⟩
    ·exact absurd rfl (h3 _ (mem_of_lookup' h))
    ·exact⟨k,_,h1,h3⟩
   ·have hm:=mem_of_lookup' h
    obtain⟨k,v,h1,h2⟩:=hh.eok.cell x (hs.free _ hm rfl)
    have h3:cells.lookup x=some k:=by rw[CI.old x (hfree x hm)];exact clOf_lookup_free _ _ _ _ hs.nodup hm h1
    obtain⟨v',o,h4,h5⟩:=hcellv x k h1
    exact⟨k,v',h3,o,k34 _ _ h4,h5⟩
  ·rcases CI.all x k hx with⟨h1,_⟩|⟨_,_,h3,_⟩
   ·obtain⟨v,o,h4,h5⟩:=hcellv x k (hclspec x k h1).2
    exact⟨v,o,k34 _ _ h4,h5⟩
   ·exact⟨_,h3⟩
  ·by_cases hN:L+1≤k
   ·exact CI.apart x y k hN hx hy
   ·rcases CI.all x k hx with⟨h1,_⟩|⟨h1,_⟩
    ·rcases CI.all y k hy with⟨h2,_⟩|⟨h2,_⟩
     ·exact hh.eok.apart x y k (hclspec x k h1).2 (hclspec y k h2).2
     ·exact absurd h2 hN
    ·exact absurd h1 hN
  ·rcases CI.all x k hx with⟨h1,_⟩|⟨h1,_⟩
   ·obtain⟨v,hv⟩:=hcellv x k (hclspec x k h1).2
    exact Nat.ne_of_lt (Nat.lt_trans hv.lt hDL)
   ·exact Nat.ne_of_gt h1
  ·exact Nat.lt_trans (kK a o ho) (Nat.lt_trans hLlt hDL)
  ·rcases CI.all x k hx with⟨h1,_⟩|⟨h1,_⟩
   ·exact hh.eok.chigh x k (hclspec x k h1).2
   ·exact⟨Nat.lt_trans (Nat.lt_trans hlowD hDL) h1,fun a o ho=>Nat.ne_of_lt (Nat.lt_trans (Nat.lt_trans (kK a o ho) (Nat.lt_trans hLlt hDL)) h1)⟩
 let S':Addr->Prop:=fun a=>S a∨(s.heap.get? a=none∧(h₂.get? a).isSome=true∧a≠I)
 let U':Addr->Prop:=fun a=>U a∨(s.heap.get? a=none∧(h₂.get? a).isSome=true∧a≠I)
 have hh2:=hh.ext e₂
 have hUlt:∀a,U' a->a<D:=fun a ha=>oldlt (ha.elim (fun ha=>(hh2.old a ha).1) fun h=>h.2.1)
 have neC:∀a,U' a->∀x k,env.cells.lookup x=some k->a≠k:=fun a ha x k hx e=>ha.elim (fun ha=>(hh.old _ ha).2.2 x _ hx e) fun h=>(hh.eok.call x _ hx).elim fun v g=>g.elim fun o g=>noS (so g.1) (e▸h.1)
 have nS:∀a,U' a->¬onStack A a:=fun a ha hs=>ha.elim (fun ha=>(hh.old a ha).2.1 (.inr hs)) fun h=>noS (Fz.there hh (.inr hs)) h.1
 have sOld:∀a,onStack A a->(s.heap.get? a).isSome=true:=fun a hs=>Fz.there hh (.inr hs)
 have hh4:Here C A S' U' (CE scope env L cells) (inner scope Γ) h₄:=by
  have kNs:∀ {a:Addr} {m},h₂.Ns a m->h₄.Ns a m:=fun{a m} hn=>hn.keeps k34
  refine{cx:=hh.cx,base:=⟨fun a o ho=>k34 a o (hh2.base.kin a o ho),?_,?_,?_⟩,eok:=hEK,fra:=hh2.fra.move fun a o ω ho hd=>⟨o,k34 a o ho,hd⟩,sub:=fun a ha=>ha.imp (hh.sub a) id,old:=fun a ha=>?_,has:=fun y m pv hl hv=>?_}
  ·exact hh2.base.nolimit.keeps k34
  ·obtain⟨mb,h1,h2⟩:=hh2.base.bns;exact⟨mb,kNs h1,h2⟩
  ·obtain⟨mc,h1,h2⟩:=hh2.base.nodigits;exact⟨mc,kNs h1,h2⟩
  ·have hlt:=hUlt a ha
   refine⟨?_,fun hz=>hz.elim (fun e=>Nat.ne_of_lt (Nat.lt_trans hlt hDL) e) (nS a ha),fun x k hx e=>?_⟩
   ·exact some_keep (ha.elim (fun ha=>(hh2.old a ha).1) fun h=>h.2.1) (k34 a)
   ·rcases CI.all x k hx with⟨h1,_⟩|⟨h1,_⟩
    ·exact neC a ha x k (hclspec x k h1).2 e
    ·exact absurd (Nat.lt_trans hlt hDL) (Nat.not_lt.mpr (e▸Nat.le_of_succ_le h1))
  ·obtain⟨hΓ,hno⟩:=inner_lookup hl
   have hv':=CE_isVar_iff hv
   have hfr:scope.names.lookup y=some .free:=by
    rcases isVar_cases hv' with h|h|h
    ·exact absurd (List.mem_map.mpr ⟨(y,.local),List.mem_filter.mpr ⟨mem_of_lookup' h,rfl⟩,rfl⟩) hno
    ·exact absurd (List.mem_map.mpr ⟨(y,.cell),List.mem_filter.mpr ⟨mem_of_lookup' h,rfl⟩,rfl⟩) hno
    ·exact h
   have hm:=mem_of_lookup' hfr
   have hke:=hs.free _ hm rfl
   obtain⟨v,h1,h2,h2'⟩:=hh2.has y m pv hΓ (by rcases hke with h|h<;>rw[h]<;>rfl)
   refine⟨v,?_,h2.mono (fun a ha=>?_) (fun a o ω ho=>k34 a o ho),fun hn=>(h2' hn).mono (fun ω z=>.inl z) (fun ω z=>.inl z) hh.sub fun a o ω ho=>k34 a o ho⟩
   ·rcases h1 with⟨h3,_⟩|⟨h3,h0,k,h4,o,h5,h6⟩
    ·rcases hke with h|h<;>rw[h]at h3<;>cases h3
    ·refine .inr ⟨?_,h0,k,?_,o,k34 _ _ h5,h6⟩
     ·rw[CE_kindOf,hfr]
      simp only[Option.map_some]
      split<;>simp
     ·show cells.lookup y=some k
      rw[CI.old y (hfree y hm)];exact clOf_lookup_free _ _ _ _ hs.nodup hm h4
   ·by_cases hn:(m==0)=true
    ·rw[if_pos hn]at ha⊢;exact .inl ha
    ·rw[if_neg hn]at ha⊢;exact .inl ha
 let Bad:Addr->Prop:=fun a=>a=I∨a=D∨a=L∨(∃y,ownP scope y∧cells.lookup y=some a)∨onStack A a
 have hID:I<D:=by
  obtain⟨o,T,ho,_⟩:=hqu _ _ hst
  exact Heap.lt_size ho
 have hUB:∀a,U' a->¬Bad a:=fun a ha hb=>hb.elim (fun e=>ha.elim (fun ha=>noS (hh.old _ ha).1 (e▸hfI)) fun h=>h.2.2 e) fun hb=>hb.elim (fun e=>Nat.ne_of_lt (hUlt a ha) e) fun hb=>hb.elim (fun e=>Nat.ne_of_lt (Nat.lt_trans (hUlt a ha) hDL) e) fun hb=>
  hb.elim (fun h=>h.elim fun y h=>absurd (Nat.lt_trans (hUlt a ha) hDL) (Nat.not_lt.mpr (Nat.le_of_succ_le (hown y h.1 a h.2)))) (nS a ha)
 have hst4:St 0 h₄:=W.frame _ _ _ hst fun b ω o ho=>k34 b o ho
 refine loop I D L h₄ t₂ cells fp P St S' U' Bad _ ⟨hh4,W,hst4,?_,hqu,⟨.inl rfl,.inr (.inl rfl),.inr (.inr (.inl rfl)),fun y hy k hk=>.inr (.inr (.inr (.inl ⟨y,hy,hk⟩)))⟩,(fun a ha=>.inr (.inr (.inr (.inr ha)))),?_,hUB,?_,(fun a ha=>⟨.inr (frD a ha),frD a ha⟩),?_,?_,hD4⟩ ?_
 ·intro i v hv
  obtain⟨z,hz,rz⟩:=hP i v hv
  refine⟨z,hz,rz.there.mono (fun a ha=>?_) fun a o ω ho=>k34 a o ho⟩
  exact rgS (md':=md) (N:=fun a=>s.heap.get? a=none) (M:=fun a=>(h₂.get? a).isSome=true) (show(if md then S a else U a)∨s.heap.get? a=none from ha.1.1) ha.2 ha.1.2
 ·intro a ha
  by_cases hs:onStack A a
  ·obtain⟨h1,h2,_⟩:=hh2.fra.high hs
   obtain⟨o,ho⟩:=Option.isSome_iff_exists.mp (e₂.live hh.eok.ns (sOld a hs))
   exact⟨by rw[k34 a o ho];rfl,h2,fun o ho=>Nat.lt_irrefl _ (h1 a o ho)⟩
  have big:(h₄.get? a).isSome=true∧(a=I∨D≤a):=ha.elim (fun e=>⟨e▸(hqu _ _ hst4).elim fun o h=>h.elim fun T h=>so h.1,.inl e⟩) fun ha=>ha.elim (fun e=>⟨e▸so hD4,.inr (e▸Nat.le_refl _)⟩) fun ha=>
   ha.elim (fun e=>⟨e▸hN4.elim fun o h=>h.elim fun ω h=>h.elim fun ω h=>so h.1,.inr (e▸Nat.le_of_lt hDL)⟩) fun ha=>ha.elim (fun h=>h.elim fun y h=>⟨(hEK.call y a h.2).elim fun v g=>g.elim fun o g=>so g.1,.inr (Nat.le_of_lt (Nat.lt_of_lt_of_le (Nat.lt_succ_of_lt hDL) (hown y h.1 a h.2)))⟩) fun h=>absurd h hs
  exact⟨big.1,big.2.elim (fun e=>e▸hlow) (Nat.lt_of_lt_of_le hlowD),fun o ho=>noS (so (hh.base.kin a o ho)) (big.2.elim (fun e=>e▸hfI) (new0 a))⟩
 ·intro a ha
  exact ha.imp id fun h=>h.1
 ·intro b hb
  by_cases hbI:b=I
  ·exact .inl hbI
  ·exact .inr (hUB b ((hfp b hb).1.elim (fun e=>absurd e hbI) fun h=>h.elim (fun h=>.inl (by cases md;exact h;exact hh.sub b h)) fun h=>.inr ⟨h,(hfp b hb).2,hbI⟩))
 ·have nsN:∀a,s.heap.get? a=none->¬onStack A a:=fun a h hs=>noS (sOld a hs) h
  refine⟨Nat.ne_of_lt hID,fun hz=>hz.elim (fun e=>Nat.ne_of_lt hDL e) (nsN D (new0 D (Nat.le_refl _))),fun hz=>hz.elim (fun e=>Nat.ne_of_lt (Nat.lt_trans hID hDL) e) (nsN I hfI),fun y k hk=>?_⟩
  rcases CI.all y k hk with⟨h1,_⟩|⟨h1,_⟩
  ·obtain⟨v,hv⟩:=hcellv y k (hclspec y k h1).2
   refine⟨Nat.ne_of_lt hv.lt,?_⟩
   exact fun e=>(hh.eok.call y k (hclspec y k h1).2).elim fun v' g=>g.elim fun o g=>noS (so g.1) (e▸hfI)
  ·exact⟨Nat.ne_of_gt (Nat.lt_of_lt_of_le (Nat.lt_succ_of_lt hDL) h1),Nat.ne_of_gt (Nat.lt_of_lt_of_le (Nat.lt_trans hID (Nat.lt_succ_of_lt hDL)) h1)⟩
 ·intro h' t' hk' hb' ek' vk' hacc hsk'
  have kall:∀a o,a<D->a≠I->¬onStack A a->h₂.get? a=some o->h'.get? a=some o:=fun a o hlt hne hns ho=>hk' a o (fun hc=>hc.elim (Nat.ne_of_lt hlt) fun hc=>hc.elim hne fun hc=>hc.elim (fun hc=>hc.elim (Nat.ne_of_lt (Nat.lt_trans hlt hDL)) hns) fun h=>h.elim fun y h=>absurd (Nat.lt_trans hlt hDL) (Nat.not_lt.mpr (Nat.le_of_succ_le (hown y h.1 a h.2)))) (k34 a o ho)
  have neI:∀a o,s.heap.get? a=some o->a≠I:=fun a o ho e=>noS (so ho) (e▸hfI)
  have hltD:∀a o,h₂.get? a=some o->a<D:=fun a o ho=>Heap.lt_size ho
  have ks:∀a o,onStack A a->h₂.get? a=some o->∃sl,h'.get? a=some {o with slots:=sl}:=fun a o hs ho=>
   hsk' a o hs (Nat.ne_of_lt (Nat.lt_trans (hltD a o ho) hDL)) (k34 a o ho)
  have ex:Ext A env s.heap h':=⟨fun a o ha ho=>by
    have h2:=e₂.keep a o ha ho
    exact kall a o (hltD a o h2) (neI a o ho) (fun hs=>ha (.inr hs)) h2,fun m hm=>by
    obtain⟨o,es,ep,ho,hd,r⟩:=e₂.ns m hm
    obtain⟨o',_,_,ho',_⟩:=hm
    by_cases hs:onStack A env.locals
    ·obtain⟨sl,h1⟩:=ks _ o hs ho
     exact⟨_,es,ep,h1,hd,r⟩
    ·exact⟨o,es,ep,kall _ o (hltD _ o ho) (neI _ _ ho') hs ho,hd,r⟩,fun a o hs hl ho=>by
    obtain⟨sl,h1⟩:=e₂.fr a o hs hl ho
    obtain⟨sl',h2⟩:=ks a _ hs h1
    exact⟨sl',h2⟩⟩
  obtain⟨m',hm'⟩:=ek'.ns
  exact hq L D h' t' m' Bad (new0 L (Nat.le_of_lt hDL)) (Nat.ne_of_gt hDL) (new0 D (Nat.le_refl _)) ex (.inr (.inr (.inl rfl))) (.inr (.inl rfl)) hacc hlowD (Nat.lt_trans hlowD hDL) hm'
theorem comp_core{dp:Nat}{elt:Expr}{scope:Scope}{pos:Pos}{p:Pos}{c:Comprehension}{cs:List Comprehension}{md:Bool}{xs:List PV}{f:Nat->List PV}{use:Option (Value->Sem Unit)}
  (hasync:∀g∈c::cs,g.is_async=0∧∀env x,foldedSetIterable g.iter env x=pure x) (hs:ScopeOk scope env) (h1:EvI C env Γ c.iter md xs)
  (hT:∀L cells,Tn C (CE scope env L cells) (ownP scope) elt dp c cs (inner scope Γ) md xs f) (hsz:((List.range xs.length).flatMap f).length≤2^24)
  {A:Around} {S U:Addr->Prop} {s:Shared} {Q:Value->Shared->Prop} {E:Value->Shared->Prop} (hr:Room C A) (hh:Here C A S U env Γ s.heap)
  (hq:∀L D h' t' m,s.heap.get? L=none->L≠D->s.heap.get? D=none->Ext A env s.heap h'->(∀n vs,h'.get? D=some (lob vs n)->∃fps,OwnTs C (fun a=>dp=0∧(S a∨s.heap.get? a=none)∧a≠L∧a≠D) h' dp vs ((List.range xs.length).flatMap f) fps∧(D::fps).Nodup∧∀a∈fps,s.heap.get? a=none∧mainGlobals<a∧a≠L)->(∃n vs,h'.get? D=some (lob vs n))->mainGlobals<D->mainGlobals<L->h'.Ns L m->
   compPost (model C.prog C.w) A E use Q (.ref D) L (.ok .next) {s with heap:=h',toks:=t'}):
  wpAny (model C.prog C.w) A (comprehension (.ListComp elt (c::cs) scope pos) scope env p (newList []) false (eval c.iter env) use) Q E s:=by
 refine comp_env (C:=C) (o₀:=lob [] 0) rfl (hasync c List.mem_cons_self) hs h1 rfl (fun h=>wpAny_newObj_type h (by show(0:Nat)≤sizeLine;exact Nat.zero_le _)) hr hh
  (fun Bad D h'=>∃ys n,h'.get? D=some (lob ys n)∧Els C dp (fun a=>S a∨s.heap.get? a=none) (fun a=>s.heap.get? a=none) Bad h' ys ((List.range xs.length).flatMap f)) (fun I D L h t cells fp P St S' U' Bad R b hR=>?_) fun L D h' t' m' Bad g1 g2 g3 ex hbL hbD hacc lowD lowL hm'=>?_
 ·have main:codeAny (model C.prog C.w) A (.compLoop (.ListComp elt (c::cs) scope pos) 0 (.ref I) (.ref D) (CE scope env L cells)) R {s with heap:=h,toks:=t}:=
   comp_loop (C:=C) (ownP scope) (fun g hg=>⟨(hasync g hg).1,(hasync g hg).2 _⟩) cs 0 c rfl (A:=A) (S:=S') (U:=U') (s:={s with heap:=h,toks:=t}) (Γ:=inner scope Γ) (md:=md) (xs:=xs) (f:=f) (I:=I) (D:=D) (fp:=fp) (P:=P) (St:=St) (ys:=[]) (n:=0) (outs:=[])
    Bad _ _ hr b.hh b.W b.st b.hP b.qu (hT L cells) b.bad b.bs b.bx b.ub b.sg b.fg b.fp b.ap b.at_ ⟨[],.nil,List.nodup_nil,fun ω h=>nomatch h⟩ (by simpa using hsz) fun h' t' ys' n' k1 k2 k3 k4 k5 k6 k7=>hR h' t' k1 k2 k3 k4 ⟨ys',n',k5,by simpa using k6⟩ k7
  exact compStart_gen (g:=c) rfl (hasync c List.mem_cons_self).1 main (b.W.self 0 _ _ _ b.st main)
 ·obtain⟨ys',n',hD',hys'⟩:=hacc
  refine hq L D h' t' m' g1 g2 g3 ex (fun n₂ vs₂ hD₂=>?_) ⟨_,_,hD'⟩ lowD lowL hm'
  rw[hD']at hD₂
  have hvs:vs₂=ys':=by
   injection hD₂ with e;injection e with _ _ e;injection e with e _
   have:=congrArg Array.toList e;simpa using this.symm
  subst hvs
  obtain⟨fps,f1,f2,f3⟩:=hys'
  have nL:∀a,¬Bad a->a≠L:=fun a hb e=>hb (e▸hbL)
  have nD:∀a,¬Bad a->a≠D:=fun a hb e=>hb (e▸hbD)
  exact⟨fps,f1.mono (fun a ha=>⟨ha.1,ha.2.1,nL a ha.2.2,nD a ha.2.2⟩) (fun ω ω ω e=>e) (fun ω ω ω e=>e),List.nodup_cons.mpr ⟨fun hm=>nD D (f3 D hm).2.2 rfl,f2⟩,fun a ha=>⟨(f3 a ha).1,(f3 a ha).2.1,nL a (f3 a ha).2.2⟩⟩
noncomputable def EvC(C:Cx)(env:Env)(Γ:Gam)(e:Expr)(dp:Nat)(out:List PV):Prop:=
 ∃elt c cs scope pos,e= .ListComp elt (c::cs) scope pos∧c.is_async=0∧∀ (p:Pos) (use:Option (Value->Sem Unit)) (A:Around) (S U:Addr->Prop) (s:Shared) (Q:Value->Shared->Prop) (E:Value->Shared->Prop),Room C A->Here C A S U env Γ s.heap->
  (∀L D h' t' m,s.heap.get? L=none->L≠D->s.heap.get? D=none->Ext A env s.heap h'->(∀n vs,h'.get? D=some (lob vs n)->∃fps,OwnTs C (fun a=>dp=0∧(S a∨s.heap.get? a=none)∧a≠L∧a≠D) h' dp vs out fps∧(D::fps).Nodup∧∀a∈fps,s.heap.get? a=none∧mainGlobals<a∧a≠L)->(∃n vs,h'.get? D=some (lob vs n))->mainGlobals<D->mainGlobals<L->h'.Ns L m->
   compPost (model C.prog C.w) A E use Q (.ref D) L (.ok .next) {s with heap:=h',toks:=t'})->
  wpAny (model C.prog C.w) A (comprehension e scope env p (newList []) false (eval c.iter env) use) Q E s
theorem EvC.k{e:Expr}{dp:Nat}{out:List PV}(h:EvC C env Γ e dp out):EvK C env Γ e (dp+1) (.list out):=by
 obtain⟨elt,c,cs,scope,pos,rfl,ha,h⟩:=h
 intro A S U s Q E hr hh hq
 have ha':(c.is_async !=0)=false:=by rw[ha];rfl
 obtain⟨tgt,it,ifs,as⟩:=c
 show wpAny _ A (comprehension (.ListComp elt (⟨tgt,it,ifs,as⟩::cs) scope pos) scope env _ (newList []) (as !=0) (eval it env)) Q E s
 rw[ha']
 refine h _ none A S U s Q E hr hh fun L D h' t' m hL hLD hD ex rd hob hlow hlowL hm=>⟨m,hm,fun h'' hs''=>?_⟩
 obtain⟨n,vs,hob⟩:=hob
 obtain⟨fps,g1,g2,g3⟩:=rd n vs hob
 have kk:∀a o,a≠L->h'.get? a=some o->h''.get? a=some o:=fun a o ha ho=>(hs''.2 a ha).trans ho
 have hsw:Ext A env s.heap h'':=ex.sameBut hs'' hL (by
  rintro rfl
  obtain⟨m0,o,_,_,ho,_⟩:=hh.eok.ns
  rw[hL]at ho;cases ho)
 refine hq _ h'' t' (D::fps) hsw (.list (kk D _ (Ne.symm hLD) hob) ?_) g2 (fun a ha=>?_)
 ·have hfp:dp=0->fps=[]:=fun hz=>OwnTs.nil_of hz g1
  refine g1.strong.mono (fun a ha=>⟨ha.1.2.1,?_⟩) (fun a o ha ho=>kk a o ha.1.2.2.1 ho) fun a ha o ho=>kk a o (g3 a ha).2.2 ho
  rw[hfp ha.1.1]
  simpa using ha.1.2.2.2
 ·rcases List.mem_cons.mp ha with rfl|ha
  ·exact⟨hD,hlow⟩
  ·exact⟨(g3 a ha).1,(g3 a ha).2.1⟩
theorem EvC.ev{e:Expr}{out:List PV}(h:EvC C env Γ e 0 out){md:Bool}:Ev C env Γ e md (.list out):=Ev.uns fun A S U s Q E hr hh hq=>
 h.k A S U s Q E hr hh fun v h' t' f ex r ω hf=>hq v h' t' ex (r.rd (fun a ha=>ha.1) fun a ha=>.inr (hf a ha).1)
theorem EvC.ev1{e:Expr}{out:List PV}(h:EvC C env Γ e 1 out){md:Bool}:Ev C env Γ e md (.list out):=Ev.uns fun A S U s Q E hr hh hq=>
 h.k A S U s Q E hr hh fun v h' t' f ex r ω hf=>hq v h' t' ex (r.rd (fun a ha=>ha.1) fun a ha=>.inr (hf a ha).1)
theorem EvC.mk{dp:Nat}{elt:Expr}{scope:Scope}{pos:Pos}{c:Comprehension}{cs:List Comprehension}{md:Bool}{xs:List PV}{f:Nat->List PV}
  (hasync:∀g∈c::cs,g.is_async=0∧∀env x,foldedSetIterable g.iter env x=pure x) (hs:ScopeOk scope env) (h1:EvI C env Γ c.iter md xs)
  (hT:∀L cells,Tn C (CE scope env L cells) (ownP scope) elt dp c cs (inner scope Γ) md xs f) (hsz:((List.range xs.length).flatMap f).length≤2^24):
  EvC C env Γ (.ListComp elt (c::cs) scope pos) dp ((List.range xs.length).flatMap f):=
 ⟨elt,c,cs,scope,pos,rfl,(hasync c List.mem_cons_self).1,fun p use A S U s Q E hr hh hq=>comp_core hasync hs h1 hT hsz hr hh hq⟩
end
noncomputable def scopeFits(outer inner:Scope):Bool:=
 inner.kind== .function&&decide (inner.names.map (·.1)).Nodup&&inner.names.all (fun x=>x.1 !=("__classdict__":Str))&&
 inner.names.all (fun x=>x.2 != .free||(outer.names.lookup x.1==some .cell||outer.names.lookup x.1==some .free))
theorem ScopeOk.of{outer scope:Scope}{env:Env}(h:scopeFits outer scope=true)(hk:∀x,(outer.names.lookup x=some .cell∨outer.names.lookup x=some .free)->env.kindOf x=some .cell∨env.kindOf x=some .free):ScopeOk scope env:=by
 simp only[scopeFits,Bool.and_eq_true,beq_iff_eq,decide_eq_true_eq,List.all_eq_true,bne_iff_ne,ne_eq,Bool.or_eq_true]at h
 refine⟨h.1.1.1,h.1.1.2,fun x hx hf=>hk x.1 ?_,fun x hx=>h.1.2 x hx⟩
 rcases h.2 x hx with h1|h1
 ·exact absurd hf h1
 ·exact h1
theorem ScopeOk.base{scope:Scope}{env:Env}(h:scopeFits env.scope scope=true):ScopeOk scope env:=.of h fun ω h=>h
section
variable{C:Cx}{A:Around}{env:Env}{Γ:Gam}{α β:Type}
theorem flatMap_range_get(L:List α)(F:α->List β):((List.range L.length).flatMap fun i=>match L[i]? with|some a=>F a|none=>[])=L.flatMap F:=by
 induction L with
 |nil=>rfl
 |cons a r ih=>
  rw[List.length_cons,List.range_succ_eq_map,List.flatMap_cons,List.flatMap_map]
  simp only[List.getElem?_cons_zero,List.getElem?_cons_succ,List.flatMap_cons]
  rw[ih]
noncomputable def TurnOk(C:Cx)(env:Env)(own:Str->Prop)(elt:Expr)(dp:Nat)(c:Comprehension)(cs:List Comprehension)(Γ:Gam)(md:Bool)(x:PV)(out:List PV):Prop:=
 ∃ns Γ' b,Asg C env Γ c.target md x ns Γ'∧Gle Γ Γ'∧(∀y∈ns,own y∧∀e,Γ.lookup y≠some (some e))∧EvT C env Γ' c.ifs b∧(b=true->Cl C env own elt dp cs Γ' out)∧(b=false->out=[])
theorem Tn.typed{dp:Nat}{own:Str->Prop}{elt:Expr}{c:Comprehension}{cs:List Comprehension}{md:Bool}{L:List α}{g:α->PV}{F:α->List PV}(h:∀a∈L,TurnOk C env own elt dp c cs Γ md (g a) (F a)):
  Tn C env own elt dp c cs Γ md (L.map g) fun i=>match L[i]? with|some a=>F a|none=>[]:=fun i x hx=>by
 rw[List.getElem?_map]at hx
 cases hl:L[i]? with
 |none=>rw[hl]at hx;cases hx
 |some a=>
  rw[hl]at hx
  cases hx
  simp only[hl]
  exact h a (List.mem_of_getElem? hl)
theorem Cl.typed{dp:Nat}{own:Str->Prop}{elt:Expr}{c:Comprehension}{cs:List Comprehension}{md:Bool}{L:List α}{g:α->PV}{F:α->List PV}(h1:EvI C env Γ c.iter md (L.map g))
  (h:∀a∈L,TurnOk C env own elt dp c cs Γ md (g a) (F a)):Cl C env own elt dp (c::cs) Γ (L.flatMap F):=
 ⟨md,L.map g,_,h1,Tn.typed h,by rw[List.length_map,flatMap_range_get]⟩
theorem Cl.emit{dp:Nat}{own:Str->Prop}{elt:Expr}{x:PV}(h:EvE C env Γ elt dp x):Cl C env own elt dp [] Γ [x]:=⟨x,rfl,h⟩
theorem TurnOk.name{dp:Nat}{scope:Scope}{elt:Expr}{x:Str}{px:Pos}{iter:Expr}{ifs:List Expr}{k:Int}{cs:List Comprehension}{md:Bool}{v:PV}{b:Bool}{out:List PV}{L:Addr}{cells:List (Str×Addr)}
  (hown:scope.names.lookup x=some .local∨scope.names.lookup x=some .cell) (hΓ:Γ.lookup x=some none) (hT:EvT C (CE scope env L cells) ((x,some (bn md,v))::Γ) ifs b)
  (hy:b=true->Cl C (CE scope env L cells) (ownP scope) elt dp cs ((x,some (bn md,v))::Γ) out) (hn:b=false->out=[]) (hcd:x≠"__classdict__":=by decide):
  TurnOk C (CE scope env L cells) (ownP scope) elt dp ⟨.Name x px,iter,ifs,k⟩ cs Γ md v out:=
 ⟨[x],_,b,Asg.name (CE_local hown) hcd,Gle.cons (.inl hΓ),fun y hy=>by
  rcases List.mem_singleton.mp hy with rfl
  exact⟨hown,fun e he=>by rw[hΓ]at he;cases he⟩,hT,hy,hn⟩
theorem EvC.lc{dp:Nat}{elt:Expr}{scope:Scope}{pos:Pos}{c:Comprehension}{cs:List Comprehension}{md:Bool}{L:List α}{g:α->PV}{F:α->List PV}
  (h1:EvI C env Γ c.iter md (L.map g)) (hs:ScopeOk scope env) (hT:∀D cells,∀a∈L,TurnOk C (CE scope env D cells) (ownP scope) elt dp c cs (inner scope Γ) md (g a) (F a))
  (hasync:∀g∈c::cs,g.is_async=0∧∀env x,foldedSetIterable g.iter env x=pure x) (hsz:(L.flatMap F).length≤2^24):
  EvC C env Γ (.ListComp elt (c::cs) scope pos) dp (L.flatMap F):=by
 have e:((List.range (L.map g).length).flatMap fun i=>match L[i]? with|some a=>F a|none=>[])=L.flatMap F:=by rw[List.length_map,flatMap_range_get]
 rw[←e]
 exact EvC.mk hasync hs h1 (fun D cells=>Tn.typed (hT D cells)) (by rw[e];exact hsz)
theorem flatMap_single(L:List α)(h:α->β):(L.flatMap fun a=>[h a])=L.map h:=by
 induction L with
 |nil=>rfl
 |cons a r ih=>rw[List.flatMap_cons,ih];rfl
theorem flatMap_if(L:List α)(p:α->Bool)(h:α->β):(L.flatMap fun a=>if p a then [h a]else [])=(L.filter p).map h:=by
 induction L with
 |nil=>rfl
 |cons a r ih=>
  rw[List.flatMap_cons,ih,List.filter_cons]
  cases p a<;>simp
theorem async1{t i:Expr}{ifs:List Expr}(h:∀env x,foldedSetIterable i env x=pure x):∀g∈[(⟨t,i,ifs,0⟩:Comprehension)],g.is_async=0∧∀env x,foldedSetIterable g.iter env x=pure x:=fun g hg=>by
 rcases List.mem_singleton.mp hg with rfl
 exact⟨rfl,h⟩
theorem async2{t i t' i':Expr}{ifs ifs':List Expr}(h:∀env x,foldedSetIterable i env x=pure x)(h':∀env x,foldedSetIterable i' env x=pure x):∀g∈[(⟨t,i,ifs,0⟩:Comprehension),⟨t',i',ifs',0⟩],g.is_async=0∧∀env x,foldedSetIterable g.iter env x=pure x:=fun g hg=>by
 simp only[List.mem_cons,List.not_mem_nil,or_false]at hg
 rcases hg with rfl|rfl
 ·exact⟨rfl,h⟩
 ·exact⟨rfl,h'⟩
theorem EvC.map{dp:Nat}{elt:Expr}{scope:Scope}{pos:Pos}{x:Str}{px:Pos}{iter:Expr}{md:Bool}{L:List α}{g h:α->PV}
  (h1:EvI C env Γ iter md (L.map g)) (hs:ScopeOk scope env) (hown:scope.names.lookup x=some .local∨scope.names.lookup x=some .cell) (hΓ:(inner scope Γ).lookup x=some none)
  (he:∀D cells,∀a∈L,EvE C (CE scope env D cells) ((x,some (bn md,g a))::inner scope Γ) elt dp (h a)) (hsz:L.length≤lim)
  (hcd:x≠"__classdict__":=by decide) (hf:∀env x,foldedSetIterable iter env x=pure x:=by intro _ _;rfl):
  EvC C env Γ (.ListComp elt [⟨.Name x px,iter,[],0⟩] scope pos) dp (L.map h):=by
 rw[←flatMap_single]
 refine EvC.lc h1 hs (fun D cells a ha=>TurnOk.name hown hΓ EvT.nil (fun ω=>Cl.emit (he D cells a ha)) (fun h=>by cases h) hcd) (async1 hf) ?_
 rw[flatMap_single,List.length_map];unfold lim at hsz;omega
theorem EvC.filter{dp:Nat}{elt:Expr}{scope:Scope}{pos:Pos}{x:Str}{px:Pos}{iter test:Expr}{md:Bool}{L:List α}{g h:α->PV}{p:α->Bool}
  (h1:EvI C env Γ iter md (L.map g)) (hs:ScopeOk scope env) (hown:scope.names.lookup x=some .local∨scope.names.lookup x=some .cell) (hΓ:(inner scope Γ).lookup x=some none)
  (ht:∀D cells,∀a∈L,EvB C (CE scope env D cells) ((x,some (bn md,g a))::inner scope Γ) test (p a))
  (he:∀D cells,∀a∈L,p a=true->EvE C (CE scope env D cells) ((x,some (bn md,g a))::inner scope Γ) elt dp (h a)) (hsz:L.length≤lim)
  (hcd:x≠"__classdict__":=by decide) (hf:∀env x,foldedSetIterable iter env x=pure x:=by intro _ _;rfl):
  EvC C env Γ (.ListComp elt [⟨.Name x px,iter,[test],0⟩] scope pos) dp ((L.filter p).map h):=by
 rw[←flatMap_if]
 refine EvC.lc h1 hs (fun D cells a ha=>TurnOk.name (b:=p a) hown hΓ (EvT.one (ht D cells a ha)) (fun hb=>by rw[hb];exact Cl.emit (he D cells a ha hb)) (fun hb=>by rw[hb];rfl) hcd) (async1 hf) ?_
 rw[flatMap_if,List.length_map]
 have:=List.length_filter_le p L
 unfold lim at hsz;omega
theorem EvB.val{e:Expr}{md:Bool}{b:Bool}(h:Ev C env Γ e md (.bool b))(hi:∀env whole,isTrue e env whole=(do let v ←whole;standAt e.pos;holding [v] (truthy v)):=by intro _ _;rfl):EvB C env Γ e b:=fun A S U s Q E hr hh hq=>
 wpAny_isTrue_value (h A S U s _ E hr hh fun v h' t' e rd=>by
  cases rd.bool_inv
  exact wpAny_truthy_bool (hq h' t' e)) (hi _ _)
noncomputable def EvBL(C:Cx)(env:Env)(Γ:Gam)(op:BoolOp)(es:List Expr)(b:Bool):Prop:=
 ∀ (A:Around) (S U:Addr->Prop) (s:Shared) (Q:Bool->Shared->Prop) (E:Value->Shared->Prop),Room C A->Here C A S U env Γ s.heap->
  (∀h' t',Ext A env s.heap h'->Q b {s with heap:=h',toks:=t'})->wpAny (model C.prog C.w) A (allTrue op es env) Q E s
theorem EvBL.and_nil:EvBL C env Γ .And [] true:=fun A S U s Q E hr hh hq=>wpAny_allTrue_And_nil (hq s.heap s.toks (.refl _ _ _))
theorem EvBL.or_nil:EvBL C env Γ .Or [] false:=fun A S U s Q E hr hh hq=>wpAny_allTrue_Or_nil (hq s.heap s.toks (.refl _ _ _))
theorem EvBL.and{x:Expr}{es:List Expr}{a b:Bool}(h1:EvB C env Γ x a)(h2:a=true->EvBL C env Γ .And es b):EvBL C env Γ .And (x::es) (a&&b):=fun A S U s Q E hr hh hq=>
 wpAny_allTrue_And_cons (h1 A S U s _ E hr hh fun h' t' e=>by
  cases a with
  |true=>exact h2 rfl A S U _ _ E hr (hh.ext e) fun h'' t'' e'=>hq h'' t'' (e.trans e')
  |false=>exact hq h' t' e)
theorem EvBL.or{x:Expr}{es:List Expr}{a b:Bool}(h1:EvB C env Γ x a)(h2:a=false->EvBL C env Γ .Or es b):EvBL C env Γ .Or (x::es) (a||b):=fun A S U s Q E hr hh hq=>
 wpAny_allTrue_Or_cons (h1 A S U s _ E hr hh fun h' t' e=>by
  cases a with
  |true=>exact hq h' t' e
  |false=>exact h2 rfl A S U _ _ E hr (hh.ext e) fun h'' t'' e'=>hq h'' t'' (e.trans e'))
theorem EvB.bools{op:BoolOp}{es:List Expr}{p:Pos}{b:Bool}(h:EvBL C env Γ op es b):EvB C env Γ (.BoolOp op es p) b:=fun A S U s Q E hr hh hq=>
 wpAny_isTrue_BoolOp (h A S U s Q E hr hh hq)
theorem EvB.and2{x y:Expr}{p:Pos}{a b:Bool}(h1:EvB C env Γ x a)(h2:a=true->EvB C env Γ y b):EvB C env Γ (.BoolOp .And [x,y] p) (a&&b):=by
 have:=EvB.bools (p:=p) (EvBL.and h1 fun ha=>EvBL.and (h2 ha) fun ω=>EvBL.and_nil)
 simpa using this
theorem EvB.or2{x y:Expr}{p:Pos}{a b:Bool}(h1:EvB C env Γ x a)(h2:a=false->EvB C env Γ y b):EvB C env Γ (.BoolOp .Or [x,y] p) (a||b):=by
 have:=EvB.bools (p:=p) (EvBL.or h1 fun ha=>EvBL.or (h2 ha) fun ω=>EvBL.or_nil)
 simpa using this
theorem Ev.ite{t x y:Expr}{p:Pos}{md:Bool}{b:Bool}{f:α->PV}{u v:α}(ht:EvB C env Γ t b)(hx:b=true->Ev C env Γ x md (f u))(hy:b=false->Ev C env Γ y md (f v)):Ev C env Γ (.IfExp t x y p) md (f (if b then u else v)):=fun A S U s Q E hr hh hq=>
 wpAny_IfExp (ht A S U s _ E hr hh fun h' t' e=>by
  cases b with
  |true=>exact hx rfl A S U _ Q E hr (hh.ext e) fun v h'' t'' e' rd=>hq v h'' t'' (e.trans e') (rd.mono (fun a ha=>ha.imp id (e.fresh hh.eok.ns)) fun ω ω ω z=>z)
  |false=>exact hy rfl A S U _ Q E hr (hh.ext e) fun v h'' t'' e' rd=>hq v h'' t'' (e.trans e') (rd.mono (fun a ha=>ha.imp id (e.fresh hh.eok.ns)) fun ω ω ω z=>z))
theorem Ev.neg{e:Expr}{p:Pos}{md m1:Bool}{i:Int}(h:Ev C env Γ e m1 (.int i)):Ev C env Γ (.UnaryOp .USub e p) md (.int (-i)):=fun A S U s Q E hr hh hq=>
 wpAny_UnaryOp (h A S U s _ E hr hh fun v h' t' e rd=>by
  obtain⟨t,rfl⟩:=rd.int_inv
  exact PyProof.Rows.neg_int (hq _ h' _ e (.int _ _)))
end
noncomputable abbrev SGam:=List (Str×Option (Nat×PV))
noncomputable def frameAt(A:Around)(env:Env)(a:Addr):Prop:=Fz A env a∨∃x,env.cells.lookup x=some a
structure At(C:Cx)(A:Around)(env:Env)(S:Addr->Prop)(fp:Str->List Addr)(Γ:SGam)(h:Heap):Prop where
 cx:C.Ok
 base:Base C h
 eok:EnvOk C h env
 fra:Fra C A h
 sold:∀a,S a->(h.get? a).isSome=true∧¬frameAt A env a∧∀x,a∉fp x
 disj:∀x y a,a∈fp x->a∈fp y->x=y
 ndup:∀x,(fp x).Nodup
 fold:∀x a,a∈fp x->(h.get? a).isSome=true∧¬frameAt A env a∧mainGlobals<a∧∀o,C.K.lookup a≠some o
 vars:∀x n pv,Γ.lookup x=some (some (n,pv))->isVar (env.kindOf x)=true∧∃v,VarAt h env x v∧OwnT C S h n v pv (fp x)
structure Org where
 S:Addr->Prop
 fp:Str->List Addr
 s:Shared
structure Step(A:Around)(env:Env)(o:Org)(S:Addr->Prop)(fp:Str->List Addr)(s:Shared):Prop where
 same:∃h t,s={o.s with heap:=h,toks:=t}
 grow:∀a,o.S a->S a
 newS:∀a,S a->o.S a∨(∃y,a∈o.fp y)∨o.s.heap.get? a=none
 newF:∀x a,a∈fp x->(∃y,a∈o.fp y)∨o.s.heap.get? a=none
 keep:∀a b,¬frameAt A env a->(∀y,a∉o.fp y)->o.s.heap.get? a=some b->s.heap.get? a=some b
 live:∀a,(o.s.heap.get? a).isSome=true->(s.heap.get? a).isSome=true
 fr:Sk A env o.s.heap s.heap
theorem Step.refl(A:Around)(env:Env)(S:Addr->Prop)(fp:Str->List Addr)(s:Shared):Step A env ⟨S,fp,s⟩ S fp s:=
 ⟨⟨s.heap,s.toks,rfl⟩,fun ω h=>h,fun ω h=>.inl h,fun x a h=>.inl ⟨x,h⟩,fun ω ω ω ω e=>e,fun ω h=>h,Sk.refl _⟩
theorem Step.trans{A:Around}{env:Env}{o:Org}{S S':Addr->Prop}{fp fp':Str->List Addr}{s s':Shared}(x:Step A env o S fp s)(y:Step A env ⟨S,fp,s⟩ S' fp' s'):Step A env o S' fp' s':=by
 have hf:∀a,s.heap.get? a=none->o.s.heap.get? a=none:=fun a ha=>by
  cases hq:o.s.heap.get? a with
  |none=>rfl
  |some b=>have:=x.live a (by rw[hq];rfl);rw[ha]at this;cases this
 obtain⟨h,t,e⟩:=x.same
 obtain⟨h',t',e'⟩:=y.same
 have e'':s'={s with heap:=h',toks:=t'}:=e'
 refine⟨⟨h',t',by rw[e'',e]⟩,fun a ha=>y.grow a (x.grow a ha),fun a ha=>?_,fun z a ha=>?_,fun a b hF hn ho=>?_,fun a ha=>y.live a (x.live a ha),x.fr.trans y.fr⟩
 ·rcases y.newS a ha with h|⟨z,h⟩|h
  ·exact x.newS a h
  ·exact .inr (x.newF z a h)
  ·exact .inr (.inr (hf a h))
 ·rcases y.newF z a ha with⟨w,h⟩|h
  ·exact x.newF w a h
  ·exact .inr (hf a h)
 ·refine y.keep a b hF (fun w hw=>?_) (x.keep a b hF hn ho)
  rcases x.newF w a hw with⟨v,h⟩|h
  ·exact hn v h
  ·rw[ho]at h;cases h
inductive AtO(C:Cx)(A:Around)(env:Env)(o:Org)(Γ:SGam)(s:Shared):Prop
 |mk (S:Addr->Prop) (fp:Str->List Addr):At C A env S fp Γ s.heap->Step A env o S fp s->AtO C A env o Γ s
theorem AtO.of{C:Cx}{A:Around}{env:Env}{o:Org}{Γ:SGam}{s:Shared}{S:Addr->Prop}{fp:Str->List Addr}(h:At C A env S fp Γ s.heap∧Step A env o S fp s):AtO C A env o Γ s:=⟨S,fp,h.1,h.2⟩
noncomputable def Sle(Γ Γ':SGam):Prop:=∀y e,Γ.lookup y=some (some e)->Γ'.lookup y=some (some e)
theorem AtO.weak{C:Cx}{A:Around}{env:Env}{o:Org}{Γ Γ':SGam}{s:Shared}(x:AtO C A env o Γ' s)(h:Sle Γ Γ'):AtO C A env o Γ s:=
 x.casesOn fun S fp a b=>⟨S,fp,{cx:=a.cx,base:=a.base,eok:=a.eok,fra:=a.fra,sold:=a.sold,disj:=a.disj,ndup:=a.ndup,fold:=a.fold,vars:=fun y n pv hy=>a.vars y n pv (h y _ hy)},b⟩
noncomputable abbrev evG(Γ:SGam):Gam:=Γ
section
variable{C:Cx}{A:Around}{env:Env}{S:Addr->Prop}{fp:Str->List Addr}{Γ:SGam}{h:Heap}
noncomputable def oldU(A:Around)(env:Env)(h:Heap)(a:Addr):Prop:=(h.get? a).isSome=true∧¬frameAt A env a
theorem OwnT.own1{C:Cx}{S U:Addr->Prop}{h:Heap}{v:Value}{x:PV}{fp:List Addr}(hf:∀a∈fp,U a)(r:OwnT C S h 1 v x fp):Own1 C S U h v x:=by
 cases r with
 |list ho rs=>exact⟨_,_,_,rfl,hf _ List.mem_cons_self,ho,(OwnTs.to_rd rs).1⟩
 |dict hl hd rs=>exact⟨_,_,rfl,hf _ List.mem_cons_self,hl,hd,(OwnTs.to_rd rs).1⟩
 |srt hs=>trivial
 |sorter hs e=>trivial
 |set hs hn=>trivial
 |nxt h1 h2 h3=>trivial
theorem At.here(x:At C A env S fp Γ h):Here C A S (oldU A env h) env (evG Γ) h where
 cx:=x.cx
 base:=x.base
 eok:=x.eok
 fra:=x.fra
 sub:=fun a ha=>⟨(x.sold a ha).1,(x.sold a ha).2.1⟩
 old:=fun a ha=>⟨ha.1,fun e=>ha.2 (.inl e),fun y c hc e=>ha.2 (.inr ⟨y,by rw[e];exact hc⟩)⟩
 has:=fun y n pv hl hv=>by
  obtain⟨_,v,h2,h3⟩:=x.vars y n pv hl
  have hSU:∀a,S a->oldU A env h a:=fun a ha=>⟨(x.sold a ha).1,(x.sold a ha).2.1⟩
  have hfU:∀a∈fp y,oldU A env h a:=fun a ha=>⟨(x.fold y a ha).1,(x.fold y a ha).2.1⟩
  refine⟨v,h2,?_,fun hn=>?_⟩
  ·cases n with
   |zero=>exact h3.zero.1
   |succ n=>exact h3.rd hSU hfU
  ·subst hn;exact h3.own1 hfU
theorem At.ext{h':Heap}(x:At C A env S fp Γ h)(e:Ext A env h h')(N:Addr->Prop)(hN:∀a,N a->h.get? a=none∧(h'.get? a).isSome=true):At C A env (fun a=>S a∨N a) fp Γ h' where
 cx:=x.cx
 base:=x.base.ext e x.fra x.eok
 eok:=x.eok.ext x.fra e
 fra:=x.fra.ext x.eok.ns e
 sold:=fun a ha=>by
  rcases ha with ha|ha
  ·obtain⟨h1,h2,h3⟩:=x.sold a ha
   exact⟨e.live x.eok.ns h1,h2,h3⟩
  ·obtain⟨h1,h2⟩:=hN a ha
   refine⟨h2,fun hf=>?_,fun y hy=>?_⟩
   ·rcases hf with hz|⟨y,hc⟩
    ·have:=Fz.there x.here hz
     rw[h1]at this;cases this
    ·obtain⟨v,o,ho,_⟩:=x.eok.call y a hc
     rw[h1]at ho;cases ho
   ·have:=(x.fold y a hy).1
    rw[h1]at this;cases this
 disj:=x.disj
 ndup:=x.ndup
 fold:=fun y a ha=>⟨e.live x.eok.ns (x.fold y a ha).1,(x.fold y a ha).2⟩
 vars:=fun y n pv hy=>by
  obtain⟨h0,v,h1,h2⟩:=x.vars y n pv hy
  exact⟨h0,v,h1.ext x.eok x.fra e,h2.mono (fun ω z=>.inl z) (fun a o ha ho=>e.keep a o (fun q=>(x.sold a ha).2.1 (.inl q)) ho) fun a ha o ho=>e.keep a o (fun q=>(x.fold y a ha).2.1 (.inl q)) ho⟩
end
section
variable{C:Cx}{A:Around}{env:Env}{S:Addr->Prop}{fp:Str->List Addr}{Γ:SGam}{h h₁ h₂:Heap}
theorem Base.move(hb:Base C h)(B:Addr->Prop)(hk:∀a o,¬B a->h.get? a=some o->h₁.get? a=some o)(hB:∀a,B a->mainGlobals<a∧∀o,C.K.lookup a≠some o):Base C h₁:=by
 have kNs:∀ {a:Addr} {m},a≤mainGlobals->h.Ns a m->h₁.Ns a m:=fun{a m} ha hn=>by
  obtain⟨o,es,ep,ho,r⟩:=hn
  exact⟨o,es,ep,hk a o (fun hb=>absurd ha (Nat.not_le.mpr (hB a hb).1)) ho,r⟩
 refine⟨fun a o e=>hk a o (fun hb=>(hB a hb).2 o e) (hb.kin a o e),?_,?_,?_⟩
 ·obtain⟨mc,h1,h2⟩:=hb.nolimit
  exact⟨mc,kNs (by decide) h1,h2⟩
 ·obtain⟨mb,h1,h2⟩:=hb.bns
  exact⟨mb,kNs (by decide) h1,h2⟩
 ·obtain⟨mc,h1,h2⟩:=hb.nodigits
  exact⟨mc,kNs (by decide) h1,h2⟩
theorem EnvOk.frame_high(ek:EnvOk C h env)(fx:Fra C A h):∀a,frameAt A env a->mainGlobals<a∧∀o,C.K.lookup a≠some o:=fun a ha=>by
 rcases ha with hz|⟨y,hc⟩
 ·exact⟨(fx.low ek hz).2,fun o ho=>Nat.lt_irrefl _ ((fx.low ek hz).1 a o ho)⟩
 ·exact⟨(ek.chigh y a hc).1,fun o ho=>(ek.chigh y a hc).2 a o ho rfl⟩
theorem EnvOk.frame_there(ek:EnvOk C h env)(fx:Fra C A h):∀a,frameAt A env a->(h.get? a).isSome=true:=fun a ha=>by
 rcases ha with hz|⟨y,hc⟩
 ·exact Nsf.there ⟨ek.ns,fx⟩ hz
 ·obtain⟨v,o,ho,_⟩:=ek.call y a hc;rw[ho];rfl
theorem Keepx.sk{ns:List Str}(kx:Keepx env ns h h₁)(ek:EnvOk C h env)(fx:Fra C A h):Sk A env h h₁:=.of_keep fun a o hs hl ho=>kx.keep a o hl (fun y ω hc=>by
 obtain⟨u,o2,ho2,hd2⟩:=ek.call y a hc
 exact fx.ne ho2 (by rw[hd2];nofun) hs) ho
theorem Keepx.off{ns:List Str}(kx:Keepx env ns h h₁):∀a o,¬frameAt A env a->h.get? a=some o->h₁.get? a=some o:=fun a o ha ho=>
 kx.keep a o (fun e=>ha (.inl (.inl e))) (fun y ω hc=>ha (.inr ⟨y,hc⟩)) ho
theorem At.put(hA:At C A env S fp Γ h)(e:Ext A env h h₁)(X:Addr->Prop){x:Str}{n:Nat}{v:Value}{pv:PV}{f:List Addr}{R:Addr->Prop}(r:OwnT C R h₁ n v pv f)
  (hR:∀a,R a->(h₁.get? a).isSome=true->(S a∨(h.get? a=none∧¬X a))∧a∉f) (hnd:f.Nodup) (hf:∀a∈f,h.get? a=none∧mainGlobals<a) (hk:isVar (env.kindOf x)=true)
  (ek:EnvOk C h₂ env) (hx:VarAt h₂ env x v) (hy:∀y u,y≠x->VarAt h₁ env y u->VarAt h₂ env y u) (kx:Keepx env [x] h₁ h₂):
  At C A env (fun a=>S a∨(h.get? a=none∧(h₁.get? a).isSome=true∧a∉f∧¬X a)) (fun y=>if y=x then f else fp y) ((x,some (n,pv))::Γ) h₂:=by
 have nF:∀a,h.get? a=none->¬frameAt A env a:=fun a ha hfr=>by
  have:=hA.eok.frame_there hA.fra a hfr;rw[ha]at this;cases this
 have live:∀a,(h.get? a).isSome=true->(h₂.get? a).isSome=true:=fun a ha=>kx.live a (e.live hA.eok.ns ha)
 have nFp:∀a y,h.get? a=none->a∉fp y:=fun a y ha hm=>by
  have:=(hA.fold y a hm).1;rw[ha]at this;cases this
 have k12:∀a o,¬frameAt A env a->h₁.get? a=some o->h₂.get? a=some o:=kx.off
 have e1:=hA.eok.ext hA.fra e
 have f1:=hA.fra.ext hA.eok.ns e
 refine{cx:=hA.cx,base:=(hA.base.ext e hA.fra hA.eok).move (frameAt A env) k12 (e1.frame_high f1),eok:=ek,fra:=f1.sk ek.ns (kx.sk e1 f1),sold:=fun a ha=>?_,disj:=fun y z a hy hz=>?_,ndup:=fun y=>?_,fold:=fun y a ha=>?_,vars:=fun y m q hl=>?_}
 ·rcases ha with ha|⟨h1,h2,h3,_⟩
  ·obtain⟨g1,g2,g3⟩:=hA.sold a ha
   refine⟨live a g1,g2,fun y hm=>?_⟩
   by_cases hyx:y=x
   ·simp only[hyx,if_true]at hm
    rw[(hf a hm).1]at g1;cases g1
   ·simp only[hyx,if_false]at hm
    exact g3 y hm
  ·refine⟨kx.live a h2,nF a h1,fun y hm=>?_⟩
   by_cases hyx:y=x
   ·simp only[hyx,if_true]at hm
    exact h3 hm
   ·simp only[hyx,if_false]at hm
    exact nFp a y h1 hm
 ·by_cases h1:y=x<;>by_cases h2:z=x
  ·rw[h1,h2]
  ·simp only[h1,h2,if_true,if_false]at hy hz
   exact absurd hz (nFp a z (hf a hy).1)
  ·simp only[h1,h2,if_true,if_false]at hy hz
   exact absurd hy (nFp a y (hf a hz).1)
  ·simp only[h1,h2,if_false]at hy hz
   exact hA.disj y z a hy hz
 ·by_cases h1:y=x
  ·simp only[h1,if_true];exact hnd
  ·simp only[h1,if_false];exact hA.ndup y
 ·by_cases h1:y=x
  ·simp only[h1,if_true]at ha
   refine⟨kx.live a (r.there a ha),nF a (hf a ha).1,(hf a ha).2,fun o ho=>?_⟩
   have:=hA.base.kin a o ho
   rw[(hf a ha).1]at this;cases this
  ·simp only[h1,if_false]at ha
   exact⟨live a (hA.fold y a ha).1,(hA.fold y a ha).2⟩
 ·rw[List.lookup_cons]at hl
  cases hb:y==x with
  |true=>
   rw[hb]at hl;cases hl
   have hyx:y=x:=beq_iff_eq.mp hb
   subst hyx
   refine⟨hk,v,hx,?_⟩
   simp only[if_true]
   have nR:∀a,(R a∧(h₁.get? a).isSome=true)->¬frameAt A env a:=fun a ha=>by
    rcases(hR a ha.1 ha.2).1 with h|h
    ·exact(hA.sold a h).2.1
    ·exact nF a h.1
   refine r.strong.mono (fun a ha=>?_) (fun a o ha ho=>k12 a o (nR a ha) ho) fun a ha o ho=>k12 a o (nF a (hf a ha).1) ho
   obtain⟨h1,h2⟩:=hR a ha.1 ha.2
   rcases h1 with h1|h1
   ·exact .inl h1
   ·exact .inr ⟨h1.1,ha.2,h2,h1.2⟩
  |false=>
   rw[hb]at hl
   have hne:y≠x:=by simpa using hb
   obtain⟨h0,u,h1,h2⟩:=hA.vars y m q hl
   refine⟨h0,u,hy y u hne (h1.ext hA.eok hA.fra e),?_⟩
   simp only[hne,if_false]
   refine h2.mono (fun a ha=>.inl ha) (fun a o ha ho=>?_) fun a ha o ho=>?_
   ·have hn:=(hA.sold a ha).2.1
    exact k12 a o hn (e.keep a o (fun q=>hn (.inl q)) ho)
   ·have hn:=(hA.fold y a ha).2.1
    exact k12 a o hn (e.keep a o (fun q=>hn (.inl q)) ho)
theorem Step.put{s s':Shared}{o:Org}(hst:Step A env o S fp s)(hA:At C A env S fp Γ s.heap)(e:Ext A env s.heap h₁)(X:Addr->Prop){x:Str}{f:List Addr}(hf:∀a∈f,s.heap.get? a=none∧mainGlobals<a)
  (kx:Keepx env [x] h₁ h₂) (t':Nat):Step A env o (fun a=>S a∨(s.heap.get? a=none∧(h₁.get? a).isSome=true∧a∉f∧¬X a)) (fun y=>if y=x then f else fp y) {s with heap:=h₂,toks:=t'}:=by
 refine hst.trans ⟨⟨h₂,t',rfl⟩,fun a ha=>.inl ha,fun a ha=>?_,fun y a ha=>?_,fun a b hF hn ho=>?_,fun a ha=>kx.live a (e.live hA.eok.ns ha),e.fr.trans (kx.sk (hA.eok.ext hA.fra e) (hA.fra.ext hA.eok.ns e))⟩
 ·rcases ha with ha|ha
  ·exact .inl ha
  ·exact .inr (.inr ha.1)
 ·by_cases h1:y=x
  ·simp only[h1,if_true]at ha
   exact .inr (hf a ha).1
  ·simp only[h1,if_false]at ha
   exact .inl ⟨y,ha⟩
 ·exact kx.off a b hF (e.keep a b (fun q=>hF (.inl q)) ho)
theorem At.quiet(hA:At C A env S fp Γ h)(B:Addr->Prop)(hk:∀a o,¬B a->h.get? a=some o->h₁.get? a=some o)(hB:∀a,B a->mainGlobals<a∧(∀o,C.K.lookup a≠some o)∧¬S a∧¬frameAt A env a∧∀y,a∉fp y):At C A env S fp Γ h₁:=by
 have hL: ¬B env.locals:=fun h=>(hB _ h).2.2.2.1 (.inl (.inl rfl))
 have hc:∀x c,env.cells.lookup x=some c->¬B c:=fun x c hx h=>(hB _ h).2.2.2.1 (.inr ⟨x,hx⟩)
 have live:∀a,¬B a->(h.get? a).isSome=true->(h₁.get? a).isSome=true:=fun a hb ha=>by
  obtain⟨o,ho⟩:=Option.isSome_iff_exists.mp ha;rw[hk a o hb ho];rfl
 refine{cx:=hA.cx,base:=hA.base.move B hk fun a ha=>⟨(hB a ha).1,(hB a ha).2.1⟩,eok:=hA.eok.move B hk hL hc,fra:=hA.fra.sk (hA.eok.move B hk hL hc).ns (.of_keep fun a o hs ω ho=>hk a o (fun h=>(hB a h).2.2.2.1 (.inl (.inr hs))) ho),sold:=fun a ha=>?_,disj:=hA.disj,ndup:=hA.ndup,fold:=fun y a ha=>?_,vars:=fun y n pv hy=>?_}
 ·obtain⟨h1,h2⟩:=hA.sold a ha
  exact⟨live a (fun hb=>(hB a hb).2.2.1 ha) h1,h2⟩
 ·obtain⟨h1,h2⟩:=hA.fold y a ha
  exact⟨live a (fun hb=>(hB a hb).2.2.2.2 y ha) h1,h2⟩
 ·obtain⟨h0,v,h1,h2⟩:=hA.vars y n pv hy
  exact⟨h0,v,h1.move B hk hL hc,h2.mono (fun ω z=>z) (fun a o ha ho=>hk a o (fun hb=>(hB a hb).2.2.1 ha) ho) fun a ha o ho=>hk a o (fun hb=>(hB a hb).2.2.2.2 y ha) ho⟩
end
section
variable{C:Cx}{A:Around}{env:Env}{o:Org}{Γ:SGam}{s:Shared}{Q:Flow->Shared->Prop}{E:Value->Shared->Prop}{rest:List Stmt}
theorem wpAny_assignStores_one{M:Model}{A:Around}{E:Value->Shared->Prop}{s:Shared}{env:Env}{v:Value}{f:Value->Sem Unit}{Q:Flow->Shared->Prop}(h:wpAny M A (f v) (fun ω=>Q .next) E s):wpAny M A (assignStores env v none [f]) Q E s:=by
 show wpAny M A (do assignAll v [f];pure .next) Q E s
 exact wpAny_bind (show wpAny M A (f v) _ E s from wpAny_mono h (fun ω ω z=>wpAny_pure z) fun ω ω z=>z)
theorem St.store_own{x:Str}{n:Nat}{pv:PV}{e:Expr}{R:Unit->Shared->Prop}(hr:Room C A)(hA:AtO C A env o Γ s)(hE:EvK C env (evG Γ) e n pv)(hk:env.kindOf x=some .local∨env.kindOf x=some .cell)(hcd:x≠"__classdict__")
  (k:∀s',AtO C A env o ((x,some (n,pv))::Γ) s'->R () s'):
  wpAny (model C.prog C.w) A (eval e env) (fun v s₁=>wpAny (model C.prog C.w) A (storeName env x v) R E s₁) E s:=by
 obtain⟨S,fp,hA,hst⟩:=hA
 refine hE A S _ s _ E hr hA.here fun v h' t' f ex r hnd hf=>?_
 refine wpAny_storeVar (C:=C) (hA.eok.ext hA.fra ex) hk hcd fun h'' t'' ek h1 h2 kx ω=>?_
 have hkv:isVar (env.kindOf x)=true:=by rcases hk with h|h<;>rw[h]<;>rfl
 refine k _ ⟨_,_,hA.put ex (fun ω=>False) r (fun a ha hs=>⟨?_,ha.2⟩) hnd hf hkv ek h1 h2 kx,Step.put (s':=s) hst hA ex (fun ω=>False) hf kx t''⟩
 rcases ha.1 with h|h
 ·exact .inl h
 ·exact .inr ⟨h,fun h=>h⟩
theorem EvK.of_ev{e:Expr}{x:PV}{Γ:Gam}(h:Ev C env Γ e true x):EvK C env Γ e 0 x:=fun A S U s Q E hr hh hq=>
 h A S U s Q E hr hh fun v h' t' ex rd=>hq v h' t' [] ex (.val (rd.mono (fun a ha=>⟨ha,by simp⟩) fun ω ω ω z=>z)) List.nodup_nil (fun ω h=>nomatch h)
theorem St.assign{x:Str}{px pos:Pos}{e:Expr}{n:Nat}{pv:PV}(hr:Room C A)(hA:AtO C A env o Γ s)(hE:EvK C env (evG Γ) e n pv)(hk:env.kindOf x=some .local∨env.kindOf x=some .cell)
  (k:∀s',AtO C A env o ((x,some (n,pv))::Γ) s'->wpAny (model C.prog C.w) A (execs rest env) Q E s')
  (hcd:x≠"__classdict__":=by decide) (hs:swapsWith e (some (.Name x px)) pos.line env=pure false:=by rfl):
  wpAny (model C.prog C.w) A (execs (.Assign [.Name x px] e pos::rest) env) Q E s:=
 wpAny_execs_cons (wpAny_Assign_Name (St.store_own hr hA hE hk hcd k) hs)
theorem St.assign_lc{x:Str}{px pos:Pos}{e:Expr}{dp:Nat}{out:List PV}(hr:Room C A)(hA:AtO C A env o Γ s)(hE:EvC C env (evG Γ) e dp out)(hk:env.kindOf x=some .local∨env.kindOf x=some .cell)
  (k:∀s',AtO C A env o ((x,some (dp+1,.list out))::Γ) s'->wpAny (model C.prog C.w) A (execs rest env) Q E s')
  (hcd:x≠"__classdict__":=by decide):
  wpAny (model C.prog C.w) A (execs (.Assign [.Name x px] e pos::rest) env) Q E s:=by
 refine wpAny_execs_cons ?_
 obtain⟨elt,c,cs,scope,p,rfl,ha,hev⟩:=id hE
 rw[exec_Assign]
 refine wpAny_bind (wpAny_standAt ?_)
 have hsw:∃b:Bool,swapsWithSole [.Name x px] (.ListComp elt (c::cs) scope p) pos.line env=pure b:=⟨_,rfl⟩
 obtain⟨b,hb⟩:=hsw
 rw[hb]
 refine wpAny_bind (wpAny_pure ?_)
 cases b with
 |false=>
  simp only[Bool.false_eq_true,if_false]
  have:=St.store_own (E:=E) (R:=fun ω s'=>wpAny (model C.prog C.w) A (execs rest env) Q E s') hr hA hE.k hk hcd k
  refine wpAny_bind (wpAny_mono this (fun v s₁ h₁=>?_) fun ω ω h=>h)
  have hsn:swappedStores [.Name x px] (.ListComp elt (c::cs) scope p) env=pure none:=rfl
  rw[hsn]
  refine wpAny_bind (wpAny_pure ?_)
  refine wpAny_assignStores_one ?_
  exact wpAny_assign_Name h₁
 |true=>
  simp only[if_true]
  obtain⟨tgt,it,ifs,as⟩:=c
  have ha':(as !=0)=false:=by have:as=0:=ha;rw[this];rfl
  have hee:evalThenUse (.ListComp elt (⟨tgt,it,ifs,as⟩::cs) scope p) env (fun v=>assignAll v ((assignEach [.Name x px] env).map (·.2)))=
    (do let _ ←comprehension (.ListComp elt (⟨tgt,it,ifs,as⟩::cs) scope p) scope env (firstIterPos (⟨tgt,it,ifs,as⟩::cs) p) (newList []) (as !=0) (eval it env) (some fun v=>assignAll v ((assignEach [.Name x px] env).map (·.2)))):=rfl
  rw[hee,ha']
  obtain⟨S,fp,hA,hst⟩:=hA
  refine wpAny_bind (wpAny_bind ?_)
  refine hev _ _ A S _ s _ E hr hA.here fun L D h' t' m hL hLD hD ex rd hob hlow hlowL hm=>?_
  obtain⟨n,vs,hob⟩:=hob
  obtain⟨fps,g1,g2,g3⟩:=rd n vs hob
  show wpAny _ A (PySem.assign (Expr.Name x px) env (Value.ref D)) _ E _
  refine wpAny_assign_Name (wpAny_storeVar (C:=C) (hA.eok.ext hA.fra ex) hk hcd fun h'' t'' ek h1 h2 kx ω=>?_)
  have hkv:isVar (env.kindOf x)=true:=by rcases hk with h|h<;>rw[h]<;>rfl
  have hfp:dp=0->fps=[]:=fun hz=>OwnTs.nil_of hz g1
  have hfr:∀a,s.heap.get? a=none->¬frameAt A env a:=fun a ha hfr=>by
   have:=hA.eok.frame_there hA.fra a hfr;rw[ha]at this;cases this
  have hmL:h''.Ns L m:=by
   obtain⟨o',es,ep,ho',r'⟩:=hm
   exact⟨o',es,ep,kx.off L o' (hfr L hL) ho',r'⟩
  refine⟨m,hmL,fun h₃ hs₃=>?_⟩
  refine wpAny_pure (wpAny_pure ?_)
  have ownD:OwnT C (fun a=>(Reg true S (oldU A env s.heap) s.heap a∧a≠L)∧a∉D::fps) h' (dp+1) (.ref D) (.list out) (D::fps):=
   .list hob (g1.mono (fun a ha=>⟨⟨ha.2.1,ha.2.2.1⟩,by rw[hfp ha.1];simpa using ha.2.2.2⟩) (fun ω ω ω e=>e) fun ω ω ω e=>e)
  have hff:∀a∈D::fps,s.heap.get? a=none∧mainGlobals<a:=fun a ha=>by
   rcases List.mem_cons.mp ha with rfl|ha
   ·exact⟨hD,hlow⟩
   ·exact⟨(g3 a ha).1,(g3 a ha).2.1⟩
  have hput:=hA.put ex (fun a=>a=L) ownD (fun a ha hs=>⟨by
   rcases ha.1.1 with h|h
   ·exact .inl h
   ·exact .inr ⟨h,ha.1.2⟩,ha.2⟩) g2 hff hkv ek h1 h2 kx
  have hLf:∀y,L∉(if y=x then D::fps else fp y):=fun y hy=>by
   by_cases hyx:y=x
   ·simp only[hyx,if_true]at hy
    rcases List.mem_cons.mp hy with h|h
    ·exact hLD h
    ·exact(g3 L h).2.2 rfl
   ·simp only[hyx,if_false]at hy
    have:=(hA.fold y L hy).1
    rw[hL]at this;cases this
  have hLS:∀a,(S a∨(s.heap.get? a=none∧(h'.get? a).isSome=true∧a∉D::fps∧¬a=L))->a≠L:=fun a ha e=>by
   subst e
   rcases ha with ha|⟨_,_,_,h⟩
   ·have:=(hA.sold _ ha).1;rw[hL]at this;cases this
   ·exact h rfl
  have k23:∀a o,a≠L->h''.get? a=some o->h₃.get? a=some o:=fun a o ha ho=>(hs₃.2 a ha).trans ho
  have hLF:=hfr L hL
  have hB:∀a,a=L->mainGlobals<a∧(∀o,C.K.lookup a≠some o)∧¬(S a∨(s.heap.get? a=none∧(h'.get? a).isSome=true∧a∉D::fps∧¬a=L))∧¬frameAt A env a∧∀y,a∉(if y=x then D::fps else fp y):=by
   rintro a rfl
   exact⟨hlowL,fun o ho=>(by have:=hA.base.kin _ o ho;rw[hL]at this;cases this),fun h=>hLS _ h rfl,hLF,hLf⟩
  refine k _ ⟨_,_,hput.quiet (fun a=>a=L) k23 hB,hst.trans ⟨⟨h₃,t'',rfl⟩,fun a ha=>.inl ha,fun a ha=>?_,fun y a ha=>?_,fun a b hF hn ho=>?_,fun a ha=>?_,(ex.fr.trans (kx.sk (hA.eok.ext hA.fra ex) (hA.fra.ext hA.eok.ns ex))).trans (.of_keep fun a o hs ω ho=>k23 a o (fun e=>hLF (.inl (.inr (e▸hs)))) ho)⟩⟩
  ·rcases ha with ha|ha
   ·exact .inl ha
   ·exact .inr (.inr ha.1)
  ·by_cases h1:y=x
   ·simp only[h1,if_true]at ha
    exact .inr (hff a ha).1
   ·simp only[h1,if_false]at ha
    exact .inl ⟨y,ha⟩
  ·exact k23 a b (by rintro rfl;rw[hL]at ho;cases ho) (kx.off a b hF (ex.keep a b (fun q=>hF (.inl q)) ho))
  ·have h1:=kx.live a (ex.live hA.eok.ns ha)
   obtain⟨b,hb⟩:=Option.isSome_iff_exists.mp h1
   rw[k23 a b (by rintro rfl;rw[hL]at ha;cases ha) hb];rfl
end
section
variable{prog:Program}{w:World}{A:Around}{E:Value->Shared->Prop}{s:Shared}
theorem upd_lob{h:Heap}{l:Addr}{vs:List Value}{n:Nat}(ho:h.get? l=some (lob vs n))(f:Array Value->Array Value){us:List Value}(hu:f vs.toArray=us.toArray):∃k,(h.update l (Obj.mapSeq f)).get? l=some (lob us k):=by
 refine⟨if(f vs.toArray).size==vs.toArray.size then n else n+1,(Heap.get?_update_self _ ho rfl).trans ?_⟩
 show some _=some (lob us _)
 unfold lob
 rw[←hu];rfl
theorem setItem_lob{l:Addr}{vs:List Value}{n:Nat}{k:Int}{t:Tok}{v:Value}{Q:Unit->Shared->Prop}(ho:s.heap.get? l=some (lob vs n))
  (h0:0≤k) (hfit:k<2^63) (hn:k<vs.length)
  (hQ:∀h' n',h'.get? l=some (lob (vs.set k.toNat v) n')->Heap.SameBut l s.heap h'->Q () {s with heap:=h'}):
  wpAny (model prog w) A (setItem (.ref l) (.int k t) v) Q E s:=by
 have hl:s.heap.IsList l vs.toArray:=⟨_,ho,rfl,n,rfl⟩
 unfold setItem
 try with_reducible refine wpAny_holding ?_
 first|refine wpAny_bind (wpAny_pure ?_)|skip
 refine wpAny_bind (wpAny_sequenceKey hl.typeIs (by decide) ?_)
 refine wpAny_bind (wpAny_callSpecial?_slot (name:=Str.ofString "__setitem__") hl.typeIs slot_list_setitem
  (wpAny_call_entry slot_list_setitem hl.typeIs entry_list_setitem ?_ (args_list_setitem _ _ _)))
 show wpAny _ _ (Builtin.List.listSubscript? (.int k t)>>=_) _ _ s
 refine wpAny_bind (wpAny_listSubscript_int (fitsIndex_of h0 hfit) ?_)
 clear hfit
 obtain⟨j,rfl⟩:=Int.eq_ofNat_of_zero_le h0
 have hj:j<vs.toArray.size:=by simp;omega
 have hx':vs.toArray[j]?=some vs.toArray[j]:=Array.getElem?_eq_getElem hj
 show wpAny _ _ ((seqItemAt l j>>=fun r=>pure (r.map (j,·)))>>=_) _ _ s
 refine wpAny_bind (wpAny_bind (wpAny_seqItemAt ho rfl (wpAny_pure ?_)))
 rw[hx']
 show wpAny _ _ (setSeqItemAt l j v>>=_) _ _ s
 obtain⟨k,hk⟩:=upd_lob ho (fun x=>x.setIfInBounds j v) (us:=vs.set j v) (by simp)
 refine wpAny_bind (wpAny_setSeqItemAt ho rfl ?_)
 first
  |exact wpAny_bind (wpAny_pure (wpAny_pure ⟨.none,rfl,wpAny_pure (hQ _ k hk (Heap.SameBut.update ..))⟩))
  |exact wpAny_pure ⟨.none,rfl,wpAny_pure (hQ _ k hk (Heap.SameBut.update ..))⟩
end
section
variable{C:Cx}{A:Around}{env:Env}{S:Addr->Prop}{fp:Str->List Addr}{Γ:SGam}{h' h₁:Heap}{o:Org}{s:Shared}
theorem Base.turn{h:Heap}(hb:Base C h)(fx:Fra C A h)(ek:EnvOk C h env)(B:Addr->Prop)(hk:∀a o,¬Fz A env a->¬B a->h.get? a=some o->h₁.get? a=some o)(hB:∀a,B a->mainGlobals<a∧∀o,C.K.lookup a≠some o):Base C h₁:=
 hb.move (fun a=>Fz A env a∨B a) (fun a o hn e=>hk a o (fun h=>hn (.inl h)) (fun h=>hn (.inr h)) e) fun a ha=>by
  rcases ha with ha|ha
  ·exact⟨(fx.low ek ha).2,fun o ho=>Nat.lt_irrefl _ ((fx.low ek ha).1 _ o ho)⟩
  ·exact hB a ha
theorem EnvOk.turn{h:Heap}(ek:EnvOk C h env)(fx:Fra C A h)(B:Addr->Prop)(hk:∀a o,¬Fz A env a->¬B a->h.get? a=some o->h₁.get? a=some o)(hns:∀m,h.Ns env.locals m->h₁.Ns env.locals m)(hc:∀x c,env.cells.lookup x=some c->¬B c):EnvOk C h₁ env:=
 {kind:=ek.kind,glob:=ek.glob,bltn:=ek.bltn,apart:=ek.apart,notL:=ek.notL,below:=ek.below,high:=ek.high,chigh:=ek.chigh
  ns:=let⟨m,hm⟩:=ek.ns;⟨m,hns m hm⟩
  cell:=fun x hx=>let⟨c,v,h1,o,h2,h3⟩:=ek.cell x hx;⟨c,v,h1,o,hk c o (fun hz=>hz.elim (ek.notL x c h1) (fx.ne h2 (by rw[h3];nofun))) (hc x c h1) h2,h3⟩
  call:=fun x c hx=>let⟨v,o,h2,h3⟩:=ek.call x c hx;⟨v,o,hk c o (fun hz=>hz.elim (ek.notL x c hx) (fx.ne h2 (by rw[h3];nofun))) (hc x c hx) h2,h3⟩}
theorem VarAt.turn{h:Heap}{x:Str}{u:Value}(a:VarAt h env x u)(ek:EnvOk C h env)(fx:Fra C A h)(B:Addr->Prop)(hk:∀a o,¬Fz A env a->¬B a->h.get? a=some o->h₁.get? a=some o)(hns:∀m,h.Ns env.locals m->h₁.Ns env.locals m)(hc:∀x c,env.cells.lookup x=some c->¬B c):VarAt h₁ env x u:=by
 rcases a with⟨h1,m,h2,h3⟩|⟨h1,h0,c,h2,o,h3,h4⟩
 ·exact .inl ⟨h1,m,hns m h2,h3⟩
 ·exact .inr ⟨h1,h0,c,h2,o,hk c o (fun hz=>hz.elim (ek.notL x c h2) (fx.ne h3 (by rw[h4];nofun))) (hc x c h2) h3,h4⟩
theorem At.updG(hA:At C A env S fp Γ s.heap)(hst:Step A env o S fp s)(ex:Ext A env s.heap h'){x:Str}{n:Nat}{pv:PV}{f':List Addr}{v:Value}(hkv:isVar (env.kindOf x)=true)(hx:VarAt s.heap env x v)
  (B:Addr->Prop) (hk:∀a b,¬Fz A env a->¬B a->h'.get? a=some b->h₁.get? a=some b) (hsk:Sk A env h' h₁) (hns:∀m,h'.Ns env.locals m->h₁.Ns env.locals m) (hB:∀a,B a->a∈fp x) (live:∀a,B a->(h₁.get? a).isSome=true)
  (hf':∀a∈f',a∈fp x∨(s.heap.get? a=none∧mainGlobals<a)) (hnd:f'.Nodup)
  (r:OwnT C (fun a=>S a∨(s.heap.get? a=none∧(h₁.get? a).isSome=true∧a∉f')) h₁ n v pv f') (t:Nat):
  At C A env (fun a=>S a∨(s.heap.get? a=none∧(h₁.get? a).isSome=true∧a∉f')) (fun y=>if y=x then f' else fp y) ((x,some (n,pv))::Γ) h₁∧Step A env o (fun a=>S a∨(s.heap.get? a=none∧(h₁.get? a).isSome=true∧a∉f')) (fun y=>if y=x then f' else fp y) {s with heap:=h₁,toks:=t}:=by
 have nFr:∀a,s.heap.get? a=none->¬frameAt A env a:=fun a ha hfr=>by
  have:=hA.eok.frame_there hA.fra a hfr;rw[ha]at this;cases this
 have nFp:∀a y,s.heap.get? a=none->a∉fp y:=fun a y ha hm=>by
  have:=(hA.fold y a hm).1;rw[ha]at this;cases this
 have hB':∀a,B a->mainGlobals<a∧∀o,C.K.lookup a≠some o:=fun a ha=>(hA.fold x a (hB a ha)).2.2
 have f1:=hA.fra.ext hA.eok.ns ex
 have hc:∀y c,env.cells.lookup y=some c->¬B c:=fun y c hy hb=>(hA.fold x _ (hB _ hb)).2.1 (.inr ⟨y,hy⟩)
 have e1:=hA.eok.ext hA.fra ex
 have liv:∀a,(h'.get? a).isSome=true->(h₁.get? a).isSome=true:=fun a ha=>by
  by_cases hb:B a
  ·exact live a hb
  ·obtain⟨b,hb'⟩:=Option.isSome_iff_exists.mp ha
   by_cases hl:a=env.locals
   ·subst hl
    obtain⟨m,hm⟩:=e1.ns
    obtain⟨ob,_,_,h,_⟩:=hns m hm;rw[h];rfl
   ·by_cases hs:onStack A a
    ·obtain⟨sl,h1⟩:=hsk a b hs hl hb';rw[h1];rfl
    ·rw[hk a b (fun hz=>hz.elim hl hs) hb hb'];rfl
 have lv:∀a,(s.heap.get? a).isSome=true->(h₁.get? a).isSome=true:=fun a ha=>liv a (ex.live hA.eok.ns ha)
 have kk:∀a b,¬frameAt A env a->¬B a->s.heap.get? a=some b->h₁.get? a=some b:=fun a b hf hb ho=>hk a b (fun e=>hf (.inl e)) hb (ex.keep a b (fun e=>hf (.inl e)) ho)
 refine⟨{cx:=hA.cx,base:=(hA.base.ext ex hA.fra hA.eok).turn f1 e1 B hk hB',eok:=e1.turn f1 B hk hns hc,fra:=f1.sk (let⟨m,hm⟩:=e1.ns;⟨m,hns m hm⟩) hsk,sold:=fun a ha=>?_,disj:=fun y z a hy hz=>?_,ndup:=fun y=>?_,fold:=fun y a ha=>?_,vars:=fun y m q hl=>?_},
  hst.trans ⟨⟨h₁,t,rfl⟩,fun a ha=>.inl ha,fun a ha=>ha.imp id fun q=>.inr q.1,fun y a ha=>?_,fun a b hF hn ho=>kk a b hF (fun hb=>hn x (hB a hb)) ho,lv,ex.fr.trans hsk⟩⟩
 ·rcases ha with ha|⟨h1,h2,h3⟩
  ·obtain⟨g1,g2,g3⟩:=hA.sold a ha
   refine⟨lv a g1,g2,fun y hm=>?_⟩
   by_cases hyx:y=x
   ·simp only[hyx,if_true]at hm
    rcases hf' a hm with q|q
    ·exact g3 x q
    ·rw[q.1]at g1;cases g1
   ·simp only[hyx,if_false]at hm
    exact g3 y hm
  ·refine⟨h2,nFr a h1,fun y hm=>?_⟩
   by_cases hyx:y=x
   ·simp only[hyx,if_true]at hm
    exact h3 hm
   ·simp only[hyx,if_false]at hm
    exact nFp a y h1 hm
 ·by_cases h1:y=x<;>by_cases h2:z=x
  ·rw[h1,h2]
  ·simp only[h1,h2,if_true,if_false]at hy hz
   rcases hf' a hy with q|q
   ·rw[h1];exact hA.disj x z a q hz
   ·exact absurd hz (nFp a z q.1)
  ·simp only[h1,h2,if_true,if_false]at hy hz
   rcases hf' a hz with q|q
   ·rw[h2];exact hA.disj y x a hy q
   ·exact absurd hy (nFp a y q.1)
  ·simp only[h1,h2,if_false]at hy hz
   exact hA.disj y z a hy hz
 ·by_cases h1:y=x
  ·simp only[h1,if_true];exact hnd
  ·simp only[h1,if_false];exact hA.ndup y
 ·by_cases h1:y=x
  ·simp only[h1,if_true]at ha
   rcases hf' a ha with q|q
   ·obtain⟨g1,g2⟩:=hA.fold x a q
    exact⟨lv a g1,g2⟩
   ·exact⟨r.there a ha,nFr a q.1,q.2,fun o ho=>by
     have:=hA.base.kin a o ho
     rw[q.1]at this;cases this⟩
  ·simp only[h1,if_false]at ha
   exact⟨lv a (hA.fold y a ha).1,(hA.fold y a ha).2⟩
 ·rw[List.lookup_cons]at hl
  cases hb:y==x with
  |true=>
   rw[hb]at hl;cases hl
   have hyx:y=x:=beq_iff_eq.mp hb
   subst hyx
   refine⟨hkv,v,(hx.ext hA.eok hA.fra ex).turn e1 f1 B hk hns hc,?_⟩
   simp only[if_true]
   exact r
  |false=>
   rw[hb]at hl
   have hne:y≠x:=by simpa using hb
   obtain⟨h0,u,h1,h2⟩:=hA.vars y m q hl
   refine⟨h0,u,(h1.ext hA.eok hA.fra ex).turn e1 f1 B hk hns hc,?_⟩
   simp only[hne,if_false]
   refine h2.mono (fun a ha=>.inl ha) (fun a b ha ho=>?_) fun a ha b ho=>?_
   ·obtain⟨_,g2,g3⟩:=hA.sold a ha
    exact kk a b g2 (fun hb=>g3 x (hB a hb)) ho
   ·have hn:=(hA.fold y a ha).2.1
    exact kk a b hn (fun hb=>hne (hA.disj y x a ha (hB a hb))) ho
 ·by_cases h1:y=x
  ·simp only[h1,if_true]at ha
   exact(hf' a ha).imp (fun q=>⟨x,q⟩) fun q=>q.1
  ·simp only[h1,if_false]at ha
   exact .inl ⟨y,ha⟩
theorem At.updT(hA:At C A env S fp Γ s.heap)(hst:Step A env o S fp s)(ex:Ext A env s.heap h'){x:Str}{n:Nat}{pv:PV}{f':List Addr}{v:Value}(hkv:isVar (env.kindOf x)=true)(hx:VarAt s.heap env x v)
  (B:Addr->Prop) (hk:∀a b,a≠env.locals->¬B a->h'.get? a=some b->h₁.get? a=some b) (hns:∀m,h'.Ns env.locals m->h₁.Ns env.locals m) (hB:∀a,B a->a∈fp x) (live:∀a,B a->(h₁.get? a).isSome=true)
  (hf':∀a∈f',a∈fp x∨(s.heap.get? a=none∧mainGlobals<a)) (hnd:f'.Nodup)
  (r:OwnT C (fun a=>S a∨(s.heap.get? a=none∧(h₁.get? a).isSome=true∧a∉f')) h₁ n v pv f') (t:Nat):
  At C A env (fun a=>S a∨(s.heap.get? a=none∧(h₁.get? a).isSome=true∧a∉f')) (fun y=>if y=x then f' else fp y) ((x,some (n,pv))::Γ) h₁∧Step A env o (fun a=>S a∨(s.heap.get? a=none∧(h₁.get? a).isSome=true∧a∉f')) (fun y=>if y=x then f' else fp y) {s with heap:=h₁,toks:=t}:=
 At.updG hA hst ex hkv hx B (fun a b hz hb=>hk a b (fun e=>hz (.inl e)) hb) (.of_keep fun a b hs hl ho=>hk a b hl (fun hb=>(hA.fold x a (hB a hb)).2.1 (.inl (.inr hs))) ho) hns hB live hf' hnd r t
theorem AtO.updT(hA:At C A env S fp Γ s.heap)(hst:Step A env o S fp s)(ex:Ext A env s.heap h'){x:Str}{n:Nat}{pv:PV}{f':List Addr}{v:Value}(hkv:isVar (env.kindOf x)=true)(hx:VarAt s.heap env x v)
  (B:Addr->Prop) (hk:∀a b,a≠env.locals->¬B a->h'.get? a=some b->h₁.get? a=some b) (hns:∀m,h'.Ns env.locals m->h₁.Ns env.locals m) (hB:∀a,B a->a∈fp x) (live:∀a,B a->(h₁.get? a).isSome=true)
  (hf':∀a∈f',a∈fp x∨(s.heap.get? a=none∧mainGlobals<a)) (hnd:f'.Nodup)
  (r:OwnT C (fun a=>S a∨(s.heap.get? a=none∧(h'.get? a).isSome=true∧a∉f')) h₁ n v pv f') (t:Nat):
  AtO C A env o ((x,some (n,pv))::Γ) {s with heap:=h₁,toks:=t}:=by
 refine .of (At.updT hA hst ex hkv hx B hk hns hB live hf' hnd (r.mono (fun a ha=>ha.imp id fun q=>⟨q.1,?_,q.2.2⟩) (fun ω ω ω e=>e) fun ω ω ω e=>e) t)
 by_cases hb:B a
 ·exact live a hb
 ·by_cases hl:a=env.locals
  ·subst hl
   obtain⟨m,hm⟩:=(hA.eok.ext hA.fra ex).ns
   obtain⟨ob,_,_,h,_⟩:=hns m hm;rw[h];rfl
  ·obtain⟨b,hb'⟩:=Option.isSome_iff_exists.mp q.2.1
   rw[hk a b hl hb hb'];rfl
theorem AtO.upd(hA:At C A env S fp Γ s.heap)(hst:Step A env o S fp s)(ex:Ext A env s.heap h'){x:Str}{n:Nat}{pv:PV}{f':List Addr}{v:Value}(hkv:isVar (env.kindOf x)=true)(hx:VarAt s.heap env x v)
  (B:Addr->Prop) (hk:∀a b,¬B a->h'.get? a=some b->h₁.get? a=some b) (hB:∀a,B a->a∈fp x) (live:∀a,B a->(h₁.get? a).isSome=true)
  (hf':∀a∈f',a∈fp x∨(s.heap.get? a=none∧mainGlobals<a)) (hnd:f'.Nodup)
  (r:OwnT C (fun a=>S a∨(s.heap.get? a=none∧(h'.get? a).isSome=true∧a∉f')) h₁ n v pv f') (t:Nat):
  AtO C A env o ((x,some (n,pv))::Γ) {s with heap:=h₁,toks:=t}:=
 AtO.updT hA hst ex hkv hx B (fun a b ω=>hk a b) (fun m ⟨ob,es,ep,ho,r⟩=>⟨ob,es,ep,hk _ ob (fun hb=>(hA.fold x _ (hB _ hb)).2.1 (.inl (.inl rfl))) ho,r⟩) hB live hf' hnd r t
theorem AtO.freeze{x:Str}{n:Nat}{pv:PV}(hA:AtO C A env o Γ s)(hx:Γ.lookup x=some (some (n,pv))):AtO C A env o ((x,some (0,pv))::Γ) s:=by
 obtain⟨S,fp,hA,hst⟩:=hA
 obtain⟨hk,v,hv,r⟩:=hA.vars x n pv hx
 refine⟨fun a=>S a∨a∈fp x,fun y=>if y=x then []else fp y,{cx:=hA.cx,base:=hA.base,eok:=hA.eok,fra:=hA.fra,sold:=fun a ha=>?_,disj:=fun y z a hy hz=>?_,ndup:=fun y=>?_,fold:=fun y a ha=>?_,vars:=fun y m q hl=>?_},
  hst.trans ⟨⟨s.heap,s.toks,rfl⟩,fun a ha=>.inl ha,fun a ha=>?_,fun y a ha=>?_,fun a b hF hn ho=>ho,fun a ha=>ha,Sk.refl _⟩⟩
 ·rcases ha with ha|ha
  ·obtain⟨g1,g2,g3⟩:=hA.sold a ha
   refine⟨g1,g2,fun y hm=>?_⟩
   by_cases hyx:y=x
   ·simp[hyx]at hm
   ·simp only[hyx,if_false]at hm
    exact g3 y hm
  ·obtain⟨g1,g2,_⟩:=hA.fold x a ha
   refine⟨g1,g2,fun y hm=>?_⟩
   by_cases hyx:y=x
   ·simp[hyx]at hm
   ·simp only[hyx,if_false]at hm
    exact hyx (hA.disj y x a hm ha)
 ·by_cases h1:y=x
  ·simp[h1]at hy
  ·by_cases h2:z=x
   ·simp[h2]at hz
   ·simp only[h1,h2,if_false]at hy hz
    exact hA.disj y z a hy hz
 ·by_cases h1:y=x
  ·simp[h1]
  ·simp only[h1,if_false];exact hA.ndup y
 ·by_cases h1:y=x
  ·simp[h1]at ha
  ·simp only[h1,if_false]at ha
   exact hA.fold y a ha
 ·rw[List.lookup_cons]at hl
  cases hb:y==x with
  |true=>
   rw[hb]at hl;cases hl
   have hyx:y=x:=beq_iff_eq.mp hb
   subst hyx
   refine⟨hk,v,hv,?_⟩
   simp only[if_true]
   exact .val (r.rd (fun a ha=>.inl ha) fun a ha=>.inr ha)
  |false=>
   rw[hb]at hl
   have hne:y≠x:=by simpa using hb
   obtain⟨h0,u,h1,h2⟩:=hA.vars y m q hl
   refine⟨h0,u,h1,?_⟩
   simp only[hne,if_false]
   exact h2.mono (fun a ha=>.inl ha) (fun a b ha ho=>ho) fun a ha b ho=>ho
 ·exact ha.imp id fun q=>.inl ⟨x,q⟩
 ·by_cases h1:y=x
  ·simp[h1]at ha
  ·simp only[h1,if_false]at ha
   exact .inl ⟨y,ha⟩
end
section
variable{C:Cx}{S:Addr->Prop}{h:Heap}{v:Value}{f:List Addr}
theorem OwnT.list1{xs:List PV}(r:OwnT C S h 1 v (.list xs) f):∃a vs n,v= .ref a∧f=[a]∧h.get? a=some (lob vs n)∧RdAll C.prog C.w S h vs xs:=by
 obtain⟨a,vs,m,fps,e,ef,ho,rs⟩:=r.view
 exact⟨a,vs,m,e,by rw[ef,rs.to_rd.2],ho,rs.to_rd.1⟩
theorem OwnT.dict1{kvs:List (Key×PV)}(r:OwnT C S h 1 v (.dict kvs) f):∃a vs,v= .ref a∧f=[a]∧mainGlobals<a∧h.DictOf (mixKind C.prog C.w) a ((kvs.map (·.1)).zip vs)∧RdAll C.prog C.w S h vs (kvs.map (·.2)):=by
 obtain⟨a,vs,fps,e,ef,hl,hd,rs⟩:=r.view
 exact⟨a,vs,e,by rw[ef,rs.to_rd.2],hl,hd,rs.to_rd.1⟩
end
noncomputable def EvF(C:Cx)(env:Env)(Γ:SGam)(e:Expr)(x:Str)(n₀:Nat)(q:PV)(upd:PV->PV):Prop:=
 ∀ (A:Around) (S:Addr->Prop) (fp:Str->List Addr) (s:Shared) (Q:Value->Shared->Prop) (E:Value->Shared->Prop),Room C A->At C A env S fp Γ s.heap->
  (∀a h' t' v,Ext A env s.heap h'->isVar (env.kindOf x)=true->VarAt s.heap env x v->a∈fp x->OwnT C S h' 1 (.ref a) q [a]->
   (∀h₁ q' (S':Addr->Prop),(∀b,S b->S' b)->(∀b o,b≠a->(S b∨b∈fp x)->h'.get? b=some o->h₁.get? b=some o)->OwnT C S' h₁ 1 (.ref a) q' [a]->OwnT C S' h₁ n₀ v (upd q') (fp x))->
   Q (.ref a) {s with heap:=h',toks:=t'})->
  wpAny (model C.prog C.w) A (eval e env) Q E s
section
variable{C:Cx}{A:Around}{env:Env}{Γ:SGam}
theorem EvF.list{x:Str}{p:Pos}{xs:List PV}(hx:Γ.lookup x=some (some (1,.list xs)))(hd:(x==("__debug__":Str))=false:=by rfl):EvF C env Γ (.Name x p) x 1 (.list xs) id:=fun A S fp s Q E hr hA hq=>by
 obtain⟨hk,v,hv,r⟩:=hA.vars x 1 _ hx
 refine wpAny_Name (wpAny_loadVar hA.eok hv ?_) hd
 obtain⟨a,vs,n,rfl,hf,ho,rs⟩:=r.list1
 exact hq a s.heap s.toks _ (.refl _ _ _) hk hv (by rw[hf];simp) (by rw[hf]at r;exact r) fun h₁ q' S' hS hk r'=>by rw[hf];exact r'
theorem EvF.item{x:Str}{p p':Pos}{xs:List PV}{i:Expr}{k:Int}{q:PV}(hx:Γ.lookup x=some (some (2,.list xs)))(hi:Ev C env (evG Γ) i true (.int k))(h0:0≤k)(hhi:k<2^63)(hq':xs[k.toNat]?=some q)
  (hlist:∃ys,q= .list ys) (hd:(x==("__debug__":Str))=false:=by rfl) (hpl:∀o iv,∃ops,subscripted i false o iv=operate ops (getItem o iv):=by intro _ _;exact⟨_,rfl⟩):
  EvF C env Γ (.Subscript (.Name x p) i p') x 2 q (fun q'=>.list (xs.set k.toNat q')):=fun A S fp s Q E hr hA hq=>by
 obtain⟨hk,v,hv,r⟩:=hA.vars x 2 _ hx
 refine Subscript_ (wpAny_Name (wpAny_loadVar hA.eok hv ?_) hd)
 refine hi A S _ s _ E hr hA.here fun u h' t' ex rd=>?_
 obtain⟨t,rfl⟩:=rd.int_inv
 have hnd:=hA.ndup x
 have hfo:=fun a ha=>(hA.fold x a ha).2.1
 have hSF:∀c,S c->c∉fp x:=fun c hc=>(hA.sold c hc).2.2 x
 obtain⟨a,vs,n,fps,rfl,hF,ho,rs⟩:=r.view
 rw[hF]at hnd hfo hq hSF
 obtain⟨v',f,g1,g2,g3,g4,g5⟩:=OwnTs.at rs (List.nodup_cons.mp hnd).2 hq'
 have ho':h'.get? a=some (lob vs n):=ex.keep a _ (fun e=>hfo a List.mem_cons_self (.inl e)) ho
 obtain⟨ops,hops⟩:=hpl (.ref a) (.int k t)
 refine tail_any (s:={s with heap:=h',toks:=t'}) (T:="list") ⟨_,ho',rfl⟩ slot_list_getitem.lookup ?_ hops
 refine wpAny_getItem_list (IsList.of_lob ho') h0 hhi (by simpa using g1) ?_
 obtain⟨ys,rfl⟩:=hlist
 obtain⟨b,us,n',rfl,rfl,hb,rb⟩:=g2.list1
 have kF:∀c o,c∈a::fps->s.heap.get? c=some o->h'.get? c=some o:=fun c o hc e=>ex.keep c o (fun e=>hfo c hc (.inl e)) e
 have kS:∀c o,S c->s.heap.get? c=some o->h'.get? c=some o:=fun c o hc e=>ex.keep c o (fun e=>(hA.sold c hc).2.1 (.inl e)) e
 have hbF:b∈a::fps:=List.mem_cons_of_mem _ (g4 b (by simp))
 refine hq b h' t' _ ex hk hv hbF (.list (kF b _ hbF hb) (OwnTs.of_rd (rb.mono (fun ω z=>z) kS))) fun h₁ q' S' hS hkk r'=>?_
 have hab:a≠b:=fun e=>(List.nodup_cons.mp hnd).1 (by rw[e];exact g4 b (by simp))
 have hSa:∀c,S c->c≠b:=fun c hc e=>hSF c hc (by rw[e];exact hbF)
 refine .list (hkk a _ hab (.inr List.mem_cons_self) ho') (g5 S' h₁ q' hS (fun c o hc e=>hkk c o (hSa c hc) (.inl hc) (kS c o hc e)) (fun c hc hcb o e=>hkk c o (by simpa using hcb) (.inr (List.mem_cons_of_mem _ hc)) (kF c o (List.mem_cons_of_mem _ hc) e)) r')
end
section
variable{C:Cx}{A:Around}{env:Env}{S:Addr->Prop}{fp:Str->List Addr}{Γ:SGam}{h' h₁:Heap}{o:Org}{s:Shared}
theorem At.grow(hA:At C A env S fp Γ s.heap)(hst:Step A env o S fp s)(ex:Ext A env s.heap h')(t:Nat):
  ∃S',At C A env S' fp Γ h'∧Step A env o S' fp {s with heap:=h',toks:=t}∧(∀a,S a->S' a)∧∀a,s.heap.get? a=none->(h'.get? a).isSome=true->S' a:=
 ⟨fun a=>S a∨(s.heap.get? a=none∧(h'.get? a).isSome=true),hA.ext ex _ (fun ω h=>h),
  hst.trans ⟨⟨h',t,rfl⟩,fun a ha=>.inl ha,fun a ha=>ha.imp id fun q=>.inr q.1,fun y a ha=>.inl ⟨y,ha⟩,fun a b hF hn ho=>ex.keep a b (fun e=>hF (.inl e)) ho,fun a ha=>ex.live hA.eok.ns ha,ex.fr⟩,fun ω h=>.inl h,fun ω h1 h2=>.inr ⟨h1,h2⟩⟩
theorem AtO.ext(x:AtO C A env o Γ s)(ex:Ext A env s.heap h')(t:Nat):AtO C A env o Γ {s with heap:=h',toks:=t}:=
 let⟨S,fp,hA,hst⟩:=x
 let⟨S',h1,h2,_⟩:=hA.grow hst ex t
 ⟨S',fp,h1,h2⟩
theorem Rd.grow{S' U:Addr->Prop}{h:Heap}{v:Value}{pv:PV}(r:Rd C.prog C.w (Reg true S U h) h' v pv)(h1:∀a,S a->S' a)(h2:∀a,h.get? a=Option.none->(h'.get? a).isSome=true->S' a):Rd C.prog C.w S' h' v pv:=
 r.there.mono (fun a ha=>by
  rcases ha.1 with g|g
  ·exact h1 a g
  ·exact h2 a g ha.2) fun ω ω ω e=>e
theorem AtO.fin(hA:At C A env S fp Γ s.heap)(hst:Step A env o S fp s){a:Addr}{x:Str}{v:Value}{n₀:Nat}{upd:PV->PV}{h'':Heap}(ex:Ext A env s.heap h')(hkv:isVar (env.kindOf x)=true)(hx:VarAt s.heap env x v)(ha:a∈fp x)
  (hup:∀h₁ q' (S':Addr->Prop),(∀b,S b->S' b)->(∀b o,b≠a->(S b∨b∈fp x)->h'.get? b=some o->h₁.get? b=some o)->OwnT C S' h₁ 1 (.ref a) q' [a]->OwnT C S' h₁ n₀ v (upd q') (fp x))
  (ex2:Ext A env h' h'') (hs:Heap.SameBut a h'' h₁) {vs:List Value} {n:Nat} {ys:List PV} (ho:h₁.get? a=some (lob vs n)) (r:RdAll C.prog C.w (fun b=>S b∨s.heap.get? b=none) h'' vs ys) (t:Nat):
  AtO C A env o ((x,some (n₀,upd (.list ys)))::Γ) {s with heap:=h₁,toks:=t}:=by
 have hk:∀b o,b≠a->h''.get? b=some o->h₁.get? b=some o:=fun b o hb e=>(hs.2 b hb).trans e
 have hnl:∀b,(S b∨b∈fp x)->¬Fz A env b:=fun b hb e=>by
  rcases hb with hb|hb
  ·exact(hA.sold b hb).2.1 (.inl e)
  ·exact(hA.fold x b hb).2.1 (.inl e)
 refine AtO.upd hA hst (ex.trans ex2) hkv hx (fun b=>b=a) hk (fun b hb=>by rw[hb];exact ha) (fun b hb=>by rw[hb,ho];rfl) (fun b hb=>.inl hb) (hA.ndup x) ?_ t
 refine hup h₁ (.list ys) _ (fun b hb=>.inl hb) (fun b o hb hb' e=>hk b o hb (ex2.keep b o (hnl b hb') e)) (.list ho (OwnTs.of_rd (r.there.mono (fun b hb=>?_) fun b o hb e=>hk b o ?_ e)))
 ·rcases hb.1 with g|g
  ·exact .inl g
  ·exact .inr ⟨g,hb.2,fun hm=>by have:=(hA.fold x b hm).1;rw[g]at this;cases this⟩
 ·rintro rfl
  rcases hb.1 with g|g
  ·exact(hA.sold _ g).2.2 x ha
  ·have:=(hA.fold x _ ha).1;rw[g]at this;cases this
end
section
variable{C:Cx}{A:Around}{env:Env}{o:Org}{Γ:SGam}{s:Shared}{Q:Flow->Shared->Prop}{E:Value->Shared->Prop}{rest:List Stmt}
theorem RdAll.one{prog:Program}{w:World}{S:Addr->Prop}{h:Heap}{v:Value}{x:PV}(r:Rd prog w S h v x):RdAll prog w S h [v] [x]:=.cons r .nil
theorem St.meth{e arg:Expr}{name:Str}{id:String}{apos pos spos:Pos}{x:Str}{n₀:Nat}{ys ys':List PV}{upd:PV->PV}{y:PV}(hr:Room C A)(hA:AtO C A env o Γ s)(hF:EvF C env Γ e x n₀ (.list ys) upd)(hE:Ev C env (evG Γ) arg true y)
  (slot:Slot "list" name id) (hty:typeOf (.builtin id)=pure (.type "method_descriptor"))
  (hop:∀ (s₀:Shared) (a:Addr) (vs:List Value) (n:Nat) (S:Addr->Prop) (Q:Value->Shared->Prop) (T:Sem Value),
   wpAny (model C.prog C.w) A T (fun u s₁=>∃n',s₁.heap.get? a=some (lob vs n')∧RdAll C.prog C.w S s₁.heap vs ys∧Rd C.prog C.w S s₁.heap u y∧
    ∀h₁ vs' n',h₁.get? a=some (lob vs' n')->Heap.SameBut a s₁.heap h₁->RdAll C.prog C.w S s₁.heap vs' ys'->Q .none {s₁ with heap:=h₁}) E s₀->
   wpAny (model C.prog C.w) A (callWith pos (.builtin id) [.ref a] [(false,T)] []) Q E s₀)
  (k:∀s',AtO C A env o ((x,some (n₀,upd (.list ys')))::Γ) s'->wpAny (model C.prog C.w) A (execs rest env) Q E s')
  (hbase:attributeBase e name env (eval e env)=eval e env:=by rfl)
  (hfew:((backTo pos (starEach [arg] env)).all (fun x=>!x.1)&&(backToKw pos (keywordEach [] env)).all (fun x=>x.1.isSome)
   &&decide (([arg]:List Expr).length+([]:List Keyword).length+(if([]:List Keyword).isEmpty then 0 else 1)<30))=true:=by rfl)
  (hline:(apos.endLine==pos.line)=true:=by rfl) (htrees:backTo pos (starEach [arg] env)=[(false,eval arg env)]:=by rfl)
  (hi:interactive env=false:=by rfl) (hs:swapsWith (.Call (.Attribute e name apos) [arg] [] pos) none spos.line env=pure false:=by rfl):
  wpAny (model C.prog C.w) A (execs (.Expr (.Call (.Attribute e name apos) [arg] [] pos) spos::rest) env) Q E s:=by
 refine wpAny_execs_cons (wpAny_Expr_any ?_ hi hs)
 refine wpAny_Call_method hbase hfew hline PySem.F.plainAttrs_list slot hty ?_
 obtain⟨S,fp,hA,hst⟩:=hA
 refine hF A S fp s _ E hr hA fun a h' t' v ex hkv hv ha r hup=>?_
 obtain⟨a',vs,n,e1,e2,ho,rs⟩:=r.list1
 cases e1
 refine⟨⟨_,ho,rfl⟩,fun b e=>by cases e;exact⟨_,ho,rfl⟩,?_⟩
 rw[htrees]
 refine hop _ a vs n (fun b=>S b∨s.heap.get? b=none) _ _ ?_
 refine hE A S _ {s with heap:=h',toks:=t'} _ E hr (hA.here.ext ex) fun u h'' t'' ex2 rd=>?_
 have hnl: ¬Fz A env a:=fun e=>(hA.fold x a ha).2.1 (.inl e)
 have hSnl:∀b,S b->¬Fz A env b:=fun b hb e=>(hA.sold b hb).2.1 (.inl e)
 refine⟨n,ex2.keep a _ hnl ho,rs.mono (fun b hb=>.inl hb) fun b ob hb e=>ex2.keep b ob (hSnl b hb) e,?_,fun h₁ vs' n' ho₁ hsb r'=>?_⟩
 ·exact rd.mono (fun b hb=>hb.imp (fun z=>z) (ex.fresh hA.eok.ns)) fun ω ω ω e=>e
 ·exact k _ (AtO.fin hA hst ex hkv hv ha hup ex2 hsb ho₁ r' _)
theorem seq_upd{h:Heap}{a:Addr}{vs:List Value}{n:Nat}(ho:h.get? a=some (lob vs n))(f:Array Value->Array Value){us:List Value}(hu:f vs.toArray=us.toArray):∃k,(h.update a (Obj.mapSeq f)).get? a=some (lob us k)∧Heap.SameBut a h (h.update a (Obj.mapSeq f)):=
 let⟨k,hk⟩:=upd_lob ho f hu
 ⟨k,hk,Heap.SameBut.update ..⟩
theorem St.append{e arg:Expr}{apos pos spos:Pos}{x:Str}{n₀:Nat}{ys:List PV}{upd:PV->PV}{y:PV}(hr:Room C A)(hA:AtO C A env o Γ s)(hF:EvF C env Γ e x n₀ (.list ys) upd)(hE:Ev C env (evG Γ) arg true y)(hsz:ys.length≤lim)
  (k:∀s',AtO C A env o ((x,some (n₀,upd (.list (ys++[y]))))::Γ) s'->wpAny (model C.prog C.w) A (execs rest env) Q E s')
  (hbase:attributeBase e "append" env (eval e env)=eval e env:=by rfl)
  (hfew:((backTo pos (starEach [arg] env)).all (fun x=>!x.1)&&(backToKw pos (keywordEach [] env)).all (fun x=>x.1.isSome)
   &&decide (([arg]:List Expr).length+([]:List Keyword).length+(if([]:List Keyword).isEmpty then 0 else 1)<30))=true:=by rfl)
  (hline:(apos.endLine==pos.line)=true:=by rfl) (htrees:backTo pos (starEach [arg] env)=[(false,eval arg env)]:=by rfl)
  (hi:interactive env=false:=by rfl) (hs:swapsWith (.Call (.Attribute e "append" apos) [arg] [] pos) none spos.line env=pure false:=by rfl):
  wpAny (model C.prog C.w) A (execs (.Expr (.Call (.Attribute e "append" apos) [arg] [] pos) spos::rest) env) Q E s:=
 St.meth hr hA hF hE PySem.F.slot_list_append PySem.F.type_list_append (fun s₀ a vs n S Q T h=>PySem.P.append_list (wpAny_mono h (fun u s₁ h₁=>by
  obtain⟨n',ho,rs,ru,hq⟩:=h₁
  obtain⟨k,h1,h2⟩:=seq_upd ho (fun xs=>xs.push u) (us:=vs++[u]) (by simp)
  refine⟨vs.toArray,n',?_,ho,hq _ _ k h1 h2 (rs.append (.one ru))⟩
  have:=rs.length
  unfold lim at hsz
  simp only[List.size_toArray,this];show _≤2^24;omega) fun ω ω x=>x)) k hbase hfew hline htrees hi hs
theorem St.extend{e arg:Expr}{apos pos spos:Pos}{x:Str}{n₀:Nat}{ys zs:List PV}{upd:PV->PV}(hr:Room C A)(hA:AtO C A env o Γ s)(hF:EvF C env Γ e x n₀ (.list ys) upd)(hE:Ev C env (evG Γ) arg true (.list zs))(hsz:ys.length+zs.length≤lim)
  (k:∀s',AtO C A env o ((x,some (n₀,upd (.list (ys++zs))))::Γ) s'->wpAny (model C.prog C.w) A (execs rest env) Q E s')
  (hbase:attributeBase e "extend" env (eval e env)=eval e env:=by rfl)
  (hfew:((backTo pos (starEach [arg] env)).all (fun x=>!x.1)&&(backToKw pos (keywordEach [] env)).all (fun x=>x.1.isSome)
   &&decide (([arg]:List Expr).length+([]:List Keyword).length+(if([]:List Keyword).isEmpty then 0 else 1)<30))=true:=by rfl)
  (hline:(apos.endLine==pos.line)=true:=by rfl) (htrees:backTo pos (starEach [arg] env)=[(false,eval arg env)]:=by rfl)
  (hi:interactive env=false:=by rfl) (hs:swapsWith (.Call (.Attribute e "extend" apos) [arg] [] pos) none spos.line env=pure false:=by rfl):
  wpAny (model C.prog C.w) A (execs (.Expr (.Call (.Attribute e "extend" apos) [arg] [] pos) spos::rest) env) Q E s:=
 St.meth hr hA hF hE PySem.F.slot_list_extend PySem.F.type_list_extend (fun s₀ a vs n S Q T h=>PySem.P.extend_list (wpAny_mono h (fun u s₁ h₁=>by
  obtain⟨n',ho,rs,ru,hq⟩:=h₁
  obtain⟨b,us,m,rfl,_,hob,rb⟩:=ru.list_inv
  obtain⟨k,h1,h2⟩:=seq_upd ho (fun xs=>xs++us.toArray) (us:=vs++us) (by simp)
  have e1:=rs.length
  have e2:=rb.length
  unfold lim at hsz
  have hl1:vs.toArray.size≤2^24:=by simp only[List.size_toArray];omega
  have hl2:vs.toArray.size+us.toArray.size≤2^24:=by simp only[List.size_toArray];omega
  refine⟨b,vs.toArray,us.toArray,n',m,hl1,Nat.le_succ_of_le hl2,?_,rfl,ho,hob,hq _ _ k h1 h2 (rs.append rb)⟩
  intro hc
  have:Builtin.List.listTooLong (vs.toArray.size+us.toArray.size)=true:=by
   simp only[Bool.and_eq_true]at hc;exact hc.2
  simp[Builtin.List.listTooLong,sizeLine]at this
  simp only[List.size_toArray]at hl2
  omega) fun ω ω x=>x)) k hbase hfew hline htrees hi hs
theorem frame_neL{S:Addr->Prop}{fp:Str->List Addr}{h:Heap}(hA:At C A env S fp Γ h){a:Addr}{x:Str}(ha:a∈fp x): ¬Fz A env a:=fun e=>(hA.fold x a ha).2.1 (.inl e)
theorem St.setitem{e oe i:Expr}{p pos:Pos}{x:Str}{n₀:Nat}{ys:List PV}{upd:PV->PV}{y:PV}{j:Int}(hr:Room C A)(hA:AtO C A env o Γ s)(hE:Ev C env (evG Γ) e true y)(hF:EvF C env Γ oe x n₀ (.list ys) upd)(hi:Ev C env (evG Γ) i true (.int j))
  (h0:0≤j) (hj:j<ys.length) (hsz:ys.length≤lim)
  (k:∀s',AtO C A env o ((x,some (n₀,upd (.list (ys.set j.toNat y))))::Γ) s'->wpAny (model C.prog C.w) A (execs rest env) Q E s')
  (hs:swapsWith e (some (.Subscript oe i p)) pos.line env=pure false:=by rfl):
  wpAny (model C.prog C.w) A (execs (.Assign [.Subscript oe i p] e pos::rest) env) Q E s:=by
 refine wpAny_execs_cons (wpAny_Assign_Subscript ?_ hs)
 obtain⟨S,fp,hA,hst⟩:=hA
 refine hE A S _ s _ E hr hA.here fun u h1 t1 ex1 rd=>?_
 obtain⟨S',hA',hst',hS1,hS2⟩:=hA.grow hst ex1 t1
 have rd':=Rd.grow rd hS1 hS2
 refine hF A S' fp {s with heap:=h1,toks:=t1} _ E hr hA' fun a h2 t2 v ex2 hkv hv ha r hup=>?_
 obtain⟨a',vs,n,e1,e2,ho,rs⟩:=r.list1
 cases e1
 refine hi A S' _ {s with heap:=h2,toks:=t2} _ E hr (hA'.here.ext ex2) fun w h3 t3 ex3 rw_=>?_
 obtain⟨t,rfl⟩:=rw_.int_inv
 have ho3:=ex3.keep a _ (frame_neL hA' ha) ho
 have hSnl:∀b,S' b->¬Fz A env b:=fun b hb e=>(hA'.sold b hb).2.1 (.inl e)
 refine setItem_lob (s:={s with heap:=h3,toks:=t3}) ho3 h0 (by unfold lim at hsz;omega) (by rw[rs.length];exact hj) fun h₁ n' ho₁ hsb=>?_
 exact k _ (AtO.fin (s:={s with heap:=h1,toks:=t1}) hA' hst' ex2 hkv hv ha hup ex3 hsb ho₁ ((rs.mono (fun b hb=>.inl hb) fun b ob hb e=>ex3.keep b ob (hSnl b hb) e).set _ (rd'.mono (fun b hb=>.inl hb) fun b ob hb e=>(ex2.trans ex3).keep b ob (hSnl b hb) e)) _)
theorem St.additem{e oe i:Expr}{p pos:Pos}{x:Str}{n₀:Nat}{ys:List PV}{upd:PV->PV}{y z:Int}{j:Int}(hr:Room C A)(hA:AtO C A env o Γ s)(hF:EvF C env Γ oe x n₀ (.list ys) upd)(hi:Ev C env (evG Γ) i true (.int j))(hE:Ev C env (evG Γ) e true (.int y))
  (h0:0≤j) (hz:ys[j.toNat]?=some (.int z)) (hsz:ys.length≤lim)
  (k:∀s',AtO C A env o ((x,some (n₀,upd (.list (ys.set j.toNat (.int (z+y))))))::Γ) s'->wpAny (model C.prog C.w) A (execs rest env) Q E s')
  (ha:∀ov iv new,augStore i ov iv new=(do holding [new,ov,iv] (setItem ov iv new);release [new,ov,iv] [];pure .next):=by intro _ _ _;rfl):
  wpAny (model C.prog C.w) A (execs (.AugAssign (.Subscript oe i p) .Add e pos::rest) env) Q E s:=by
 have hj:j<ys.length:=by
  have:=(List.getElem?_eq_some_iff.mp hz).1;omega
 refine wpAny_execs_cons (wpAny_AugAssign_Subscript_any ?_ ha)
 obtain⟨S,fp,hA,hst⟩:=hA
 refine hF A S fp s _ E hr hA fun a h2 t2 v ex2 hkv hv haf r hup=>?_
 obtain⟨a',vs,n,e1,e2,ho,rs⟩:=r.list1
 cases e1
 refine hi A S _ {s with heap:=h2,toks:=t2} _ E hr (hA.here.ext ex2) fun w h3 t3 ex3 rw_=>?_
 obtain⟨t,rfl⟩:=rw_.int_inv
 have hnl:=frame_neL hA haf
 have ho3:=ex3.keep a _ hnl ho
 obtain⟨old,hold,rold⟩:=rs.get hz
 obtain⟨to,rfl⟩:=rold.int_inv
 have hfit:j<2^63:=by unfold lim at hsz;omega
 refine wpAny_getItem_list (s:={s with heap:=h3,toks:=t3}) (IsList.of_lob ho3) h0 hfit (by simpa using hold) ?_
 refine hE A S _ {s with heap:=h3,toks:=t3} _ E hr ((hA.here.ext ex2).ext ex3) fun u h4 t4 ex4 ru=>?_
 obtain⟨tu,rfl⟩:=ru.int_inv
 refine AutoIntOps.iadd_0 ?_
 have ho4:=ex4.keep a _ hnl ho3
 have hSnl:∀b,S b->¬Fz A env b:=fun b hb e=>(hA.sold b hb).2.1 (.inl e)
 refine setItem_lob (s:={s with heap:=h4,toks:=t4+1}) ho4 h0 hfit (by rw[rs.length];exact hj) fun h₁ n' ho₁ hsb=>?_
 exact k _ (AtO.fin hA hst ex2 hkv hv haf hup (ex3.trans ex4) hsb ho₁ ((rs.mono (fun b hb=>.inl hb) fun b ob hb e=>(ex3.trans ex4).keep b ob (hSnl b hb) e).set _ (.int _ _)) _)
end
section
variable{C:Cx}{A:Around}{env:Env}{o:Org}{Γ:SGam}{s:Shared}{Q:Flow->Shared->Prop}{E:Value->Shared->Prop}{rest:List Stmt}
noncomputable abbrev Aft(C:Cx)(A:Around)(env:Env)(rest:List Stmt)(Q:Flow->Shared->Prop)(E:Value->Shared->Prop)(f:Flow)(s:Shared):Prop:=match f with| .next=>wpAny (model C.prog C.w) A (execs rest env) Q E s|f=>Q f s
noncomputable def AsgO(C:Cx)(env:Env)(Γ:SGam)(target:Expr)(x:PV)(Γ':SGam):Prop:=
 ∀ (A:Around) (o:Org) (S:Addr->Prop) (fp:Str->List Addr) (s:Shared) (v:Value) (Q:Unit->Shared->Prop) (E:Value->Shared->Prop),Room C A->At C A env S fp Γ s.heap->Step A env o S fp s->Rd C.prog C.w S s.heap v x->
  (∀fp' h' t',At C A env S fp' Γ' h'->Step A env o S fp' {s with heap:=h',toks:=t'}->(∀a b,¬frameAt A env a->s.heap.get? a=some b->h'.get? a=some b)->(∀y a,a∈fp' y->a∈fp y)->Q () {s with heap:=h',toks:=t'})->
  wpAny (model C.prog C.w) A (PySem.assign target env v) Q E s
theorem AsgO.name{x:Str}{p:Pos}{pv:PV}(hk:env.kindOf x=some .local∨env.kindOf x=some .cell)(hcd:x≠"__classdict__":=by decide):AsgO C env Γ (.Name x p) pv ((x,some (0,pv))::Γ):=
 fun A o S fp s v Q E hr hA hst rd hq=>by
  refine wpAny_assign_Name (wpAny_storeVar (C:=C) hA.eok hk hcd fun h'' t'' ek h1 h2 kx ω=>?_)
  have hkv:isVar (env.kindOf x)=true:=by rcases hk with h|h<;>rw[h]<;>rfl
  have r0:OwnT C S s.heap 0 v pv []:=.val rd
  have e:(fun a=>S a∨(s.heap.get? a=none∧(s.heap.get? a).isSome=true∧a∉([]:List Addr)∧¬False))=S:=funext fun a=>propext ⟨fun h=>(by
   rcases h with h|⟨h1,h2,_⟩
   ·exact h
   ·rw[h1]at h2;cases h2),.inl⟩
  have hput:=hA.put (.refl _ _ _) (fun ω=>False) r0 (fun a ha ω=>⟨.inl ha,by simp⟩) List.nodup_nil (fun ω h=>nomatch h) hkv ek h1 h2 kx
  have hstp:=Step.put (s':=s) (f:=[]) hst hA (.refl _ _ _) (fun ω=>False) (fun ω h=>nomatch h) kx t''
  rw[e]at hput hstp
  refine hq _ h'' t'' hput hstp kx.off fun y a ha=>?_
  by_cases hy:y=x
  ·simp[hy]at ha
  ·simpa [hy]using ha
noncomputable def AsgOL(C:Cx)(env:Env)(Γ:SGam)(ts:List Expr)(xs:List PV)(Γ':SGam):Prop:=
 ∀ (A:Around) (o:Org) (S:Addr->Prop) (fp:Str->List Addr) (s:Shared) (vs:List Value) (Q:Unit->Shared->Prop) (E:Value->Shared->Prop),Room C A->At C A env S fp Γ s.heap->Step A env o S fp s->RdAll C.prog C.w S s.heap vs xs->
  (∀fp' h' t',At C A env S fp' Γ' h'->Step A env o S fp' {s with heap:=h',toks:=t'}->(∀a b,¬frameAt A env a->s.heap.get? a=some b->h'.get? a=some b)->(∀y a,a∈fp' y->a∈fp y)->Q () {s with heap:=h',toks:=t'})->
  wpAny (model C.prog C.w) A (assignInOrder ((assignEach ts env).map (·.2)) vs) Q E s
theorem AsgOL.nil:AsgOL C env Γ [] [] Γ:=fun A o S fp s vs Q E hr hA hst rd hq=>by
 cases rd
 exact wpAny_pure (hq fp s.heap s.toks hA hst (fun ω ω ω e=>e) fun ω ω h=>h)
theorem AsgOL.cons{t:Expr}{ts:List Expr}{x:PV}{xs:List PV}{Γ' Γ'':SGam}(h1:AsgO C env Γ t x Γ')(h2:AsgOL C env Γ' ts xs Γ'')
  (hs:∀env,assignEach (t::ts) env=(false,PySem.assign t env)::assignEach ts env:=by intro _;rfl):AsgOL C env Γ (t::ts) (x::xs) Γ'':=fun A o S fp s vs Q E hr hA hst rd hq=>by
 cases rd with
 |cons r1 r2=>
  rw[hs]
  refine wpAny_assignInOrder_more ?_
  refine h1 A o S fp s _ _ E hr hA hst r1 fun fp' h' t' hA' hst' hk hf=>?_
  refine h2 A o S fp' {s with heap:=h',toks:=t'} _ _ E hr hA' hst' (r2.mono (fun ω z=>z) fun a b ha hb=>hk a b (hA.sold a ha).2.1 hb) fun fp'' h'' t'' hA'' hst'' hk' hf'=>?_
  exact hq fp'' h'' t'' hA'' hst'' (fun a b ha hb=>hk' a b ha (hk a b ha hb)) fun y a ha=>hf y a (hf' y a ha)
theorem Step.off{S:Addr->Prop}{fp:Str->List Addr}{I:Addr}{h₁:Heap}(hst:Step A env o S fp s)(hI:o.s.heap.get? I=none)(hk:∀a b,a≠I->s.heap.get? a=some b->h₁.get? a=some b)(t:Nat):Step A env o S fp {s with heap:=h₁,toks:=t}:=by
 obtain⟨h,t0,e⟩:=hst.same
 have ne:∀a,(o.s.heap.get? a).isSome=true->a≠I:=fun a ha e=>by rw[e,hI]at ha;cases ha
 refine⟨⟨h₁,t,by rw[e]⟩,hst.grow,hst.newS,hst.newF,fun a b hF hn ho=>hk a b (ne a (by rw[ho];rfl)) (hst.keep a b hF hn ho),fun a ha=>?_,fun a b hs hl ho=>let⟨sl,h1⟩:=hst.fr a b hs hl ho;⟨sl,hk a _ (ne a (by rw[ho];rfl)) h1⟩⟩
 obtain⟨b,hb⟩:=Option.isSome_iff_exists.mp (hst.live a ha)
 rw[hk a b (ne a ha) hb];rfl
inductive RetO(C:Cx)(A:Around)(env:Env)(o:Org)(pv:PV)(v:Value)(s:Shared):Prop
 |mk (S:Addr->Prop) (fp:Str->List Addr) (Γ:SGam):At C A env S fp Γ s.heap->Step A env o S fp s->Rd C.prog C.w S s.heap v pv->RetO C A env o pv v s
theorem AtO.trans{o':Org}{S:Addr->Prop}{fp:Str->List Addr}{s':Shared}(x:AtO C A env ⟨S,fp,s⟩ Γ s')(hst:Step A env o S fp s):AtO C A env o Γ s':=
 x.casesOn fun S' fp' h1 h2=>⟨S',fp',h1,hst.trans h2⟩
theorem Step.fresh{S:Addr->Prop}{fp:Str->List Addr}(hst:Step A env o S fp s){a:Addr}(ha:s.heap.get? a=none):o.s.heap.get? a=none:=by
 cases hq:o.s.heap.get? a with
 |none=>rfl
 |some b=>have:=hst.live a (by rw[hq];rfl);rw[ha]at this;cases this
theorem At.freshI{S:Addr->Prop}{fp:Str->List Addr}{h:Heap}(hA:At C A env S fp Γ h){I:Addr}(hf:h.get? I=none):(∀b,C.K.lookup I≠some b)∧¬frameAt A env I∧(∀y,I∉fp y)∧¬S I:=
 have no: ¬(h.get? I).isSome=true:=by rw[hf];nofun
 ⟨fun b hb=>(nomatch hf.symm.trans (hA.base.kin I b hb)),fun h=>no (hA.eok.frame_there hA.fra I h),fun y hy=>no (hA.fold y I hy).1,fun h=>no (hA.sold I h).1⟩
theorem Step.notS{S:Addr->Prop}{fp:Str->List Addr}(hs:Step A env o S fp s){I:Addr}(h1: ¬o.S I)(h2:∀y,I∉o.fp y)(h3:(o.s.heap.get? I).isSome=true): ¬S I∧∀y,I∉fp y:=
 have no:o.s.heap.get? I≠none:=fun e=>by rw[e]at h3;cases h3
 ⟨fun h=>(hs.newS I h).elim h1 fun h=>h.elim (fun h=>h.elim h2) no,fun y h=>(hs.newF y I h).elim (fun h=>h.elim h2) no⟩
theorem Ext.step{S:Addr->Prop}{fp:Str->List Addr}{h1:Heap}(ex:Ext A env s.heap h1)(hst:Step A env o S fp s)(hns:∃m,s.heap.Ns env.locals m)(N:Addr->Prop)(hN:∀a,N a->s.heap.get? a=none)(t1:Nat):Step A env o (fun a=>S a∨N a) fp {s with heap:=h1,toks:=t1}:=
 hst.trans ⟨⟨h1,t1,rfl⟩,fun a ha=>.inl ha,fun a ha=>ha.imp id fun q=>.inr (hN a q),fun y a ha=>.inl ⟨y,ha⟩,fun a b hF ω ho=>ex.keep a b (fun e=>hF (.inl e)) ho,fun a ha=>ex.live hns ha,ex.fr⟩
theorem hid1{α:Type}{M:Model}{A:Around}{t:Sem α}{Q:α->Shared->Prop}{E:Value->Shared->Prop}{s:Shared}(h:∀Q':α->Shared->Prop,(∀a s,Q a s->Q' a s)->wpAny M A t Q' E s):wpAny M A t Q E s:=h Q fun ω ω x=>x
theorem forLoop_core{prog:Program}{w:World}{R:Result->Shared->Prop}{target:Expr}{it:Value}{body orelse:List Stmt}(I:Nat->Shared->Prop)
  (turn:∀n s,I n s->∀ (Qn:Option Value->Shared->Prop) (En:Value->Shared->Prop) (QB:Flow->Shared->Prop),(∀e s',notedBy (model prog w) A env (fun e s'=>R (.error e) s') e s'->En e s')->
   (∀s₁,wpAny (model prog w) A (execs orelse env) (fun f s₃=>R (.ok f) s₃) En s₁->Qn none s₁)->
   (∀v s₁,wpAny (model prog w) A (letOwnedTupleGo target it v) (fun ω s₁'=>wpAny (model prog w) A (PySem.assign target env v) (fun ω s₂=>wpAny (model prog w) A (execs body env) QB En s₂) En s₁') En s₁->Qn (some v) s₁)->
   (∀m s',m<n->I m s'->QB .next s'∧QB .cont s')->(∀s',R (.ok .next) s'->QB .brk s')->(∀v s',R (.ok (.ret v)) s'->QB (.ret v) s')->wpAny (model prog w) A (pyNext it) Qn En s)
  (n:Nat) (h:I n s):codeAny (model prog w) A (.forLoop target it body orelse env) R s:=
 codeAny_forLoop_any I (fun n s hI=>turn n s hI _ _ _ (fun ω ω x=>x) (fun ω x=>x) (fun ω ω x=>x) (fun m ω hm x=>⟨⟨m,hm,x⟩,⟨m,hm,x⟩⟩) (fun ω x=>x) fun ω ω x=>x) n h
inductive FInv(C:Cx)(A:Around)(env:Env)(o:Org)(inv:Nat->SGam->Prop)(xl:Nat)(S:Addr->Prop)(h1:Heap)(St:Nat->Heap->Prop)(I:Addr)(n:Nat)(s':Shared):Prop
 |mk (i:Nat) (Γi:SGam) (Si:Addr->Prop) (fpi:Str->List Addr):i≤xl->n=xl - i->inv i Γi->At C A env Si fpi Γi s'.heap->Step A env o Si fpi s'->(∀a,S a->Si a)->(∀a b,S a->h1.get? a=some b->s'.heap.get? a=some b)->St i s'.heap->¬Si I->(∀y,I∉fpi y)->FInv C A env o inv xl S h1 St I n s'
theorem St.forP{target it:Expr}{body orelse:List Stmt}{pos:Pos}{xs:List PV}(hr:Room C A)(hA:AtO C A env o Γ s)(hI:EvI C env (evG Γ) it true xs)(inv:Nat->SGam->Prop)(tg:Nat->PV->SGam->SGam)(h0:inv 0 Γ)
  (htg:∀ (i:Nat) (x:PV) Γi,xs[i]?=some x->inv i Γi->AsgO C env Γi target x (tg i x Γi))
  (step:∀ (i:Nat) (x:PV) Γi,xs[i]?=some x->inv i Γi->∀ (o':Org) (s':Shared) (Q':Flow->Shared->Prop) (E':Value->Shared->Prop),(PassesOwn (model C.prog C.w) A env E->∀e s',E e s'->E' e s')->(∀S fp s'',Step A env o' S fp s''->Step A env o S fp s'')->AtO C A env o' (tg i x Γi) s'->(∀Γ' s'',inv (i+1) Γ'->AtO C A env o' Γ' s''->Q' .next s''∧Q' .cont s'')->
   (∀s,wpAny (model C.prog C.w) A (execs rest env) Q E s->Q' .brk s)->(∀v s,Q (.ret v) s->Q' (.ret v) s)->wpAny (model C.prog C.w) A (execs body env) Q' E' s')
  (k:∀s' Γ',inv xs.length Γ'->AtO C A env o Γ' s'->wpAny (model C.prog C.w) A (execs orelse env) (Aft C A env rest Q E) (fun e s''=>notedBy (model C.prog C.w) A env (fun e s'=>cameBackBy (model C.prog C.w) A env E e s') e s'') s')
  (hs:∀x,foldedSetIterable it env x=pure x:=by intro _;rfl):
  wpAny (model C.prog C.w) A (execs (.For target it body orelse pos::rest) env) Q E s:=by
 refine wpAny_execs_cons (hid1 fun Q1 hQ=>wpAny_For ?_ hs)
 obtain⟨S,fp,hA,hst⟩:=hA
 refine hI A S _ s _ E hr hA.here fun I h1 t1 fpW P St ex hfI hlow W hst1 hP hfp hn24 hqu=>?_
 have hIa:=hA.freshI hfI
 refine forLoop_core (FInv C A env o inv xs.length (fun a=>S a∨(s.heap.get? a=none∧(h1.get? a).isSome=true∧a≠I)) h1 St I) (fun n s' hI' Qn En QB hE hN hV hQn hQb hQr=>?_) xs.length
  ⟨0,Γ,_,fp,Nat.zero_le _,rfl,h0,hA.ext ex _ (fun a ha=>⟨ha.1,ha.2.1⟩),ex.step hst hA.eok.ns _ (fun a ha=>ha.1) t1,fun ω h=>h,fun ω ω ω e=>e,hst1,fun h=>h.elim hIa.2.2.2 fun h=>h.2.2 rfl,hIa.2.2.1⟩
 obtain⟨i,Γi,Si,fpi,hi,hn,hΓi,hAi,hsi,hSS,hkS,hSti,hISi,hIfi⟩:=hI'
 have hB:∀a,a=I->mainGlobals<a∧(∀b,C.K.lookup a≠some b)∧¬Si a∧¬frameAt A env a∧∀y,a∉fpi y:=fun a ha=>ha▸⟨hlow,hIa.1,hISi,hIa.2.1,hIfi⟩
 have nI:∀a,¬a=I->a∉[I]:=fun a h hm=>h (List.mem_singleton.mp hm)
 rcases Nat.lt_or_ge i xs.length with hlt|hge
 ·refine W.item i s' _ _ hlt hSti fun v h2 t2 hv hSt2 hk2=>hV v _ ?_
  have kI:∀a b,¬(a=I)->s'.heap.get? a=some b->h2.get? a=some b:=fun a b ha hb=>hk2 a b (nI a ha) hb
  obtain⟨ob,T,ho,hcl,hT⟩:=hqu _ _ hSt2
  refine letOwned_quiet (s:={s' with heap:=h2,toks:=t2}) ho hcl hT ?_
  obtain⟨x,hx,rx⟩:=hP i v hv
  have sn:∀a,(S a∨s.heap.get? a=none)->(h1.get? a).isSome=true->a≠I->S a∨(s.heap.get? a=none∧(h1.get? a).isSome=true∧a≠I):=fun a h h' n=>h.imp id fun h=>⟨h,h',n⟩
  refine htg i x Γi hx hΓi A o Si fpi {s' with heap:=h2,toks:=t2} v _ _ hr (hAi.quiet (fun a=>a=I) kI hB) (hsi.off (hst.fresh hfI) kI t2)
   (rx.there.mono (fun a ha=>hSS a (sn a ha.1.1 ha.2 ha.1.2)) fun a b ha hb=>kI a b ha.1.2 (hkS a b (sn a ha.1.1 ha.2 ha.1.2) hb)) fun fp3 h3 t3 hA3 hs3 hk3 hf3=>?_
  have hNF:=fun a ha=>(hA3.sold a (hSS a ha)).2
  have hSt3:St (i+1) h3:=W.frame _ _ _ hSt2 fun b hb ob hob=>hk3 b ob (by
   rcases Classical.em (b=I)with e|e
   ·exact e▸hIa.2.1
   ·exact(hNF b ((hfp b hb).1.elim (fun h=>absurd h e) fun h=>sn b h (hfp b hb).2 e)).1) hob
  refine step i x Γi hx hΓi ⟨Si,fp3,{s' with heap:=h3,toks:=t3}⟩ _ _ _ (fun hp e s' he=>hE e s' (hp e s' he)) (fun S fp s'' h=>hs3.trans h) ⟨Si,fp3,hA3,Step.refl _ _ _ _ _⟩ (fun Γ' s'' hinv hA''=>hQn (xs.length - (i+1)) s'' (sub_lt_of hn hlt) ?_) (fun s h=>hQb s (hQ .next s h)) fun v s h=>hQr v s (hQ (.ret v) s h)
  obtain⟨S4,fp4,hA4,hs4⟩:=hA''
  have hIn:=hs4.notS hISi (fun y hy=>hIfi y (hf3 y I hy)) (so (hk3 I ob hIa.2.1 ho))
  refine⟨i+1,Γ',S4,fp4,hlt,rfl,hinv,hA4,hs3.trans hs4,fun a ha=>hs4.grow a (hSS a ha),fun a b ha hb=>hs4.keep a b (hNF a ha).1 (hNF a ha).2 (hk3 a b (hNF a ha).1 (kI a b (fun e=>?_) (hkS a b ha hb))),W.frame _ _ _ hSt3 fun b hb ob hob=>?_,hIn.1,hIn.2⟩
  ·exact hISi (e▸hSS a ha)
  ·rcases Classical.em (b=I)with e|e
   ·exact hs4.keep b ob (e▸hIa.2.1) (fun y hy=>hIfi y (e▸hf3 y b hy)) hob
   ·have:=hNF b ((hfp b hb).1.elim (fun h=>absurd h e) fun h=>sn b h (hfp b hb).2 e)
    exact hs4.keep b ob this.1 this.2 hob
 ·have hie:i=xs.length:=Nat.le_antisymm hi hge
  refine W.done s' _ _ (hie▸hSti) fun h2 t2 hk2=>hN _ ?_
  have kI:∀a b,¬(a=I)->s'.heap.get? a=some b->h2.get? a=some b:=fun a b ha hb=>hk2 a b (nI a ha) hb
  exact wpAny_mono (k _ Γi (hie▸hΓi) ⟨Si,fpi,hAi.quiet (fun a=>a=I) kI hB,hsi.off (hst.fresh hfI) kI t2⟩) (fun f s'' h=>hQ f s'' (by cases f<;>exact h)) hE
end
section
variable{C:Cx}{A:Around}{env:Env}{o:Org}{Γ:SGam}{s:Shared}{Q:Flow->Shared->Prop}{E:Value->Shared->Prop}{rest:List Stmt}{S:Addr->Prop}{fp:Str->List Addr}{h:Heap}
theorem Step.off2{I J:Addr}{h₁:Heap}(hst:Step A env o S fp s)(hI:o.s.heap.get? I=none)(hJ:o.s.heap.get? J=none)(hk:∀a b,a≠I->a≠J->s.heap.get? a=some b->h₁.get? a=some b)(t:Nat):Step A env o S fp {s with heap:=h₁,toks:=t}:=by
 obtain⟨h,t0,e⟩:=hst.same
 have ne:∀a,(o.s.heap.get? a).isSome=true->a≠I∧a≠J:=fun a ha=>⟨fun e=>(by rw[e,hI]at ha;cases ha),fun e=>(by rw[e,hJ]at ha;cases ha)⟩
 refine⟨⟨h₁,t,by rw[e]⟩,hst.grow,hst.newS,hst.newF,fun a b hF hn ho=>?_,fun a ha=>?_,fun a b hs hl ho=>?_⟩
 ·have:=ne a (by rw[ho];rfl)
  exact hk a b this.1 this.2 (hst.keep a b hF hn ho)
 ·obtain⟨b,hb⟩:=Option.isSome_iff_exists.mp (hst.live a ha)
  rw[hk a b (ne a ha).1 (ne a ha).2 hb];rfl
 ·obtain⟨sl,h1⟩:=hst.fr a b hs hl ho
  have:=ne a (by rw[ho];rfl)
  exact⟨sl,hk a _ this.1 this.2 h1⟩
noncomputable abbrev EnumAt(I it l:Addr)(items:Array Value)(i:Nat)(h:Heap):Prop:=(∃old,IsEnum h I it i old)∧h.IsListIter it l i∧h.IsList l items
theorem EnumAt.live{I it l:Addr}{items:Array Value}{i:Nat}{h:Heap}(x:EnumAt I it l items i h){a:Addr}(ha:a=I∨a=it):(h.get? a).isSome=true:=
 ha.elim (fun e=>x.1.elim fun old g=>e▸so g) fun e=>x.2.1.elim fun ob g=>e▸so g.1
inductive EInv(C:Cx)(A:Around)(env:Env)(o:Org)(inv:Nat->SGam)(xl:Nat)(S:Addr->Prop)(h1:Heap)(I it l:Addr)(items:Array Value)(n:Nat)(s':Shared):Prop
 |mk (i:Nat) (Si:Addr->Prop) (fpi:Str->List Addr):i≤xl->n=xl - i->At C A env Si fpi (inv i) s'.heap->Step A env o Si fpi s'->(∀a,S a->Si a)->(∀a b,S a->h1.get? a=some b->s'.heap.get? a=some b)->EnumAt I it l items i s'.heap->(∀a,a=I∨a=it->¬Si a∧∀y,a∉fpi y)->EInv C A env o inv xl S h1 I it l items n s'
theorem enum_core{elts:List Expr}{tk:Nat}{tp:Pos}{body orelse:List Stmt}{xs:List PV}{I it l:Addr}{items:Array Value}{R:Result->Shared->Prop}(hr:Room C A)(hA:At C A env S fp Γ s.heap)(hst:Step A env o S fp s)
  (hlS:S l) (hl:s.heap.IsList l items) (he:IsEnum s.heap I it 0 .none) (hit:s.heap.IsListIter it l 0) (hIt:I≠it)
  (hI:o.s.heap.get? I=none∧mainGlobals<I∧¬S I∧¬frameAt A env I∧(∀y,I∉fp y)∧∀b,C.K.lookup I≠some b) (hJ:o.s.heap.get? it=none∧mainGlobals<it∧¬S it∧¬frameAt A env it∧(∀y,it∉fp y)∧∀b,C.K.lookup it≠some b)
  (hxs:∀ (i:Nat) v,items[i]?=some v->∃x,xs[i]?=some x∧Rd C.prog C.w S s.heap v x) (hlen:items.size=xs.length) (inv tg:Nat->SGam) (h0:Sle (inv 0) Γ)
  (hN:C.hd=false) (htg:∀ (i:Nat) (x:PV),xs[i]?=some x->AsgOL C env (inv i) elts [.int i,x] (tg i))
  (hel:∀env,(assignEach elts env).length=2:=by intro _;rfl) (hns:∀env,List.findIdx? (fun x=>x.fst) (assignEach elts env)=none:=by intro _;rfl)
  (step:∀ (i:Nat) (x:PV),xs[i]?=some x->∀ (o':Org) (s':Shared) (Q':Flow->Shared->Prop) (E':Value->Shared->Prop),AtO C A env o' (tg i) s'->(∀s'',AtO C A env o' (inv (i+1)) s''->Q' .next s'')->wpAny (model C.prog C.w) A (execs body env) Q' E' s')
  (k:∀s',AtO C A env o (inv xs.length) s'->wpAny (model C.prog C.w) A (execs orelse env) (fun f s₃=>R (.ok f) s₃) (notedBy (model C.prog C.w) A env fun e s'=>R (.error e) s') s'):
  codeAny (model C.prog C.w) A (.forLoop (.Tuple elts tk tp) (.ref I) body orelse env) R s:=by
 have hle:l≠I:=fun e=>hI.2.2.1 (e▸hlS)
 have hli:l≠it:=fun e=>hJ.2.2.1 (e▸hlS)
 have W:=WalksT.enumerate (prog:=C.prog) (w:=C.w) (hr.1 hN) I it l hIt hle hli items
 have hlF: ¬frameAt A env l∧∀y,l∉fp y:=(hA.sold l hlS).2
 have hB0:∀a,(a=I∨a=it)->o.s.heap.get? a=none∧mainGlobals<a∧¬S a∧¬frameAt A env a∧(∀y,a∉fp y)∧∀b,C.K.lookup a≠some b:=fun a ha=>ha.elim (fun e=>e▸hI) fun e=>e▸hJ
 have nwr:∀a,¬(a=I∨a=it)->a∉[I,it]:=fun a h hm=>h ((List.mem_cons.mp hm).imp_right List.mem_singleton.mp)
 refine forLoop_core (EInv C A env o inv xs.length S s.heap I it l items) (fun n s' hI' Qn En QB hE hNn hV hQn hQb hQr=>?_) xs.length ⟨0,S,fp,Nat.zero_le _,rfl,
  {cx:=hA.cx,base:=hA.base,eok:=hA.eok,fra:=hA.fra,sold:=hA.sold,disj:=hA.disj,ndup:=hA.ndup,fold:=hA.fold,vars:=fun y n pv hy=>hA.vars y n pv (h0 y _ hy)},hst,fun ω h=>h,fun ω ω ω e=>e,⟨⟨_,he⟩,hit,hl⟩,fun a ha=>⟨(hB0 a ha).2.2.1,(hB0 a ha).2.2.2.2.1⟩⟩
 obtain⟨i,Si,fpi,hi,hn,hAi,hsi,hSS,hkS,hSti,hIi⟩:=hI'
 have hB:∀a,(a=I∨a=it)->mainGlobals<a∧(∀b,C.K.lookup a≠some b)∧¬Si a∧¬frameAt A env a∧∀y,a∉fpi y:=fun a ha=>⟨(hB0 a ha).2.1,(hB0 a ha).2.2.2.2.2,(hIi a ha).1,(hB0 a ha).2.2.2.1,(hIi a ha).2⟩
 have off:∀ {s1:Shared} (h2:Heap) (t2:Nat),Step A env o Si fpi s1->(∀a b,¬(a=I∨a=it)->s1.heap.get? a=some b->h2.get? a=some b)->Step A env o Si fpi {s1 with heap:=h2,toks:=t2}:=fun h2 t2 x k=>x.off2 hI.1 hJ.1 (fun a b ha ha' hb=>k a b (fun h=>h.elim ha ha') hb) t2
 rcases Nat.lt_or_ge i xs.length with hlt|hge
 ·refine W.item i s' _ _ (by rw[hlen];exact hlt) hSti fun T vals h2 t2 hv hT hTup hMid hk2=>hV _ _ ?_
  obtain⟨t,v,hvi,rfl⟩:=hv
  have kI:∀a b,¬(a=I∨a=it)->s'.heap.get? a=some b->h2.get? a=some b:=fun a b ha hb=>hk2 a b (nwr a ha) hb
  refine W.go elts tk tp i T {s' with heap:=h2,toks:=t2} _ _ hMid fun h3 hSt3 hk3=>?_
  have kI3:∀a b,¬(a=I∨a=it)->h2.get? a=some b->h3.get? a=some b:=fun a b ha hb=>hk3 a b (nwr a ha) hb
  have hTB: ¬(T=I∨T=it):=fun h=>W.apart i T h2 hMid (List.mem_cons.mpr (h.imp_right List.mem_singleton.mpr))
  obtain⟨x,hx,rx⟩:=hxs i v hvi
  refine wpAny_assign_Tuple (s:={s' with heap:=h3,toks:=t2}) (hr.1 hN) (items:=#[.int i t,v]) (hTup.elim fun ob h=>⟨ob,kI3 T ob hTB h.1,h.2⟩) (by rw[hel];rfl) (hns env) fun h4 hx4=>?_
  have kT:∀a b,h3.get? a=some b->h4.get? a=some b:=fun a b hb=>hx4 a b (Nat.ne_of_lt (Heap.lt_size hb)) hb
  have k4:∀a b,¬(a=I∨a=it)->s'.heap.get? a=some b->h4.get? a=some b:=fun a b ha hb=>kT a b (kI3 a b ha (kI a b ha hb))
  have hkS4:∀a b,S a->s.heap.get? a=some b->h4.get? a=some b:=fun a b ha hb=>k4 a b (fun h=>(hB a h).2.2.1 (hSS a ha)) (hkS a b ha hb)
  refine htg i x hx A o Si fpi {s' with heap:=h4,toks:=t2} _ _ _ hr (hAi.quiet (fun a=>a=I∨a=it) k4 hB) (off h4 t2 hsi k4) (.cons (.int _ _) (.cons (rx.mono hSS hkS4) .nil)) fun fp5 h5 t5 hA5 hs5 hk5 hf5=>?_
  have hSt5:EnumAt I it l items (i+1) h5:=W.frame _ _ _ (W.frame _ _ _ hSt3 fun b ω ob hob=>kT b ob hob) fun b hb ob hob=>hk5 b ob (by
   rcases List.mem_cons.mp hb with e|hb
   ·exact e▸hI.2.2.2.1
   ·rcases List.mem_cons.mp hb with e|hb
    ·exact e▸hJ.2.2.2.1
    ·exact List.mem_singleton.mp hb▸hlF.1) hob
  have hB5:∀a,(a=I∨a=it)->∀y,a∉fp5 y:=fun a ha y hy=>(hIi a ha).2 y (hf5 y a hy)
  refine step i x hx ⟨Si,fp5,{s' with heap:=h5,toks:=t5}⟩ _ _ _ ⟨Si,fp5,hA5,Step.refl _ _ _ _ _⟩ fun s'' hA''=>(hQn (xs.length - (i+1)) s'' (sub_lt_of hn hlt) ?_).1
  obtain⟨S6,fp6,hA6,hs6⟩:=hA''
  have hNF:∀a,S a->¬frameAt A env a∧∀y,a∉fp5 y:=fun a ha=>(hA5.sold a (hSS a ha)).2
  refine⟨i+1,S6,fp6,hlt,rfl,hA6,hs5.trans hs6,fun a ha=>hs6.grow a (hSS a ha),fun a b ha hb=>hs6.keep a b (hNF a ha).1 (hNF a ha).2 (hk5 a b (hNF a ha).1 (hkS4 a b ha hb)),W.frame _ _ _ hSt5 fun b hb ob hob=>?_,fun a ha=>hs6.notS (hIi a ha).1 (hB5 a ha) (hSt5.live ha)⟩
  rcases List.mem_cons.mp hb with e|hb
  ·exact hs6.keep _ ob (e▸hI.2.2.2.1) (hB5 _ (.inl e)) hob
  ·rcases List.mem_cons.mp hb with e|hb
   ·exact hs6.keep _ ob (e▸hJ.2.2.2.1) (hB5 _ (.inr e)) hob
   ·have:=hNF b (List.mem_singleton.mp hb▸hlS)
    exact hs6.keep _ ob this.1 this.2 hob
 ·have hie:i=xs.length:=Nat.le_antisymm hi hge
  refine W.done s' _ _ (by rw[hlen,←hie];exact hSti) fun h2 t2 hk2=>hNn _ ?_
  have kI:∀a b,¬(a=I∨a=it)->s'.heap.get? a=some b->h2.get? a=some b:=fun a b ha hb=>hk2 a b (nwr a ha) hb
  exact wpAny_mono (k _ ⟨Si,fpi,hie▸hAi.quiet (fun a=>a=I∨a=it) kI hB,off h2 t2 hsi kI⟩) (fun ω ω h=>h) hE
end
section
variable{C:Cx}{A:Around}{env:Env}{Γ:Gam}
section
variable{l r:Expr}{p:Pos}{m1 m2 md:Bool}
theorem Ev.mod_int{i j:Int}(h1:Ev C env Γ l m1 (.int i))(h2:Ev C env Γ r m2 (.int j))(hj:j≠0):Ev C env Γ (.BinOp l .Mod r p) md (.int (i.fmod j)):=
 Ev.bin h1 h2 fun A S U s h₀ v u Q E hr hh e hns rv ru hq=>by
  obtain⟨t,rfl⟩:=rv.int_inv;obtain⟨t',rfl⟩:=ru.int_inv
  exact mod_int' hj (hq _ s.heap _ (.refl _ _ _) (.int _ _))
theorem Ev.floordiv_int{i j:Int}(h1:Ev C env Γ l m1 (.int i))(h2:Ev C env Γ r m2 (.int j))(hj:j≠0)(hsm:j.natAbs<1073741824):Ev C env Γ (.BinOp l .FloorDiv r p) md (.int (i.fdiv j)):=
 Ev.bin h1 h2 fun A S U s h₀ v u Q E hr hh e hns rv ru hq=>by
  obtain⟨t,rfl⟩:=rv.int_inv;obtain⟨t',rfl⟩:=ru.int_inv
  exact PyProof.Rows.floordiv_int hj (hq _ s.heap _ (.refl _ _ _) (.int _ _)) (.inl (PyProof.noPylong_small hsm))
end
theorem callWith_args{M:Model}{A:Around}{E:Value->Shared->Prop}{s:Shared}{f:Value}{args:List (Bool×Sem Value)}{pos:Pos}{Q:Value->Shared->Prop}(hf:(∃T,f= .type T)∨∃id,f= .builtin id)
  (hne:∃x rest,args=(false,x)::rest) (hplain:args.any (·.1)=false) (h:wpAny M A (spliced args) (fun vs s₁=>wpAny M A (call f vs) Q E s₁) E s):wpAny M A (callWith pos f [] args []) Q E s:=by
 obtain⟨x,rest,rfl⟩:=hne
 rcases hf with⟨T,rfl⟩|⟨id,rfl⟩
 ·exact PySem.callWith_type hplain (evalArgs_plain h)
 ·exact Calls.callWith_builtin hplain (evalArgs_plain h)
noncomputable def Built(C:Cx)(env:Env)(Γ:Gam)(f:Value)(m1:Bool)(xs:List PV)(md:Bool)(y:PV):Prop:=
 ((∃T,f= .type T)∨∃id,f= .builtin id)∧
 ∀ (A:Around) (S U:Addr->Prop) (s:Shared) (h₀:Heap) (vs:List Value) (Q:Value->Shared->Prop) (E:Value->Shared->Prop),Room C A->Here C A S U env Γ s.heap->Ext A env h₀ s.heap->Nsf C A env h₀->
   RdAll C.prog C.w (Reg m1 S U h₀) s.heap vs xs->
   (∀v h' t',Ext A env s.heap h'->Rd C.prog C.w (Reg md S U h₀) h' v y->Q v {s with heap:=h',toks:=t'})->wpAny (model C.prog C.w) A (call f vs) Q E s
theorem Ev.call{id:Str}{p pos:Pos}{args:List Expr}{f:Value}{m1 md:Bool}{xs:List PV}{y:PV}(hf:Ev C env Γ (.Name id p) true (.raw f))(ha:EvL C env Γ args m1 xs)(hB:Built C env Γ f m1 xs md y)
  (hne:∀env,∃x rest,backTo pos (starEach args env)=(false,x)::rest:=by intro _;exact⟨_,_,rfl⟩) (hplain:∀env,(backTo pos (starEach args env)).any (·.1)=false:=by intro _;rfl):
  Ev C env Γ (.Call (.Name id p) args [] pos) md y:=fun A S U s Q E hr hh hq=>by
 refine wpAny_Call_NameR ?_
 refine hf A S U s _ E hr hh fun v h1 t1 e1 r1=>?_
 cases r1.raw_inv
 refine callWith_args hB.1 (hne env) (hplain env) ?_
 refine ha A S U {s with heap:=h1,toks:=t1} pos _ E hr (hh.ext e1) fun vs h2 t2 e2 r2=>?_
 refine hB.2 A S U {s with heap:=h2,toks:=t2} s.heap vs _ E hr ((hh.ext e1).ext e2) (e1.trans e2) hh.nsf (r2.mono (fun a ha=>ha.imp (fun z=>z) (e1.fresh hh.eok.ns)) fun ω ω ω z=>z) fun u h3 t3 e3 r3=>?_
 exact hq u h3 t3 ((e1.trans e2).trans e3) r3
theorem RdAll.one_inv{prog:Program}{w:World}{S:Addr->Prop}{h:Heap}{vs:List Value}{x:PV}(r:RdAll prog w S h vs [x]):∃v,vs=[v]∧Rd prog w S h v x:=by
 cases r with|cons a b=>cases b;exact⟨_,rfl,a⟩
theorem RdAll.two_inv{prog:Program}{w:World}{S:Addr->Prop}{h:Heap}{vs:List Value}{x y:PV}(r:RdAll prog w S h vs [x,y]):∃v u,vs=[v,u]∧Rd prog w S h v x∧Rd prog w S h u y:=by
 cases r with|cons a b=>obtain⟨u,rfl,r⟩:=b.one_inv;exact⟨_,_,rfl,a,r⟩
section
variable{m1 md:Bool}
theorem Built.len_list{xs:List PV}(hsz:xs.length≤lim):Built C env Γ (.builtin "len") m1 [.list xs] md (.int xs.length):=
 ⟨.inr ⟨_,rfl⟩,fun A S U s h₀ vs Q E hr hh e hns rv hq=>by
  obtain⟨v,rfl,r⟩:=rv.one_inv
  obtain⟨a,us,n,rfl,ha,hoa,ra⟩:=r.list_inv
  have hl:=ra.length
  refine Calls.call_len_list (IsList.of_lob hoa) (by simp only[List.size_toArray,hl];unfold lim at hsz;omega) ?_
  have:(us.toArray.size:Int)=xs.length:=by simp[hl]
  rw[this]
  exact hq _ s.heap _ (.refl _ _ _) (.int _ _)⟩
theorem Built.range1{n:Int}:Built C env Γ (.type "range") m1 [.int n] md (.rng 0 n 1):=
 ⟨.inl ⟨_,rfl⟩,fun A S U s h₀ vs Q E hr hh e hns rv hq=>by
  obtain⟨v,rfl,r⟩:=rv.one_inv
  obtain⟨t,rfl⟩:=r.int_inv
  obtain⟨m,hm⟩:=hh.eok.ns
  refine range1_rows (fr0 hm) news0 fun h' tk t1 u1 v1 hR F N hk=>?_
  exact hq _ h' tk (.of_keeps hk) (.rng (.inr (e.fresh hns.ns fresh_size)) hR)⟩
theorem Built.range3{a b c:Int}(hc:c≠0)(hc2:c.natAbs<1073741824):Built C env Γ (.type "range") m1 [.int a,.int b,.int c] md (.rng a b c):=
 ⟨.inl ⟨_,rfl⟩,fun A S U s h₀ vs Q E hr hh e hns rv hq=>by
  cases rv with
  |cons r rv=>
   obtain⟨v,u,rfl,r',r''⟩:=rv.two_inv
   obtain⟨t,rfl⟩:=r.int_inv
   obtain⟨t',rfl⟩:=r'.int_inv
   obtain⟨t'',rfl⟩:=r''.int_inv
   obtain⟨m,hm⟩:=hh.eok.ns
   refine range3_rows (fr0 hm) news0 hc (fun h' tk t1 u1 v1 hR F N hk=>?_) (.inl (PyProof.noPylong_small hc2))
   exact hq _ h' tk (.of_keeps hk) (.rng (.inr (e.fresh hns.ns fresh_size)) hR)⟩
noncomputable def pints(ns:List Int):List PV:=ns.map .int
theorem RdAll.ints{S:Addr->Prop}{h:Heap}:∀ {vs:List Value} {ns:List Int},RdAll C.prog C.w S h vs (pints ns)->IntsAre vs ns
 |[],[],_=>.nil
 |v::vs,n::ns,r=>by
  cases r with
  |cons a b=>
   obtain⟨t,rfl⟩:=a.int_inv
   exact .cons _ _ (RdAll.ints b)
 |[],n::ns,r=>by cases r
 |v::vs,[],r=>by cases r
theorem Built.min_list{ns:List Int}{M:Int}(hM:M∈ns)(hle:∀a∈ns,M≤a)(hN:C.hd=false:=by assumption):Built C env Γ (.builtin "min") m1 [.list (pints ns)] md (.int M):=
 ⟨.inr ⟨_,rfl⟩,fun A S U s h₀ vs Q E hr hh e hns rv hq=>by
  obtain⟨v,rfl,r⟩:=rv.one_inv
  obtain⟨a,us,n,rfl,ha,hoa,ra⟩:=r.list_inv
  obtain⟨m,hm⟩:=hh.eok.ns
  refine min_list_N (hr.1 hN) (fr0 hm) news0 (IsList.of_lob hoa) ra.ints (List.length_pos_of_mem hM) fun h' M' t tk F N h1 h2=>?_
  have:M'=M:=Int.le_antisymm (h2 M hM) (hle M' h1)
  subst this
  exact hq _ h' tk (ext_of_fn hm F N fun ω h=>h) (.int _ _)⟩
theorem Built.max_list{ns:List Int}{M:Int}(hM:M∈ns)(hle:∀a∈ns,a≤M)(hN:C.hd=false:=by assumption):Built C env Γ (.builtin "max") m1 [.list (pints ns)] md (.int M):=
 ⟨.inr ⟨_,rfl⟩,fun A S U s h₀ vs Q E hr hh e hns rv hq=>by
  obtain⟨v,rfl,r⟩:=rv.one_inv
  obtain⟨a,us,n,rfl,ha,hoa,ra⟩:=r.list_inv
  obtain⟨m,hm⟩:=hh.eok.ns
  refine max_list_N (hr.1 hN) (fr0 hm) news0 (IsList.of_lob hoa) ra.ints (List.length_pos_of_mem hM) fun h' M' t tk F N h1 h2=>?_
  have:M'=M:=Int.le_antisymm (hle M' h1) (h2 M hM)
  subst this
  exact hq _ h' tk (ext_of_fn hm F N fun ω h=>h) (.int _ _)⟩
theorem Built.sum{ns:List Int}(hN:C.hd=false:=by assumption):Built C env Γ (.builtin "sum") m1 [.list (pints ns)] md (.int ns.sum):=
 ⟨.inr ⟨_,rfl⟩,fun A S U s h₀ vs Q E hr hh e hns rv hq=>by
  obtain⟨v,rfl,r⟩:=rv.one_inv
  obtain⟨a,us,n,rfl,ha,hoa,ra⟩:=r.list_inv
  obtain⟨m,hm⟩:=hh.eok.ns
  have hi:=ra.ints
  obtain⟨xs,e'⟩:=hi.allInts.items
  have hl:=IsList.of_lob hoa
  have hns':ns=xs.toList.map (·.1):=by
   rw[←hi.numsOf,←nums_intItems,←e']
  rw[e']at hl
  refine sum_intListG (hr.1 hN) hl fun h' tk t' hk=>?_
  have hs:preSum (numAt xs) xs.size=ns.sum:=by
   rw[hns',preSum_eq,List.take_of_length_le (by simp)]
  rw[hs]
  exact hq _ h' tk (.of_keeps hk) (.int _ _)⟩
theorem Built.type_tuple{xs:List PV}:Built C env Γ (.type "type") m1 [.tuple xs] md (.raw (.type "tuple")):=
 ⟨.inl ⟨_,rfl⟩,fun A S U s h₀ vs Q E hr hh e hns rv hq=>by
  obtain⟨v,rfl,r⟩:=rv.one_inv
  exact call_type_of r.tuple_type (by decide) (hq _ s.heap _ (.refl _ _ _) (.raw _))⟩
end
end
section
variable{C:Cx}{S:Addr->Prop}{h:Heap}
theorem OwnTs.one{k:Nat}{v:Value}{x:PV}{f:List Addr}(r:OwnT C S h k v x f):OwnTs C S h k [v] [x] f:=by
 have:=OwnTs.cons r (.nil);simpa using this
end
section
variable{C:Cx}{A:Around}{env:Env}{o:Org}{Γ:SGam}{s:Shared}{Q:Flow->Shared->Prop}{E:Value->Shared->Prop}{rest:List Stmt}
theorem St.dset{e i:Expr}{p px pos:Pos}{x:Str}{m:Nat}{kvs:List (Key×PV)}{k:Key}{y:PV}(hr:Room C A)(hA:AtO C A env o Γ s)(hx:Γ.lookup x=some (some (m+1,.dict kvs)))(hE:EvK C env (evG Γ) e m y)(hi:Ev C env (evG Γ) i true k.pv)
  (hnew:∀kv∈kvs,kv.1≠k) (hsz:kvs.length≤lim)
  (kk:∀s',AtO C A env o ((x,some (m+1,.dict (kvs++[(k,y)])))::Γ) s'->wpAny (model C.prog C.w) A (execs rest env) Q E s')
  (hs:swapsWith e (some (.Subscript (.Name x px) i p)) pos.line env=pure false:=by rfl) (hd:(x==("__debug__":Str))=false:=by rfl):
  wpAny (model C.prog C.w) A (execs (.Assign [.Subscript (.Name x px) i p] e pos::rest) env) Q E s:=by
 refine wpAny_execs_cons (wpAny_Assign_Subscript ?_ hs)
 obtain⟨S,fp,hA,hst⟩:=hA
 refine hE A S _ s _ E hr hA.here fun u h1 t1 f ex1 ru hnd hf=>?_
 obtain⟨hkv,v,hv,r⟩:=hA.vars x _ _ hx
 have hv1:=hv.ext hA.eok hA.fra ex1
 refine wpAny_Name (wpAny_loadVar (s:={s with heap:=h1,toks:=t1}) (hA.eok.ext hA.fra ex1) hv1 ?_) hd
 refine hi A S _ {s with heap:=h1,toks:=t1} _ E hr (hA.here.ext ex1) fun w h2 t2 ex2 rw_=>?_
 have ex:=ex1.trans ex2
 obtain⟨a,vs,fps,rfl,hF,hl,ho,rs⟩:=r.view
 have hnd0:=hA.ndup x
 have hfo:=fun a ha=>(hA.fold x a ha)
 have hSF:∀c,S c->c∉fp x:=fun c hc=>(hA.sold c hc).2.2 x
 have hSl:∀c,S c->¬Fz A env c:=fun c hc e=>(hA.sold c hc).2.1 (.inl e)
 rw[hF]at hnd0 hfo hSF
 have hal: ¬Fz A env a:=fun e=>(hfo a List.mem_cons_self).2.1 (.inl e)
 have ho2:=DictOf.at ho fun ob e=>ex.keep a ob hal e
 have hlen:=OwnTs.length rs
 have hlen':((kvs.map (·.1)).zip vs).length=kvs.length:=by simp at hlen;simp[hlen]
 refine wpAny_setItem_pairs (s:={s with heap:=h2,toks:=t2}) rw_.key ho2 (fun h₁ hd₁ hs₁=>?_) (by rw[hlen'];unfold lim at hsz;show _≤2^24;omega)
 have hst':stored ((kvs.map (·.1)).zip vs) k u=((kvs++[(k,y)]).map (·.1)).zip (vs++[u]):=by
  unfold stored
  rw[if_neg]
  ·rw[List.map_append,List.zip_append (by simp at hlen;simp[hlen])];rfl
  ·simp only[List.any_eq_true,not_exists,not_and,decide_eq_true_eq]
   rintro⟨a',b'⟩ hm
   have:=(List.of_mem_zip hm).1
   obtain⟨kv,h1,h2⟩:=List.mem_map.mp this
   exact fun e=>hnew kv h1 (h2.trans e)
 rw[hst']at hd₁
 have kd:∀b ob,b≠a->h2.get? b=some ob->h₁.get? b=some ob:=fun b ob hb e=>(hs₁.2 b hb).trans e
 have hfps:∀b∈fps,b≠a∧¬Fz A env b:=fun b hb=>⟨fun e=>(List.nodup_cons.mp hnd0).1 (e▸hb),fun e=>(hfo b (List.mem_cons_of_mem _ hb)).2.1 (.inl e)⟩
 have hfr:∀b∈f,b≠a∧¬Fz A env b∧b∉a::fps:=fun b hb=>by
  have hn:=(hf b hb).1
  refine⟨fun e=>?_,fun e=>?_,fun hm=>?_⟩
  ·have:=(hfo a List.mem_cons_self).1;rw[←e,hn]at this;cases this
  ·have:=Fz.there hA.here e;rw[hn]at this;cases this
  ·have:=(hfo b hm).1;rw[hn]at this;cases this
 refine kk _ (AtO.upd (f':=a::(fps++f)) hA hst ex hkv hv (fun b=>b=a) kd (fun b hb=>by rw[hb,hF];exact List.mem_cons_self) (fun b hb=>by rw[hb];obtain⟨ob,_,_,h,_⟩:=hd₁;rw[h];rfl) (fun b hb=>?_) ?_ ?_ _)
 ·rcases List.mem_cons.mp hb with e|hb
  ·exact .inl (by rw[hF,e];exact List.mem_cons_self)
  ·rcases List.mem_append.mp hb with hb|hb
   ·exact .inl (by rw[hF];exact List.mem_cons_of_mem _ hb)
   ·exact .inr (hf b hb)
 ·rw[List.nodup_cons]
  refine⟨fun hm=>?_,?_⟩
  ·rcases List.mem_append.mp hm with hm|hm
   ·exact(List.nodup_cons.mp hnd0).1 hm
   ·exact(hfr a hm).1 rfl
  ·rw[List.nodup_append]
   exact⟨(List.nodup_cons.mp hnd0).2,hnd,fun b hb c hc e=>(hfr c hc).2.2 (by rw[←e];exact List.mem_cons_of_mem _ hb)⟩
 ·refine .dict hl hd₁ ?_
  rw[List.map_append]
  refine OwnTs.append ?_ (OwnTs.one ?_)
  ·exact rs.mono (fun b hb=>.inl hb) (fun b ob hb e=>kd b ob (fun e'=>hSF b hb (e'▸List.mem_cons_self)) (ex.keep b ob (hSl b hb) e)) fun b hb ob e=>kd b ob (hfps b hb).1 (ex.keep b ob (hfps b hb).2 e)
  ·refine ru.strong.mono (fun b hb=>?_) (fun b ob hb e=>?_) fun b hb ob e=>kd b ob (hfr b hb).1 (ex2.keep b ob (hfr b hb).2.1 e)
   ·rcases hb.1.1 with g|g
    ·exact .inl g
    ·refine .inr ⟨g,ex2.live (hA.eok.ext hA.fra ex1).ns hb.2,fun hm=>?_⟩
     rcases List.mem_cons.mp hm with e|hm
     ·have:=(hfo a List.mem_cons_self).1;rw[←e,g]at this;cases this
     ·rcases List.mem_append.mp hm with hm|hm
      ·have:=(hfo b (List.mem_cons_of_mem _ hm)).1;rw[g]at this;cases this
      ·exact hb.1.2 hm
   ·have hba:b≠a:=fun e'=>by
     rcases hb.1.1 with g|g
     ·exact hSF b g (e'▸List.mem_cons_self)
     ·have:=(hfo a List.mem_cons_self).1;rw[←e',g]at this;cases this
    have hbl: ¬Fz A env b:=fun e'=>by
     rcases hb.1.1 with g|g
     ·exact hSl b g e'
     ·have:=Fz.there hA.here e';rw[g]at this;cases this
    exact kd b ob hba (ex2.keep b ob hbl e)
theorem St.ite{test:Expr}{body orelse:List Stmt}{pos:Pos}{b:Bool}(hr:Room C A)(hA:AtO C A env o Γ s)(hB:EvB C env (evG Γ) test b)
  (k:∀s',AtO C A env o Γ s'->wpAny (model C.prog C.w) A (execs (if b then body else orelse) env) (Aft C A env rest Q E) E s'):
  wpAny (model C.prog C.w) A (execs (.If test body orelse pos::rest) env) Q E s:=by
 refine wpAny_execs_cons (wpAny_If ?_)
 obtain⟨S,fp,hA',hst⟩:=id hA
 refine hB A S _ s _ E hr hA'.here fun h' t' ex=>?_
 have:=k _ (hA.ext ex t')
 cases b
 ·exact wpAny_mono this (fun f s h=>by cases f<;>exact h) fun ω ω h=>h
 ·exact wpAny_mono this (fun f s h=>by cases f<;>exact h) fun ω ω h=>h
theorem St.nil(h:Q .next s):wpAny (model C.prog C.w) A (execs [] env) Q E s:=wpAny_execs_nil h
theorem St.brk{pos:Pos}(h:Q .brk s):wpAny (model C.prog C.w) A (execs (.Break pos::rest) env) Q E s:=wpAny_execs_cons (wpAny_Break h)
end
noncomputable def Cx.up(C:Cx):Cx:={C with lev:=C.lev+1}
noncomputable def fnFits(fd:FuncData):Bool:=
 fd.scope.kind== .function&&decide (fd.scope.names.map (·.1)).Nodup&&fd.scope.names.all (fun x=>x.2 != .free&&x.1 !=("__classdict__":Str))&& !fd.scope.isCoroutine&& !fd.scope.isGenerator&&fd.globals==mainGlobals&&fd.builtins==builtinsNs&&fd.closure.isEmpty
structure FnFits(fd:FuncData):Prop where
 kind:fd.scope.kind= .function
 nodup:(fd.scope.names.map (·.1)).Nodup
 free:∀x∈fd.scope.names,x.2≠.free∧x.1≠("__classdict__":Str)
 co:fd.scope.isCoroutine=false
 gen:fd.scope.isGenerator=false
 glob:fd.globals=mainGlobals
 bltn:fd.builtins=builtinsNs
 clo:fd.closure=[]
theorem FnFits.of{fd:FuncData}(h:fnFits fd=true):FnFits fd:=by
 simp only[fnFits,Bool.and_eq_true,beq_iff_eq,decide_eq_true_eq,List.all_eq_true,bne_iff_ne,ne_eq,Bool.not_eq_true',List.isEmpty_iff]at h
 obtain⟨⟨⟨⟨⟨⟨⟨h1,h2⟩,h3⟩,h4⟩,h5⟩,h6⟩,h7⟩,h8⟩:=h
 exact⟨h1,h2,h3,h4,h5,h6,h7,h8⟩
theorem bindL_get{kindOf:Str->Option NameKind}:∀ (binds:List (Str×Value)) (m:Str->Option Value) (x:Str) (v:Value),(binds.map (·.1)).Nodup->kindOf x=some .local->((x,v)∈binds∨(m x=some v∧∀u,(x,u)∉binds))->bindL kindOf binds m x=some v
 |[],m,x,v,_,hk,h=>by
  rcases h with h|h
  ·cases h
  ·exact h.1
 |(n,u)::r,m,x,v,hnd,hk,h=>by
  have hnd':n∉r.map (·.1)∧(r.map (·.1)).Nodup:=by simpa using hnd
  unfold bindL
  refine bindL_get r _ x v hnd'.2 hk ?_
  rcases h with h|⟨h1,h2⟩
  ·rcases List.mem_cons.mp h with e|h
   ·cases e
    refine .inr ⟨by rw[if_pos hk];simp,fun u hu=>hnd'.1 (List.mem_map.mpr ⟨_,hu,rfl⟩)⟩
   ·exact .inl h
  ·refine .inr ⟨?_,fun u hu=>h2 u (List.mem_cons_of_mem _ hu)⟩
   have hne:x≠n:=fun e=>h2 u (e▸List.mem_cons_self)
   split
   ·simp only[hne,if_false];exact h1
   ·exact h1
theorem bindC_get{kindOf:Str->Option NameKind}:∀ (binds:List (Str×Value)) (m:Str->Option Value) (x:Str) (v:Value),(binds.map (·.1)).Nodup->kindOf x≠some .local->((x,v)∈binds∨(m x=some v∧∀u,(x,u)∉binds))->bindC kindOf binds m x=some v
 |[],m,x,v,_,hk,h=>by
  rcases h with h|h
  ·cases h
  ·exact h.1
 |(n,u)::r,m,x,v,hnd,hk,h=>by
  have hnd':n∉r.map (·.1)∧(r.map (·.1)).Nodup:=by simpa using hnd
  unfold bindC
  refine bindC_get r _ x v hnd'.2 hk ?_
  rcases h with h|⟨h1,h2⟩
  ·rcases List.mem_cons.mp h with e|h
   ·cases e
    refine .inr ⟨by rw[if_neg hk];simp,fun u hu=>hnd'.1 (List.mem_map.mpr ⟨_,hu,rfl⟩)⟩
   ·exact .inl h
  ·refine .inr ⟨?_,fun u hu=>h2 u (List.mem_cons_of_mem _ hu)⟩
   have hne:x≠n:=fun e=>h2 u (e▸List.mem_cons_self)
   split
   ·exact h1
   ·simp only[hne,if_false];exact h1
section
variable{C:Cx}{A:Around}
theorem Room.down(hr:Room C.up A)(env:Env):Room C (A.deeper env):=by
 obtain⟨h1,h2,h3⟩:=hr
 refine⟨h1,?_,?_⟩
 ·show A.depth+1+40+4*C.lev<recursionLimit
  have:C.up.lev=C.lev+1:=rfl
  rw[this]at h2;omega
 ·show A.units+3+400+40*C.lev<cLine
  have:C.up.lev=C.lev+1:=rfl
  rw[this]at h3;omega
theorem Room.mono{A':Around}(hr:Room C A)(h1:A'.handled=A.handled)(h2:A'.depth≤A.depth+2)(h3:A'.units≤A.units+8)(C':Cx)(hl:C'.lev+1≤C.lev)(hh:C'.hd=C.hd):Room C' A':=by
 obtain⟨g1,g2,g3⟩:=hr
 exact⟨fun hd=>h1.trans (g1 (hh▸hd)),by omega,by omega⟩
theorem Fra.of{C C':Cx}{A:Around}{h:Heap}(x:Fra C A h)(e:C'.K=C.K):Fra C' A h:=by
 obtain⟨l,hl,hx⟩:=x.ex
 exact⟨l,hl,by rw[e];exact hx⟩
theorem onStack_of{A A':Around}(e:A'.frames=A.frames){a:Addr}:onStack A' a↔onStack A a:=by unfold onStack;rw[e]
theorem Fra.frames{C:Cx}{A A':Around}{h:Heap}(x:Fra C A h)(e:A'.frames=A.frames):Fra C A' h:=by
 obtain⟨l,hl,hx⟩:=x.ex
 exact⟨l,e.trans hl,hx⟩
structure TopF(A:Around)(env:Env):Prop where
 kind:env.scope.kind= .function
 fr:∃l,A.frames=some (env::l)
 own:env.frame=some env.locals
noncomputable def ownFr(env:Env)(a:Addr):Prop:=a=env.locals∨∃x,env.cells.lookup x=some a
theorem onStack_deeper{env:Env}{a:Addr}(fx:∃l,A.frames=some l)(hf:env.frame=some env.locals):onStack (A.deeper env) a↔a=env.locals∨onStack A a:=by
 obtain⟨l,hl⟩:=fx
 have e:(A.deeper env).frames=some (env::l):=Around.frames_deeper hl
 unfold onStack
 rw[e,hl]
 constructor
 ·rintro⟨l',hl',e',he,hfe⟩
  cases hl'
  rcases List.mem_cons.mp he with rfl|he
  ·rw[hf]at hfe;exact .inl (Option.some.inj hfe).symm
  ·exact .inr ⟨l,rfl,e',he,hfe⟩
 ·rintro(rfl|⟨l',hl',e',he,hfe⟩)
  ·exact⟨_,rfl,env,List.mem_cons_self,hf⟩
  ·cases hl';exact⟨_,rfl,e',List.mem_cons_of_mem _ he,hfe⟩
structure KeepS(A:Around)(h h':Heap):Prop where
 keep:∀a b,¬onStack A a->h.get? a=some b->h'.get? a=some b
 fr:∀a b,onStack A a->h.get? a=some b->∃sl,h'.get? a=some {b with slots:=sl}
theorem KeepS.slots{h h':Heap}(k:KeepS A h h'){a:Addr}{b:Obj}(e:h.get? a=some b):∃sl,h'.get? a=some {b with slots:=sl}:=by
 by_cases hs:onStack A a
 ·exact k.fr a b hs e
 ·exact⟨b.slots,k.keep a b hs e⟩
theorem KeepS.ns{h h':Heap}(k:KeepS A h h'){a:Addr}{m:Str->Option Value}(hn:h.Ns a m):h'.Ns a m:=by
 obtain⟨o,es,ep,ho,hd,r⟩:=hn
 obtain⟨sl,h1⟩:=k.slots ho
 exact⟨_,es,ep,h1,hd,r⟩
theorem KeepS.ext{env:Env}{h h':Heap}(k:KeepS A h h'):Ext A env h h':=
 ⟨fun a b ha e=>k.keep a b (fun hs=>ha (.inr hs)) e,fun m hm=>k.ns hm,fun a b hs ω e=>k.fr a b hs e⟩
structure KeepB(A:Around)(B:Addr->Prop)(h h':Heap):Prop where
 keep:∀a b,¬onStack A a->¬B a->h.get? a=some b->h'.get? a=some b
 fr:∀a b,onStack A a->h.get? a=some b->∃sl,h'.get? a=some {b with slots:=sl}
theorem KeepS.b{B:Addr->Prop}{h h':Heap}(x:KeepS A h h'):KeepB A B h h':=⟨fun a b ha ω e=>x.keep a b ha e,x.fr⟩
theorem KeepB.ns{B:Addr->Prop}{h h':Heap}(k:KeepB A B h h'){a:Addr}{m:Str->Option Value}(hb: ¬B a)(hn:h.Ns a m):h'.Ns a m:=by
 obtain⟨o,es,ep,ho,hd,r⟩:=hn
 by_cases hs:onStack A a
 ·obtain⟨sl,h1⟩:=k.fr a o hs ho
  exact⟨_,es,ep,h1,hd,r⟩
 ·exact⟨o,es,ep,k.keep a o hs hb ho,hd,r⟩
theorem code_enter{fa:Addr}{ob:Obj}{fd:FuncData}{body:List Stmt}{args:Args}{s:Shared}{R:Result->Shared->Prop}{S:Addr->Prop}{fp:Str->List Addr}{Γ:SGam}(P:List (Str×Value)->Heap->Prop)(hr:Room C.up A)(cx:C.Ok)(B:Base C s.heap)(fx:Fra C A s.heap)
  (hf:C.K.lookup fa=some ob) (hd:ob.data= .func fd) (hfit:FnFits fd) (hcode:codeIn C.K fd.code fd.qualname=true) (hbody:fd.body= .stmts body)
  (hbind:∀ (Q:List (Str×Value)->Shared->Prop) (E:Value->Shared->Prop),(∀binds h1 t1,P binds h1->Q binds {s with heap:=h1,toks:=t1})->wpAny (model C.prog C.w) A.in1 (bindArgs fd args) Q E s)
  (hP:∀binds h1,P binds h1->(∀a b,s.heap.get? a=some b->h1.get? a=some b)∧(binds.map (·.1)).Nodup∧(∀x∈binds,fd.scope.names.lookup x.1=some .local∨fd.scope.names.lookup x.1=some .cell)∧
   (∀a,S a->(h1.get? a).isSome=true∧¬onStack A a)∧(∀a,S a->∀x,a∉fp x)∧(∀x a,a∈fp x->(h1.get? a).isSome=true∧¬onStack A a∧mainGlobals<a∧∀o,C.K.lookup a≠some o)∧
   ∀x n pv,Γ.lookup x=some (some (n,pv))->∃v,(x,v)∈binds∧OwnT C S h1 n v pv (fp x))
  (disj:∀x y a,a∈fp x->a∈fp y->x=y) (ndup:∀x,(fp x).Nodup)
  (h:∀env h2 t2,env.scope=fd.scope->(∀a b,s.heap.get? a=some b->h2.get? a=some b)->(∀a,ownFr env a->s.heap.get? a=none)->At C (A.deeper env) env S fp Γ h2->(∀x,env.kindOf x=fd.scope.names.lookup x)->Room C (A.deeper env)->(∀a,onStack (A.deeper env) a↔a=env.locals∨onStack A a)->TopF (A.deeper env) env->
   wpAny (model C.prog C.w) (A.deeper env) (execs body env) (fun f s'=>R (.ok (.ret (match f with| .ret v=>v|_=>.none))) s')
    (fun e s'=>wpAny (model C.prog C.w) (A.deeper env) (leaving env e) (fun ω s''=>R (.error e) s'') (fun e' s''=>R (.error e') s'') s') {s with heap:=h2,toks:=t2}):
  codeAny (model C.prog C.w) A (.call (.ref fa) args) R s:=by
 refine codeAny_call_function (by have:=hr.2.1;omega) (B.kin _ _ hf) hd hfit.co hfit.gen hbody (codeRec_of B.kin hcode) ?_
 refine hbind _ _ fun binds h1 t1 hp=>?_
 obtain⟨hk,hnd,hloc,hS,hSf,hfp,hv⟩:=hP binds h1 hp
 rw[hfit.clo]
 refine wpAny_newFunctionEnv_cells (s:={s with heap:=h1,toks:=t1}) hfit.kind (fun x hx=>?_) fun env he s' X=>?_
 ·rcases hloc x hx with h|h
  ·exact .inl h
  ·exact .inr ⟨h,cellsFrom_some _ _ _ (.inl h)⟩
 have Xk:=X.toInCall.keep
 have kk:∀a b,s.heap.get? a=some b->s'.heap.get? a=some b:=fun a b e=>Xk a b (hk a b e)
 have hkind:∀x,env.kindOf x=fd.scope.names.lookup x:=fun x=>by rw[he];rfl
 have hscope:env.scope=fd.scope:=by rw[he];rfl
 obtain⟨h2,t2,rfl⟩:=X.toInCall.same
 have Xn:=X.toInCall.ns
 have Xf:=X.toInCall.fresh
 have fresh1:∀a,h1.objs.size≤a->h1.get? a=none:=fun a ha=>by
  cases hq:h1.get? a with
  |none=>rfl
  |some b=>exact absurd (Heap.lt_size hq) (Nat.not_lt.mpr ha)
 have Kl:∀a b,C.K.lookup a=some b->a<h1.objs.size:=fun a b e=>Heap.lt_size (hk a b (B.kin a b e))
 obtain⟨es,hg,_⟩:=cx.g
 have hmg:mainGlobals<h1.objs.size:=by
  unfold Cx.gdict at hg
  cases hk':C.K.lookup mainGlobals with
  |none=>rw[hk']at hg;cases hg
  |some b=>exact Kl _ _ hk'
 have hLf:h1.objs.size≤env.locals:=Xf
 have hcf:∀x c,env.cells.lookup x=some c->h1.objs.size≤c:=fun x c hc=>Nat.le_of_lt (Nat.lt_of_le_of_lt hLf (X.above x c (PySem.mem_of_lookup hc)))
 have hEK:EnvOk C h2 env:=by
  refine{kind:=by rw[hscope];exact hfit.kind,glob:=by rw[he];exact hfit.glob,bltn:=by rw[he];exact hfit.bltn,ns:=⟨_,Xn⟩,cell:=fun x hx=>?_,call:=fun x c hc=>⟨_,X.cell x c hc⟩,apart:=fun x y c hx hy=>PySem.name_of_addr X.apart (PySem.mem_of_lookup hx) (PySem.mem_of_lookup hy),notL:=fun x c hc=>Nat.ne_of_gt (X.above x c (PySem.mem_of_lookup hc)),below:=fun a b e=>Nat.lt_of_lt_of_le (Kl a b e) hLf,high:=Nat.lt_of_lt_of_le hmg hLf,chigh:=fun x c hc=>⟨Nat.lt_of_lt_of_le hmg (hcf x c hc),fun a b e=>Nat.ne_of_lt (Nat.lt_of_lt_of_le (Kl a b e) (hcf x c hc))⟩}
  rw[hkind]at hx
  rcases hx with hx|hx
  ·have:(env.cells.lookup x).isSome=true:=by rw[he];exact cellsFrom_some _ _ _ (.inl hx)
   obtain⟨c,hc⟩:=Option.isSome_iff_exists.mp this
   exact⟨c,_,hc,X.cell x c hc⟩
  ·exact absurd rfl (hfit.free _ (mem_of_lookup' hx)).1
 have hB2:Base C h2:=by
  refine⟨fun a b e=>kk a b (B.kin a b e),B.nolimit.keeps kk,?_,?_⟩
  ·obtain⟨mb,g1,g2⟩:=B.bns;exact⟨mb,g1.keeps kk,g2⟩
  ·obtain⟨mc,g1,g2⟩:=B.nodigits;exact⟨mc,g1.keeps kk,g2⟩
 have hfr:∀a,ownFr env a->h1.get? a=none:=fun a ha=>by
  rcases ha with rfl|⟨x,hc⟩
  ·exact fresh1 _ hLf
  ·exact fresh1 _ (hcf x a hc)
 have hfl:env.frame=some env.locals:=by rw[he];rfl
 have hon:∀a,onStack (A.deeper env) a↔a=env.locals∨onStack A a:=fun a=>onStack_deeper (let⟨l,hl,_⟩:=fx.ex;⟨l,hl⟩) hfl
 have nfr:∀a,(h1.get? a).isSome=true->¬onStack A a->¬frameAt (A.deeper env) env a:=fun a ha hs hf=>by
  rcases hf with(hf|hf)|hf
  ·rw[hfr a (.inl hf)]at ha;cases ha
  ·rcases(hon a).mp hf with hf|hf
   ·rw[hfr a (.inl hf)]at ha;cases ha
   ·exact hs hf
  ·rw[hfr a (.inr hf)]at ha;cases ha
 have hF2:Fra C (A.deeper env) h2:=by
  obtain⟨l,hl,hx⟩:=fx.ex
  refine⟨env::l,Around.frames_deeper hl,fun e hm=>?_⟩
  rcases List.mem_cons.mp hm with rfl|hm
  ·obtain⟨o,es,ep,ho,hd,_⟩:=Xn
   exact⟨by rw[hEK.kind];decide,_,o,es,ep,hfl,hEK.below,hEK.high,ho,hd⟩
  ·obtain⟨g0,L,o,es,ep,g1,g2,g3,g4,g5⟩:=hx e hm
   exact⟨g0,L,o,es,ep,g1,g2,g3,kk L o g4,g5⟩
 have hA:At C (A.deeper env) env S fp Γ h2:=by
  refine{cx:=cx,base:=hB2,eok:=hEK,fra:=hF2,sold:=fun a ha=>⟨?_,nfr a (hS a ha).1 (hS a ha).2,hSf a ha⟩,disj:=disj,ndup:=ndup,fold:=fun x a ha=>⟨?_,nfr a (hfp x a ha).1 (hfp x a ha).2.1,(hfp x a ha).2.2⟩,vars:=fun x n pv hx=>?_}
  ·obtain⟨b,hb⟩:=Option.isSome_iff_exists.mp (hS a ha).1;rw[Xk a b hb];rfl
  ·obtain⟨b,hb⟩:=Option.isSome_iff_exists.mp (hfp x a ha).1;rw[Xk a b hb];rfl
  ·obtain⟨v,hm,ro⟩:=hv x n pv hx
   have hl:=hloc _ hm
   refine⟨by rw[hkind];rcases hl with h|h<;>rw[h]<;>rfl,v,?_,ro.mono (fun ω z=>z) (fun a b ω e=>Xk a b e) fun a ω b e=>Xk a b e⟩
   rcases hl with h|h
   ·exact .inl ⟨by rw[hkind];exact h,_,Xn,bindL_get binds _ x v hnd (by rw[hkind];exact h) (.inl hm)⟩
   ·have:(env.cells.lookup x).isSome=true:=by rw[he];exact cellsFrom_some _ _ _ (.inl h)
    obtain⟨c,hc⟩:=Option.isSome_iff_exists.mp this
    have hic:=X.cell x c hc
    rw[bindC_get binds _ x v hnd (by rw[hkind,h];decide) (.inl hm)]at hic
    exact .inr ⟨.inl (by rw[hkind];exact h),(hfit.free _ (mem_of_lookup' h)).2,c,hc,hic⟩
 refine⟨hB2.nolimit,codeAny_func ?_⟩
 refine h env h2 t2 hscope kk (fun a ha=>?_) hA hkind (hr.down env) hon ⟨hEK.kind,(let⟨l,hl,_⟩:=fx.ex;⟨l,Around.frames_deeper hl⟩),hfl⟩
 cases hq:s.heap.get? a with
 |none=>rfl
 |some b=>have:=hfr a ha;rw[hk a b hq]at this;cases this
end
noncomputable def Fn(C:Cx)(fa:Addr)(xs:List PV)(pv:PV):Prop:=
 ∀ (A:Around) (S:Addr->Prop) (s:Shared) (vs:List Value) (R:Result->Shared->Prop),Room C.up A->C.Ok->Base C s.heap->Fra C A s.heap->(∀a,S a->(s.heap.get? a).isSome=true∧¬onStack A a)->RdAll C.prog C.w S s.heap vs xs->
  (∀v h' t',KeepS A s.heap h'->Rd C.prog C.w (fun a=>S a∨s.heap.get? a=none) h' v pv->R (.ok (.ret v)) {s with heap:=h',toks:=t'})->codeAny (model C.prog C.w) A (.call (.ref fa) ⟨vs,[]⟩) R s
noncomputable def parG:List Str->List PV->SGam
 |n::ns,x::xs=>(n,some (0,x))::parG ns xs
 |_,_=>[]
theorem parG_zip{C:Cx}{S:Addr->Prop}{h:Heap}(ns:List Str):∀ (xs:List PV) (vs:List Value) (x:Str) (n:Nat) (pv:PV),RdAll C.prog C.w S h vs xs->(parG ns xs).lookup x=some (some (n,pv))->n=0∧∃v,(x,v)∈ns.zip vs∧Rd C.prog C.w S h v pv:=by
 induction ns with
 |nil=>intro xs vs x n pv r hl;cases xs<;>cases hl
 |cons m ns ih=>
  intro xs vs x n pv r hl
  cases xs with
  |nil=>cases hl
  |cons y xs=>
  cases r with
  |cons a b=>
   unfold parG at hl
   rw[List.lookup_cons]at hl
   cases hb:x==m with
   |true=>
    rw[hb]at hl;cases hl
    rw[beq_iff_eq.mp hb]
    exact⟨rfl,_,List.mem_cons_self,a⟩
   |false=>
    rw[hb]at hl
    obtain⟨h1,v,h2,h3⟩:=ih xs _ x n pv b hl
    exact⟨h1,v,List.mem_cons_of_mem _ h2,h3⟩
theorem zip_fst{α β:Type}:∀ (ns:List α) (vs:List β),ns.length=vs.length->(ns.zip vs).map (·.1)=ns
 |[],[],_=>rfl
 |n::ns,v::vs,h=>by simp[zip_fst ns vs (by simpa using h)]
section
variable{C:Cx}
theorem Fn.of{fa:Addr}{ob:Obj}{fd:FuncData}{body:List Stmt}{xs:List PV}{pv:PV}(ns:List Str)(hf:C.K.lookup fa=some ob)(hd:ob.data= .func fd)(hfit:fnFits fd=true)(hcode:codeIn C.K fd.code fd.qualname=true)(hbody:fd.body= .stmts body)
  (hlen:ns.length=xs.length) (hnd:ns.Nodup) (hloc:∀x∈ns,fd.scope.names.lookup x=some .local∨fd.scope.names.lookup x=some .cell)
  (hbind:∀vs:List Value,vs.length=xs.length->bindArgs fd ⟨vs,[]⟩=pure (ns.zip vs))
  (walk:∀ (A:Around) (env:Env) (o:Org) (s:Shared) (Q:Flow->Shared->Prop) (E:Value->Shared->Prop),env.scope=fd.scope->TopF A env->Room C A->AtO C A env o (parG ns xs) s->(∀v s',RetO C A env o pv v s'->Q (.ret v) s')->wpAny (model C.prog C.w) A (execs body env) Q E s):
  Fn C fa xs pv:=fun A S s vs R hr cx B fx hS rv hR=>by
 have hlv:=rv.length
 refine code_enter (S:=S) (fp:=fun ω=>[]) (Γ:=parG ns xs) (fun binds h1=>binds=ns.zip vs∧h1=s.heap) hr cx B fx hf hd (.of hfit) hcode hbody (fun Q E hq=>?_) (fun binds h1 hp=>?_) (fun ω ω ω h=>nomatch h) (fun ω=>List.nodup_nil) fun env h2 t2 hsc hk hfr hA hkd hr' hon htop=>?_
 ·rw[hbind vs hlv]
  exact wpAny_pure (hq _ s.heap s.toks ⟨rfl,rfl⟩)
 ·obtain rfl:=hp.1.symm;obtain rfl:=hp.2.symm
  have hz:(ns.zip vs).map (·.1)=ns:=zip_fst ns vs (by rw[hlen,hlv])
  refine⟨fun ω ω e=>e,by rw[hz];exact hnd,fun x hx=>hloc _ (by rw[←hz];exact List.mem_map.mpr ⟨x,hx,rfl⟩),hS,(fun ω ω ω h=>nomatch h),(fun ω ω h=>nomatch h),fun x n pv hl=>?_⟩
  obtain⟨rfl,v,h1,h2⟩:=parG_zip ns xs vs x n pv rv hl
  exact⟨v,h1,.val h2⟩
 ·refine walk _ env ⟨S,fun ω=>[],{s with heap:=h2,toks:=t2}⟩ _ _ _ hsc htop hr' ⟨S,fun ω=>[],hA,Step.refl _ _ _ _ _⟩ fun v s' hret=>?_
  obtain⟨S',fp',Γ',hA',hst,rd⟩:=hret
  obtain⟨h3,t3,e⟩:=hst.same
  subst e
  have own:∀a b,s.heap.get? a=some b->¬ownFr env a:=fun a b hb hf=>by rw[hfr a hf]at hb;cases hb
  refine hR v h3 t3 ⟨fun a b hs hb=>?_,fun a b hs hb=>?_⟩ (rd.mono (fun a ha=>?_) fun ω ω ω e=>e)
  ·refine hst.keep a b (fun hf=>?_) (fun ω h=>nomatch h) (hk a b hb)
   rcases hf with(hf|hf)|hf
   ·exact own a b hb (.inl hf)
   ·exact((hon a).mp hf).elim (fun h=>own a b hb (.inl h)) hs
   ·exact own a b hb (.inr hf)
  ·exact hst.fr a b ((hon a).mpr (.inr hs)) (fun e=>own a b hb (.inl e)) (hk a b hb)
  ·rcases hst.newS a ha with h|⟨_,h⟩|h
   ·exact .inl h
   ·exact nomatch h
   ·refine .inr ?_
    cases hq:s.heap.get? a with
    |none=>rfl
    |some b=>have h':h2.get? a=none:=h;rw[hk a b hq]at h';cases h'
theorem Ev.fn{env:Env}{Γ:Gam}{id:Str}{p pos:Pos}{args:List Expr}{fa:Addr}{ob:Obj}{fd:FuncData}{md:Bool}{xs:List PV}{y:PV}(hk:env.kindOf id=some .globalImplicit)(hg:C.glob id=some (.ref fa))(hf:C.K.lookup fa=some ob)(hd:ob.data= .func fd)
  (ha:EvL C.up env Γ args md xs) (hF:Fn C fa xs y)
  (hne:∀env,∃x rest,backTo pos (starEach args env)=(false,x)::rest:=by intro _;exact⟨_,_,rfl⟩) (hdb:(id==("__debug__":Str))=false:=by rfl):
  Ev C.up env Γ (.Call (.Name id p) args [] pos) md y:=fun A S U s Q E hr hh hq=>by
 refine wpAny_Call_NameR ?_
 refine wpAny_Name (wpAny_loadGlob hh.cx hh.base hh.eok hk (.inl hg) ?_) hdb
 refine callWith_function (o:=ob) (fd:=fd) ?_
 obtain⟨x,rest,hxr⟩:=hne env
 rw[hxr]
 refine evalArgs_plain ?_
 rw[←hxr]
 refine ha A S U s pos _ E hr hh fun vs h2 t2 e2 r2=>?_
 have hB:=(hh.ext e2).base
 refine⟨⟨hB.kin _ _ hf,hd⟩,wpAny_call ?_⟩
 have B':Base C h2:=⟨hB.kin,hB.nolimit,hB.bns,hB.nodigits⟩
 have cx':C.Ok:=⟨hh.cx.g⟩
 have liv:RdAll C.prog C.w (fun a=>Reg md S U s.heap a∧(h2.get? a).isSome=true) h2 vs xs:=r2.there
 have hns:∀a,Reg md S U s.heap a->¬onStack A a:=fun a ha hs=>Reg.neL hh ha (.inr hs)
 refine hF A _ {s with heap:=h2,toks:=t2} vs _ hr cx' B' ((hh.ext e2).fra.of rfl) (fun a ha=>⟨ha.2,hns a ha.1⟩) liv fun v h3 t3 hk3 rd=>?_
 refine hq v h3 t3 (e2.trans hk3.ext) (rd.mono (fun a ha=>?_) fun ω ω ω e=>e)
 rcases ha with ha|ha
 ·exact ha.1
 ·exact .inr (e2.fresh hh.eok.ns ha)
end
noncomputable def e0:Heap:={objs:=#[]}
noncomputable def allL(h:Heap)(L:Addr):List (Addr×Obj):=(List.range h.objs.size).filterMap fun a=>if a=L then none else(h.get? a).map fun o=>(a,o)
set_option tactic.hygienic true in
theorem mem_allL{h:Heap}{L a:Addr}{o:Obj}:(a,o)∈allL h L↔a≠L∧h.get? a=some o:=by
 unfold allL
 rw[List.mem_filterMap]
 constructor
 ·rintro⟨b,_,hb⟩
  split at hb
  ·cases hb
  ·rename_i hne
   cases hg:h.get? b with
   |none=>rw[hg]at hb;cases hb
   |some o'=>rw[hg]at hb;simp at hb;obtain⟨rfl,rfl⟩:=hb;exact⟨hne,hg⟩
 ·rintro⟨hne,ho⟩
  exact⟨a,List.mem_range.mpr (Heap.lt_size ho),by simp[hne,ho]⟩
theorem e0_get{a:Addr}:e0.get? a=none:=by
 cases hq:e0.get? a with
 |none=>rfl
 |some o=>exact absurd (Heap.lt_size hq) (Nat.not_lt_zero _)
theorem frE{h:Heap}{L:Addr}{m:Str->Option Value}(hn:h.Ns L m):Fr e0 L h m:=⟨hn,fun b o e=>(by rw[e0_get]at e;cases e),Nat.zero_le _⟩
theorem newsE{h:Heap}{L:Addr}:News e0 L h (allL h L):=by
 rintro⟨a,o⟩ hp
 obtain⟨h1,h2⟩:=mem_allL.mp hp
 exact⟨h2,h1,e0_get⟩
theorem allL_split{h:Heap}{L a:Addr}{o:Obj}(hL:a≠L)(ho:h.get? a=some o):∃pre post,allL h L=pre++(a,o)::post∧(∀p∈pre,p.1≠a)∧∀p∈post,p.1≠a:=by
 obtain⟨pre,post,e⟩:=List.append_of_mem (mem_allL.mpr ⟨hL,ho⟩)
 have hnd:((allL h L).map (·.1)).Nodup:=by
  have hs:((allL h L).map (·.1)).Sublist (List.range h.objs.size):=by
   unfold allL
   generalize List.range h.objs.size=l
   induction l with
   |nil=>simp
   |cons b r ih=>
    rw[List.filterMap_cons]
    by_cases hb:b=L
    ·simp only[hb,if_true];exact ih.trans (List.sublist_cons_self _ _)
    ·simp only[hb,if_false]
     cases hq:h.get? b with
     |none=>simp only[Option.map_none];exact ih.trans (List.sublist_cons_self _ _)
     |some q=>simp only[Option.map_some,List.map_cons];exact ih.cons_cons b
  exact hs.nodup List.nodup_range
 refine⟨pre,post,e,fun p hp hpa=>?_,fun p hp hpa=>?_⟩
 ·rw[e,List.map_append,List.map_cons,List.nodup_append]at hnd
  exact hnd.2.2 p.1 (List.mem_map.mpr ⟨p,hp,rfl⟩) a List.mem_cons_self hpa
 ·rw[e,List.map_append,List.map_cons,List.nodup_append]at hnd
  exact(List.nodup_cons.mp hnd.2.1).1 (List.mem_map.mpr ⟨p,hp,hpa⟩)
section
variable{prog:Program}{w:World}{A:Around}{E:Value->Shared->Prop}{s:Shared}{K:Frag}{x c L p:Addr}{ox:Obj}{name:Str}{v:Value}{i:Nat}
noncomputable def Turned(L d:Addr)(h h':Heap):Prop:=(∀a o,a≠L->a≠d->h.get? a=some o->h'.get? a=some o)∧∀m,h.Ns L m->h'.Ns L m
theorem turned_of{L d:Addr}{h h':Heap}{m:Str->Option Value}{pre post:List (Addr×Obj)}{od od':Obj}(hn:h.Ns L m)(e:allL h L=pre++(d,od)::post)(F:Fr e0 L h' m)(N:News e0 L h' (pre++(d,od')::post)):Turned L d h h'∧h'.get? d=some od':=by
 refine⟨⟨fun a o ha hd ho=>?_,fun m' hm'=>?_⟩,(N (d,od') (List.mem_append_right _ List.mem_cons_self)).1⟩
 ·have hm:=mem_allL.mpr ⟨ha,ho⟩
  rw[e]at hm
  rcases List.mem_append.mp hm with hm|hm
  ·exact(N (a,o) (List.mem_append_left _ hm)).1
  ·rcases List.mem_cons.mp hm with hm|hm
   ·cases hm;exact absurd rfl hd
   ·exact(N (a,o) (List.mem_append_right _ (List.mem_cons_of_mem _ hm))).1
 ·have:m'=m:=funext fun x=>hm'.agree hn x
  subst this;exact F.ns
theorem setDict{es:List DictEntry}{n:Nat}{dx:Addr}{m:Str->Option Value}{Q:Unit->Shared->Prop}(hn:s.heap.Ns L m)(X:K.In s.heap)(I:InstAt s.heap x ox c (some (dictOf es n)))(hd:ox.dict=some dx)(hL:dx≠L)
  (hs:findIn K (.ref c) "__setattr__" =some (some (.builtin "object.__setattr__"))) (hp:plainOver K c=true) (ht:takerIn K c name=some none) (hh:hasDictIn K c=true) (hl:(getL name es).isSome=true)
  (hz:(putL name (PyData.keyHash w.params name) (.str name (s.toks+1)) v es).length≤1000)
  (h:∀h',Turned L dx s.heap h'->h'.get? dx=some (dictOf (putL name (PyData.keyHash w.params name) (.str name (s.toks+1)) v es) (putN name es n))->Q () {s with heap:=h',toks:=s.toks+2}):
  wpAny (model prog w) A (setAttr (.ref x) name v) Q E s:=by
 have hdx:s.heap.get? dx=some (dictOf es n):=by
  have:=I.dict;rw[hd]at this;exact this
 obtain⟨pre,post,e,a,b⟩:=allL_split hL hdx
 have N:=newsE (h:=s.heap) (L:=L)
 rw[e]at N
 refine set_plain X I hs (osa_dict (s:={s with toks:=s.toks+1}) (frE hn) N X I hd hp ht hh hl a b (putName_dict ..) rfl hz fun h' F' N'=>?_)
 obtain⟨h1,h2⟩:=turned_of hn e F' N'
 exact h h' h1 h2
theorem setSlot{ox':Obj}{od:Option Obj}{m:Str->Option Value}{Q:Unit->Shared->Prop}(hn:s.heap.Ns L m)(X:K.In s.heap)(I:InstAt s.heap x ox c od)(hL:x≠L)
  (hs:findIn K (.ref c) "__setattr__" =some (some (.builtin "object.__setattr__"))) (hp:plainOver K c=true) (ht:takerIn K c name=some (some (.ref p))) (hT:typeIn K (.ref p)=some (.type "member_descriptor")) (hi:slotIn K p c=some i) (hz:i<1000)
  (e:{ox with slots:=(ox.slots++Array.replicate (i+1 - ox.slots.size) none).setIfInBounds i (some v)}=ox') (hf:ox'.isFreed=false)
  (h:∀h',Turned L x s.heap h'->h'.get? x=some ox'->Q () {s with heap:=h',toks:=s.toks+1}):wpAny (model prog w) A (setAttr (.ref x) name v) Q E s:=by
 obtain⟨pre,post,e',a,b⟩:=allL_split hL I.at_
 have N:=newsE (h:=s.heap) (L:=L)
 rw[e']at N
 refine set_plain X I hs (osa_descr (s:={s with toks:=s.toks+1}) KF.slot_mset X I hp ht hT (slot_set (s:={s with toks:=s.toks+1}) (frE hn) N X I hi hz a b e hf fun h' F' N'=>?_))
 obtain⟨h1,h2⟩:=turned_of hn e' F' N'
 exact h h' h1 h2
theorem getOwn{es:List DictEntry}{n:Nat}{expr:Bool}{Q:Value->Shared->Prop}{attr:Option Value}(X:K.In s.heap)(I:InstAt s.heap x ox c (some (dictOf es n)))(hg:plainGet K c name=true)(hh:hasDictIn K c=true)
  (ha:findIn K (.ref c) name=some attr) (hn:noGet K attr=true) (hl:getL name es=some (some v)) (hv:handedIn v=true) (h:Q v {s with toks:=s.toks+1}):wpAny (model prog w) A (getAttr (.ref x) name expr) Q E s:=
 get_value X I (plainGet_of hg).1 (findObj_own hh ha hn hl) hv h
theorem getSlot{od:Obj}{expr:Bool}{Q:Value->Shared->Prop}(X:K.In s.heap)(I:InstAt s.heap x ox c (some od))(hg:plainGet K c name=true)(hc:isClsIn K c=true)
  (ha:findIn K (.ref c) name=some (some (.ref p))) (hn:specialIn K (.ref p) "__get__" =some (some (.builtin "member_descriptor.__get__"))) (ht:takesIn K (.ref p)=some true) (hp:slotIn K p c=some i)
  (hv:(ox.slots[i]?).join=some v) (hh:handedIn v=true) (h:Q v {s with toks:=s.toks+1}):wpAny (model prog w) A (getAttr (.ref x) name expr) Q E s:=
 get_bind X I (plainGet_of hg).1 (findObj_data hc ha hn ht) (plainGet_of hg).2 (wpAny_call (slot_get (s:={s with toks:=s.toks+1}) X I hp hv (handed_on hh h)))
theorem getMeth{es:List DictEntry}{n:Nat}{pl:Sem Bool}{Q:Value×List Value->Shared->Prop}{f:Addr}(X:K.In s.heap)(I:InstAt s.heap x ox c (some (dictOf es n)))(hg:plainGet K c name=true)
  (hf:findIn K (.ref c) name=some (some (.ref f))) (ht:isFn K (.ref f)=true) (hl:getL name es=some none) (h:Q (.ref f,[.ref x]) s):wpAny (model prog w) A (getMethod (.ref x) name pl) Q E s:=
 method_fn X I (plainGet_of hg).1 (plainGet_of hg).2 hf (beq_iff_eq.mp ht) (by show(lookIn name (dictOf es n)).map _=_;rw[lookIn_dict,hl];rfl) h
end
noncomputable def selfNames:List Str:=["_node2info","_ready_nodes","_npassedout","_nfinished"]
noncomputable def infoNames:List (Str×Nat):=[("node",0),("npredecessors",1),("successors",2)]
noncomputable def slotFits(K:Frag)(x:Str×Nat):Bool:=match findIn K (.ref NIC) x.1 with
 |some (some (.ref p))=>specialIn K (.ref p) "__get__" ==some (some (.builtin "member_descriptor.__get__"))&&takesIn K (.ref p)==some true&&slotIn K p NIC==some x.2&&takerIn K NIC x.1==some (some (.ref p))&&typeIn K (.ref p)==some (.type "member_descriptor")
 |_=>false
noncomputable def classFits(K:Frag)(c:Addr):Bool:=plainGet K c "" &&plainOver K c&&findIn K (.ref c) "__setattr__" ==some (some (.builtin "object.__setattr__"))&&isClsIn K c&&makesIn K c
structure SortK(K:Frag):Prop where
 ts:classFits K TSC=true
 tsd:hasDictIn K TSC=true
 own:(selfNames.all fun x=>findIn K (.ref TSC) x==some none)=true
 ni:classFits K NIC=true
 slot:(infoNames.all fun x=>slotFits K x)=true
section
variable{K:Frag}{c:Addr}
theorem classFits_get(h:classFits K c=true)(x:Str):plainGet K c x=true:=by
 simp only[classFits,Bool.and_eq_true]at h;exact h.1.1.1.1
theorem classFits_over(h:classFits K c=true):plainOver K c=true:=by
 simp only[classFits,Bool.and_eq_true]at h;exact h.1.1.1.2
theorem classFits_set(h:classFits K c=true):findIn K (.ref c) "__setattr__" =some (some (.builtin "object.__setattr__")):=by
 simp only[classFits,Bool.and_eq_true,beq_iff_eq]at h;exact h.1.1.2
theorem classFits_cls(h:classFits K c=true):isClsIn K c=true:=by
 simp only[classFits,Bool.and_eq_true]at h;exact h.1.2
theorem classFits_make(h:classFits K c=true):makesIn K c=true:=by
 simp only[classFits,Bool.and_eq_true]at h;exact h.2
theorem SortK.none(k:SortK K){x:Str}(hx:x∈selfNames):findIn K (.ref TSC) x=some Option.none:=by
 have:=List.all_eq_true.mp k.own x hx
 exact beq_iff_eq.mp this
inductive SlotIs(K:Frag)(x:Str)(i:Nat):Prop
 |mk (p:Addr):findIn K (.ref NIC) x=some (some (.ref p))->specialIn K (.ref p) "__get__" =some (some (.builtin "member_descriptor.__get__"))->takesIn K (.ref p)=some true->slotIn K p NIC=some i->takerIn K NIC x=some (some (.ref p))->typeIn K (.ref p)=some (.type "member_descriptor")->SlotIs K x i
set_option tactic.hygienic true in
theorem SortK.slots(k:SortK K){x:Str}{i:Nat}(hx:(x,i)∈infoNames):SlotIs K x i:=by
 have h:=List.all_eq_true.mp k.slot (x,i) hx
 unfold slotFits at h
 split at h
 ·rename_i p hp
  simp only[Bool.and_eq_true,beq_iff_eq]at h
  exact⟨p,hp,h.1.1.1.1,h.1.1.1.2,h.1.1.2,h.1.2,h.2⟩
 ·cases h
end
noncomputable def Key.pvs(ks:List Key):List PV:=ks.map Key.pv
theorem Key.rd{prog:Program}{w:World}{S:Addr->Prop}{h:Heap}{k:Key}{v:Value}(hk:k.is v=true):Rd prog w S h v k.pv:=by
 cases k with
 |int i=>obtain⟨t,rfl⟩:=Value.isInt_shape (k:=i) hk;exact .int _ _
 |str x=>obtain⟨t,rfl⟩:=Value.isStrOf_shape (x:=x) hk;exact .str _ _
theorem KeysAre.rd{prog:Program}{w:World}{S:Addr->Prop}{h:Heap}{vs:List Value}{ks:List Key}(r:KeysAre vs ks):RdAll prog w S h vs (Key.pvs ks):=by
 induction r with
 |nil=>exact .nil
 |cons a _ ih=>exact .cons (Key.rd a) ih
theorem RdAll.keys{C:Cx}{S:Addr->Prop}{h:Heap}:∀ {vs:List Value} {ks:List Key},RdAll C.prog C.w S h vs (Key.pvs ks)->KeysAre vs ks
 |[],[],_=>.nil
 |v::vs,k::ks,r=>by cases r with|cons a b=>exact .cons a.key (RdAll.keys b)
 |[],k::ks,r=>by cases r
 |v::vs,[],r=>by cases r
noncomputable def infoPV(x:SNode):Nat->PV
 |0=>x.key.pv
 |1=>.int x.np
 |_=>.list (Key.pvs x.succ)
noncomputable def selfPV(St:SState):Nat->PV
 |0=>.raw (.ref St.n2)
 |1=>match St.rdy with|none=>.none|some r=>.list (Key.pvs r.2)
 |2=>.int St.npass
 |_=>.int St.nfin
section
variable{C:Cx}{A:Around}{env:Env}{Γ:Gam}{md:Bool}
theorem Rd.srt_inv{S:Addr->Prop}{h:Heap}{v:Value}{St:SState}{prog:Program}{w:World}(r:Rd prog w S h v (.srt St)):∃a,v= .ref a∧(∀b∈St.fp a,S b)∧SorterAt prog w h a St:=r.view
theorem selfInst{prog:Program}{w:World}{h:Heap}{a:Addr}{St:SState}(x:SorterAt prog w h a St):∃ks t1 t2 n,InstAt h a {cls:=.ref TSC,dict:=some St.d} TSC (some (dictOf (selfEntries w ks St.n2 St.rdv St.npass St.nfin t1 t2) n)):=by
 obtain⟨ks,t1,t2,n,hd⟩:=x.dict
 exact⟨ks,t1,t2,n,x.inst,rfl,rfl,hd⟩
theorem infoInst{h:Heap}{x:SNode}(r:NodeAt h x):∃kv t,x.key.is kv=true∧InstAt h x.loc (nodeObj x kv t) NIC (some {cls:=.type "dict",data:=.dict #[]}):=by
 obtain⟨kv,t,h1,h2⟩:=r.inst
 exact⟨kv,t,h1,h2,rfl,rfl,r.dict⟩
theorem Ev.self_{e:Expr}{St:SState}{pos:Pos}{name:Str}{i:Nat}(k:SortK C.K)(he:Ev C env Γ e md (.srt St))(hn:selfNames[i]?=some name)
  (hev:∀env,eval (.Attribute e name pos) env=(do
   let o ←eval e env
   standAt pos.atName
   let r ←holding [o] (getAttr o name true)
   letTemporaryGo e o r
   pure r):=by intro _;with_unfolding_all rfl):Ev C env Γ (.Attribute e name pos) md (selfPV St i):=fun A S U s Q E hr hh hq=>by
 refine Attribute_any_ ?_ (hev env)
 refine he A S U s _ E hr hh fun v h' t' ex rd=>?_
 obtain⟨a,rfl,hf,hs⟩:=rd.srt_inv
 obtain⟨ks,t1,t2,n,I⟩:=selfInst hs
 have X:=(hh.ext ex).base.kin
 have hm:name∈selfNames:=List.mem_of_getElem? hn
 have go:∀v,getL name (selfEntries C.w ks St.n2 St.rdv St.npass St.nfin t1 t2)=some (some v)->handedIn v=true->Rd C.prog C.w (Reg md S U s.heap) h' v (selfPV St i)->wpAny (model C.prog C.w) A (getAttr (.ref a) name true) Q E {s with heap:=h',toks:=t'}:=fun v hg hv rd=>getOwn (attr:=Option.none) X I (classFits_get k.ts name) k.tsd (k.none hm) rfl hg hv (hq v h' _ ex rd)
 have hi:i=0∨i=1∨i=2∨i=3:=by
  have:=(List.getElem?_eq_some_iff.mp hn).1
  simp[selfNames]at this;omega
 rcases hi with rfl|rfl|rfl|rfl<;>(have:=Option.some.inj hn;subst this)
 ·exact go (.ref St.n2) rfl rfl (.raw _)
 ·refine go St.rdv rfl ?_ ?_
  ·unfold SState.rdv;cases St.rdy<;>rfl
  ·show Rd _ _ _ _ St.rdv (match St.rdy with|none=>.none|some r=>.list (Key.pvs r.2))
   unfold SState.rdv
   cases hr':St.rdy with
   |none=>exact .none
   |some r=>
    obtain⟨vs,m,h1,h2⟩:=hs.ready r hr'
    exact .list (hf _ (SState.mem_rdy hr')) h1 h2.rd
 ·exact go (.int St.npass t1) rfl rfl (.int _ _)
 ·exact go (.int St.nfin t2) rfl rfl (.int _ _)
theorem Here.srt{S U:Addr->Prop}{h:Heap}(hh:Here C A S U env Γ h){x:Str}{nx:Nat}{St:SState}(hx:Γ.lookup x=some (some (nx,.srt St)))(hk:isVar (env.kindOf x)=true):∃a,VarAt h env x (.ref a)∧(∀b∈St.fp a,if nx==0 then S b else U b)∧SorterAt C.prog C.w h a St:=by
 obtain⟨v,h1,h2,_⟩:=hh.has x nx _ hx hk
 obtain⟨a,rfl,h3,h4⟩:=h2.srt_inv
 exact⟨a,h1,h3,h4⟩
theorem Ev.info_{e:Expr}{St:SState}{nd:SNode}{pos:Pos}{name x:Str}{i nx:Nat}{m2:Bool}(k:SortK C.K)(hx:Γ.lookup x=some (some (nx,.srt St)))(hkv:isVar (env.kindOf x)=true)(hnd:nd∈St.nodes)(he:Ev C env Γ e m2 (.raw (.ref nd.loc)))(hn:(name,i)∈infoNames)
  (hev:∀env,eval (.Attribute e name pos) env=(do
   let o ←eval e env
   standAt pos.atName
   let r ←holding [o] (getAttr o name true)
   letTemporaryGo e o r
   pure r):=by intro _;with_unfolding_all rfl) (hmd:md=(nx==0):=by rfl):Ev C env Γ (.Attribute e name pos) md (infoPV nd i):=fun A S U s Q E hr hh hq=>by
 refine Attribute_any_ ?_ (hev env)
 refine he A S U s _ E hr hh fun v h' t' ex rd=>?_
 cases rd.raw_inv
 obtain⟨a,_,hf,hs⟩:=(hh.ext ex).srt hx hkv
 rw[←hmd]at hf
 have r:=hs.nodes nd hnd
 obtain⟨kv,t,hkk,I⟩:=infoInst r
 obtain⟨p,h1,h2,h3,h4,h5,h6⟩:=k.slots hn
 have X:=(hh.ext ex).base.kin
 have go:∀v,((nodeObj nd kv t).slots[i]?).join=some v->handedIn v=true->Rd C.prog C.w (Reg md S U s.heap) h' v (infoPV nd i)->wpAny (model C.prog C.w) A (getAttr (.ref nd.loc) name true) Q E {s with heap:=h',toks:=t'}:=fun v hg hv rd=>getSlot X I (classFits_get k.ni name) (classFits_cls k.ni) h1 h2 h3 h4 hg hv (hq v h' _ ex rd)
 have hi:i=0∨i=1∨i=2:=by
  simp only[infoNames,List.mem_cons,Prod.mk.injEq,List.not_mem_nil,or_false]at hn;omega
 rcases hi with rfl|rfl|rfl
 ·refine go kv rfl ?_ (Key.rd hkk)
  rcases Key.shape hkk with⟨_,_,_,rfl⟩|⟨_,_,_,rfl⟩<;>rfl
 ·exact go (.int nd.np t) rfl rfl (.int _ _)
 ·refine go (.ref nd.lst) rfl rfl ?_
  obtain⟨vs,m,g1,g2⟩:=r.list
  exact .list (.inl (hf _ (SState.mem_node hnd (by simp[SNode.fp])))) g1 g2.rd
end
noncomputable def SState.updN(St:SState)(loc:Addr)(f:SNode->SNode):SState:={St with nodes:=St.nodes.map fun x=>if x.loc=loc then f x else x}
structure Keepers(f:SNode->SNode):Prop where
 key:∀x,(f x).key=x.key
 fp:∀x,(f x).fp=x.fp
theorem Keepers.loc{f:SNode->SNode}(k:Keepers f)(x:SNode):(f x).loc=x.loc:=by
 have:=k.fp x;simp only[SNode.fp,List.cons.injEq]at this;exact this.1
noncomputable def setNp(v:Int)(x:SNode):SNode:={x with np:=v}
noncomputable def addSucc(k:Key)(x:SNode):SNode:={x with succ:=x.succ++[k]}
theorem keepers_np(v:Int):Keepers (setNp v):=⟨fun ω=>rfl,fun ω=>rfl⟩
theorem keepers_succ(k:Key):Keepers (addSucc k):=⟨fun ω=>rfl,fun ω=>rfl⟩
theorem SState.updN_fp(St:SState)(loc:Addr){f:SNode->SNode}(k:Keepers f)(a:Addr):(St.updN loc f).fp a=St.fp a:=by
 unfold SState.fp SState.rfp SState.updN
 simp only[List.flatMap_map]
 congr 4
 apply congrArg (fun g=>List.flatMap g St.nodes)
 funext x
 split
 ·exact k.fp x
 ·rfl
theorem flat_eq{l:List SNode}(hnd:(l.flatMap SNode.fp).Nodup){x y:SNode}{b:Addr}(hx:x∈l)(hy:y∈l)(hbx:b∈x.fp)(hby:b∈y.fp):x=y:=by
 induction l with
 |nil=>cases hx
 |cons z r ih=>
  rw[List.flatMap_cons,List.nodup_append]at hnd
  have no:∀u v,u=z->v∈r->b∈u.fp->b∈v.fp->False:=fun u v e hv hu hb=>hnd.2.2 b (e▸hu) b (List.mem_flatMap.mpr ⟨v,hv,hb⟩) rfl
  exact(List.mem_cons.mp hx).elim (fun hx'=>(List.mem_cons.mp hy).elim (fun hy'=>hx'.trans hy'.symm) fun hy'=>(no x y hx' hy' hbx hby).elim) fun hx'=>(List.mem_cons.mp hy).elim (fun hy'=>(no y x hy' hx' hby hbx).elim) fun hy'=>ih hnd.2.1 hx' hy'
section
variable{prog:Program}{w:World}{h h₁:Heap}{a:Addr}{St:SState}
theorem SorterAt.nodesNd(x:SorterAt prog w h a St):(St.nodes.flatMap SNode.fp).Nodup:=by
 have:=x.nd
 unfold SState.fp at this
 exact(List.nodup_append.mp (List.nodup_cons.mp (List.nodup_cons.mp (List.nodup_cons.mp this).2).2).2).2.1
theorem SorterAt.same(x:SorterAt prog w h a St){y z:SNode}{b:Addr}(hy:y∈St.nodes)(hz:z∈St.nodes)(h1:b∈y.fp)(h2:b∈z.fp):y=z:=flat_eq x.nodesNd hy hz h1 h2
theorem SorterAt.apart(x:SorterAt prog w h a St){y:SNode}{b:Addr}(hy:y∈St.nodes)(hb:b∈y.fp):b≠a∧b≠St.d∧b≠St.n2∧∀r,St.rdy=some r->b≠r.1:=by
 have hnd:=x.nd
 unfold SState.fp at hnd
 have hm:b∈St.nodes.flatMap SNode.fp:=List.mem_flatMap.mpr ⟨y,hy,hb⟩
 rw[List.nodup_cons,List.nodup_cons,List.nodup_cons,List.nodup_append]at hnd
 obtain⟨h1,h2,h3,h4⟩:=hnd
 refine⟨fun e=>h1 ?_,fun e=>h2 ?_,fun e=>h3 ?_,fun r hr e=>?_⟩
 ·subst e;exact List.mem_cons_of_mem _ (List.mem_cons_of_mem _ (List.mem_append_right _ hm))
 ·subst e;exact List.mem_cons_of_mem _ (List.mem_append_right _ hm)
 ·subst e;exact List.mem_append_right _ hm
 ·exact h4.2.2 r.1 (by unfold SState.rfp;rw[hr];exact List.mem_singleton.mpr rfl) b hm e.symm
theorem SorterAt.apartR(x:SorterAt prog w h a St){r:Addr×List Key}(hr:St.rdy=some r):r.1≠a∧r.1≠St.d∧r.1≠St.n2∧∀y∈St.nodes,r.1∉y.fp:=by
 have hnd:=x.nd
 unfold SState.fp at hnd
 have hm:r.1∈St.rfp:=by unfold SState.rfp;rw[hr];exact List.mem_singleton.mpr rfl
 rw[List.nodup_cons,List.nodup_cons,List.nodup_cons,List.nodup_append]at hnd
 obtain⟨h1,h2,h3,h4⟩:=hnd
 refine⟨fun e=>h1 ?_,fun e=>h2 ?_,fun e=>h3 ?_,fun y hy hb=>?_⟩
 ·rw[←e];exact List.mem_cons_of_mem _ (List.mem_cons_of_mem _ (List.mem_append_left _ hm))
 ·rw[←e];exact List.mem_cons_of_mem _ (List.mem_append_left _ hm)
 ·rw[←e];exact List.mem_append_left _ hm
 ·exact h4.2.2 r.1 hm r.1 (List.mem_flatMap.mpr ⟨y,hy,hb⟩) rfl
theorem SorterAt.apartD(x:SorterAt prog w h a St):a≠St.d∧a≠St.n2∧St.d≠St.n2:=by
 have hnd:=x.nd
 unfold SState.fp at hnd
 rw[List.nodup_cons,List.nodup_cons,List.nodup_cons]at hnd
 exact⟨fun e=>hnd.1 (by rw[e];exact List.mem_cons_self),fun e=>hnd.1 (by rw[e];exact List.mem_cons_of_mem _ List.mem_cons_self),fun e=>hnd.2.1 (by rw[e];exact List.mem_cons_self)⟩
theorem SorterAt.updN(x:SorterAt prog w h a St){nd:SNode}(hnd:nd∈St.nodes){c:Addr}(hc:c∈nd.fp){f:SNode->SNode}(k:Keepers f)(hk:∀b,b≠c->b∈St.fp a->∀o,h.get? b=some o->h₁.get? b=some o)(hn:NodeAt h₁ (f nd)):SorterAt prog w h₁ a (St.updN nd.loc f)where
 at_:=x.at_
 lo:=x.lo
 nd:=by rw[St.updN_fp _ k];exact x.nd
 inst:=hk _ (Ne.symm (x.apart hnd hc).1) (by simp[SState.fp]) _ x.inst
 dict:=let⟨ks,t1,t2,n,h1⟩:=x.dict;⟨ks,t1,t2,n,hk _ (Ne.symm (x.apart hnd hc).2.1) (by simp[SState.fp]) _ h1⟩
 map:=by
  have e:(St.updN nd.loc f).nodes.map (fun x=>(x.key,Value.ref x.loc))=St.nodes.map fun x=>(x.key,Value.ref x.loc):=by
   unfold SState.updN
   rw[List.map_map]
   apply List.map_congr_left
   intro y _
   show(_,_)=_
   by_cases hy:y.loc=nd.loc
   ·simp only[hy,if_true,k.key,k.loc]
   ·simp only[hy,if_false]
  rw[e]
  exact DictOf.at x.map fun o ho=>hk _ (Ne.symm (x.apart hnd hc).2.2.1) (by simp[SState.updN,SState.fp]) o ho
 nodes:=fun y hy=>by
  obtain⟨z,hz,e⟩:=List.mem_map.mp hy
  by_cases hl:z.loc=nd.loc
  ·have:z=nd:=x.same hz hnd (b:=z.loc) (by simp[SNode.fp]) (by rw[hl];simp[SNode.fp])
   subst this
   simp only[if_true]at e
   rw[←e];exact hn
  ·simp only[hl,if_false]at e
   subst e
   refine(x.nodes z hz).mono fun b hb o ho=>hk b (fun e=>?_) (SState.mem_node hz hb) o ho
   subst e
   exact hl (congrArg SNode.loc (x.same hz hnd hb hc))
 ready:=fun r hr=>let⟨vs,n,h1,h2⟩:=x.ready r hr;⟨vs,n,hk _ (Ne.symm ((x.apart hnd hc).2.2.2 r hr)) (SState.mem_rdy hr) _ h1,h2⟩
theorem SorterAt.setD(x:SorterAt prog w h a St){np nf:Int}(hk:∀b,b≠St.d->b∈St.fp a->∀o,h.get? b=some o->h₁.get? b=some o)
  (hd:∃ks t1 t2 n,h₁.get? St.d=some {cls:=.type "dict",data:=.dict (selfEntries w ks St.n2 St.rdv np nf t1 t2).toArray n}):SorterAt prog w h₁ a {St with npass:=np,nfin:=nf}where
 at_:=x.at_
 lo:=x.lo
 nd:=x.nd
 inst:=hk _ x.apartD.1 (by simp[SState.fp]) _ x.inst
 dict:=hd
 map:=DictOf.at x.map fun o ho=>hk _ (Ne.symm x.apartD.2.2) (by simp[SState.fp]) o ho
 nodes:=fun y hy=>(x.nodes y hy).mono fun b hb o ho=>hk b (x.apart hy hb).2.1 (SState.mem_node hy hb) o ho
 ready:=fun r hr=>let⟨vs,n,h1,h2⟩:=x.ready r hr;⟨vs,n,hk _ (x.apartR hr).2.1 (SState.mem_rdy hr) _ h1,h2⟩
theorem SorterAt.setL(x:SorterAt prog w h a St){r:Addr×List Key}(hr:St.rdy=some r){ks:List Key}{vs:List Value}{n:Nat}(hk:∀b,b≠r.1->b∈St.fp a->∀o,h.get? b=some o->h₁.get? b=some o)
  (hl:h₁.get? r.1=some (lob vs n)) (hks:KeysAre vs ks):SorterAt prog w h₁ a {St with rdy:=some (r.1,ks)}where
 at_:=x.at_
 lo:=x.lo
 nd:=by
  have:=x.nd
  unfold SState.fp SState.rfp at this⊢
  rw[hr]at this
  exact this
 inst:=hk _ (Ne.symm (x.apartR hr).1) (by simp[SState.fp]) _ x.inst
 dict:=by
  obtain⟨ks',t1,t2,n,h1⟩:=x.dict
  have e:SState.rdv {St with rdy:=some (r.1,ks)}=St.rdv:=by unfold SState.rdv;rw[hr]
  exact⟨ks',t1,t2,n,by rw[e];exact hk _ (Ne.symm (x.apartR hr).2.1) (by simp[SState.fp]) _ h1⟩
 map:=DictOf.at x.map fun o ho=>hk _ (Ne.symm (x.apartR hr).2.2.1) (by simp[SState.fp]) o ho
 nodes:=fun y hy=>(x.nodes y hy).mono fun b hb o ho=>hk b (fun e=>(x.apartR hr).2.2.2 y hy (e▸hb)) (SState.mem_node hy hb) o ho
 ready:=fun r' hr'=>by cases hr';exact⟨vs,n,hl,hks⟩
theorem SorterAt.newR(x:SorterAt prog w h a St)(hr:St.rdy=none){l:Addr}{ks:List Key}{vs:List Value}{n:Nat}(hk:∀b,b≠St.d->b∈St.fp a->∀o,h.get? b=some o->h₁.get? b=some o)
  (hd:∃kt t1 t2 n,h₁.get? St.d=some {cls:=.type "dict",data:=.dict (selfEntries w kt St.n2 (.ref l) St.npass St.nfin t1 t2).toArray n})
  (hl:h₁.get? l=some (lob vs n)) (hks:KeysAre vs ks) (hnl:l∉St.fp a):SorterAt prog w h₁ a {St with rdy:=some (l,ks)}where
 at_:=x.at_
 lo:=x.lo
 nd:=by
  have:=x.nd
  unfold SState.fp SState.rfp at this hnl⊢
  rw[hr]at this hnl
  simp only[List.nil_append,List.mem_cons,not_or,List.singleton_append,List.nodup_cons]at this hnl⊢
  obtain⟨n1,n2,n3,n4⟩:=hnl
  obtain⟨m1,m2,m3,m4⟩:=this
  exact⟨⟨m1.1,m1.2.1,Ne.symm n1,m1.2.2⟩,⟨m2.1,Ne.symm n2,m2.2⟩,⟨Ne.symm n3,m3⟩,n4,m4⟩
 inst:=hk _ x.apartD.1 (by simp[SState.fp]) _ x.inst
 dict:=hd
 map:=DictOf.at x.map fun o ho=>hk _ (Ne.symm x.apartD.2.2) (by simp[SState.fp]) o ho
 nodes:=fun y hy=>(x.nodes y hy).mono fun b hb o ho=>hk b (x.apart hy hb).2.1 (SState.mem_node hy hb) o ho
 ready:=fun r' hr'=>by cases hr';exact⟨vs,n,hl,hks⟩
theorem SorterAt.addN(x:SorterAt prog w h a St){nd:SNode}(hk:∀b,b≠St.n2->b∈St.fp a->∀o,h.get? b=some o->h₁.get? b=some o)
  (hm:h₁.DictOf (mixKind prog w) St.n2 (St.nodes.map (fun x=>(x.key,Value.ref x.loc))++[(nd.key,Value.ref nd.loc)])) (hn:NodeAt h₁ nd) (hnd:nd.fp.Nodup) (hap:∀b∈nd.fp,b∉St.fp a):SorterAt prog w h₁ a {St with nodes:=St.nodes++[nd]}where
 at_:=x.at_
 lo:=x.lo
 nd:=by
  have e:SState.fp {St with nodes:=St.nodes++[nd]} a=St.fp a++nd.fp:=by
   unfold SState.fp SState.rfp
   simp[List.append_assoc]
  rw[e,List.nodup_append]
  exact⟨x.nd,hnd,fun b hb c hc e=>hap c hc (e▸hb)⟩
 inst:=hk _ x.apartD.2.1 (by simp[SState.fp]) _ x.inst
 dict:=let⟨ks,t1,t2,n,h1⟩:=x.dict;⟨ks,t1,t2,n,hk _ x.apartD.2.2 (by simp[SState.fp]) _ h1⟩
 map:=by rw[List.map_append];exact hm
 nodes:=fun y hy=>by
  rcases List.mem_append.mp hy with hy|hy
  ·exact(x.nodes y hy).mono fun b hb o ho=>hk b (x.apart hy hb).2.2.1 (SState.mem_node hy hb) o ho
  ·rcases List.mem_singleton.mp hy with rfl
   exact hn
 ready:=fun r hr=>let⟨vs,n,h1,h2⟩:=x.ready r hr;⟨vs,n,hk _ (x.apartR hr).2.2.1 (SState.mem_rdy hr) _ h1,h2⟩
end
theorem flat_nd:∀ {l:List SNode},(l.flatMap SNode.fp).Nodup->∀ {x:SNode},x∈l->x.fp.Nodup
 |z::r,hnd,x,hx=>by
  rw[List.flatMap_cons,List.nodup_append]at hnd
  rcases List.mem_cons.mp hx with rfl|hx
  ·exact hnd.1
  ·exact flat_nd hnd.2.1 hx
noncomputable def SState.find(St:SState)(k:Key):Option SNode:=St.nodes.find? fun x=>x.key=k
theorem valueAt_find(St:SState)(k:Key):valueAt (St.nodes.map fun x=>(x.key,Value.ref x.loc)) k=(St.find k).map fun x=>Value.ref x.loc:=by
 unfold valueAt SState.find
 induction St.nodes with
 |nil=>rfl
 |cons x r ih=>
  rw[List.map_cons,List.find?_cons,List.find?_cons]
  by_cases hk:x.key=k
  ·simp[hk]
  ·simp only[hk,decide_false];exact ih
section
variable{C:Cx}{A:Around}{env:Env}{Γ:Gam}{md m2 m3:Bool}
theorem Ev.n2_item{e i:Expr}{St:SState}{nd:SNode}{k:Key}{p:Pos}{x:Str}{nx:Nat}{mo:Bool}(hx:Γ.lookup x=some (some (nx,.srt St)))(hkv:isVar (env.kindOf x)=true)(he:Ev C env Γ e m2 (.raw (.ref St.n2)))(hi:Ev C env Γ i m3 k.pv)(hf:St.find k=some nd)
  (hpl:∀o iv,∃ops,subscripted i false o iv=operate ops (getItem o iv):=by intro _ _;exact⟨_,rfl⟩):Ev C env Γ (.Subscript e i p) mo (.raw (.ref nd.loc)):=fun A S U s Q E hr hh hq=>by
 refine Subscript_ (Ev.two he hi hr hh fun v u h' t' ex rv ru=>?_)
 cases rv.raw_inv
 obtain⟨a,_,_,hs⟩:=(hh.ext ex).srt hx hkv
 obtain⟨ops,hops⟩:=hpl (.ref St.n2) u
 refine tail_any (s:={s with heap:=h',toks:=t'}) hs.map.typeIs slot_dict_getitem.lookup ?_ hops
 have hv:=valueAt_find St k
 rw[hf]at hv
 exact wpAny_getItem_of ru.key hs.map.mapOf hv (hq _ h' _ ex (.raw _))
theorem Ev.n2_get{e i:Expr}{St:SState}{k:Key}{apos pos:Pos}{x:Str}{nx:Nat}{mo:Bool}(hx:Γ.lookup x=some (some (nx,.srt St)))(hkv:isVar (env.kindOf x)=true)(hlo:mainGlobals<St.n2)(he:Ev C env Γ e m2 (.raw (.ref St.n2)))(hi:Ev C env Γ i m3 k.pv)
  (hbase:∀env,attributeBase e "get" env (eval e env)=eval e env:=by intro _;rfl)
  (hfew:∀env,((backTo pos (starEach [i] env)).all (fun x=>!x.1)&&(backToKw pos (keywordEach [] env)).all (fun x=>x.1.isSome)
   &&decide (([i]:List Expr).length+([]:List Keyword).length+(if([]:List Keyword).isEmpty then 0 else 1)<30))=true:=by intro _;rfl)
  (hline:(apos.endLine==pos.line)=true:=by rfl) (htrees:∀env,backTo pos (starEach [i] env)=[(false,eval i env)]:=by intro _;rfl):
  Ev C env Γ (.Call (.Attribute e "get" apos) [i] [] pos) mo (match St.find k with|some nd=>.raw (.ref nd.loc)|none=>.none):=fun A S U s Q E hr hh hq=>by
 refine wpAny_Call_method (hbase env) (hfew env) hline PySem.F.plainAttrs_dict PySem.F.slot_dict_get PySem.F.type_dict_get ?_
 refine he A S U s _ E hr hh fun v h' t' ex rd=>?_
 cases rd.raw_inv
 obtain⟨a,_,_,hs⟩:=(hh.ext ex).srt hx hkv
 refine⟨hs.map.typeIs,fun b e=>?_,?_⟩
 ·cases e
  obtain⟨ob,es,ep,ho,hr,_⟩:=hs.map
  exact⟨ob,ho,hr.2.1⟩
 rw[htrees env]
 refine wpAny_dict_get1 (knd:=mixKind C.prog C.w) (noSys hlo) ?_
 refine hi A S U {s with heap:=h',toks:=t'} _ E hr (hh.ext ex) fun u h'' t'' ex2 ru=>?_
 obtain⟨a,_,_,hs2⟩:=((hh.ext ex).ext ex2).srt hx hkv
 refine⟨k,_,ru.key,hs2.map.mapOf,?_⟩
 have hv:=valueAt_find St k
 rw[hv]
 refine hq _ h'' _ (ex.trans ex2) ?_
 cases St.find k with
 |none=>exact .none
 |some nd=>exact .raw _
end
theorem SorterAt.keysNd{prog:Program}{w:World}{h:Heap}{a:Addr}{St:SState}(hs:SorterAt prog w h a St):(St.nodes.map SNode.key).Nodup:=by
 obtain⟨ob,es,ep,_,_,_,_,_,hn⟩:=hs.map
 rw[List.map_map]at hn
 exact hn
section
variable{C:Cx}{A:Around}{env:Env}{o:Org}{Γ:SGam}{s:Shared}{Q:Flow->Shared->Prop}{E:Value->Shared->Prop}{rest:List Stmt}{S:Addr->Prop}{fp:Str->List Addr}{h':Heap}
theorem Turned.of_same{L d:Addr}{h h₁:Heap}(hs:Heap.SameBut d h h₁)(hL:d≠L):Turned L d h h₁:=⟨fun a ob ω ha e=>(hs.2 a ha).trans e,fun m hm=>hm.sameBut hs (Ne.symm hL)⟩
inductive SrtAt(C:Cx)(A:Around)(env:Env)(o:Org)(Γ:SGam)(fp:Str->List Addr)(s:Shared)(h':Heap)(x:Str)(n:Nat)(St:SState):Prop
 |mk (a:Addr):isVar (env.kindOf x)=true->VarAt s.heap env x (.ref a)->fp x=St.fp a->SorterAt C.prog C.w h' a St->(∀b∈St.fp a,b≠env.locals∧mainGlobals<b∧(s.heap.get? b).isSome=true)->
   (∀h₁ t St' c,Turned env.locals c h' h₁->c∈St.fp a->SorterAt C.prog C.w h₁ a St'->(∀b∈St'.fp a,b∈St.fp a∨(s.heap.get? b=none∧mainGlobals<b))->(h₁.get? c).isSome=true->AtO C A env o ((x,some (n+1,.srt St'))::Γ) {s with heap:=h₁,toks:=t})->SrtAt C A env o Γ fp s h' x n St
theorem AtO.srt(hA:At C A env S fp Γ s.heap)(hst:Step A env o S fp s)(ex:Ext A env s.heap h'){x:Str}{n:Nat}{St:SState}(hx:Γ.lookup x=some (some (n+1,.srt St))):SrtAt C A env o Γ fp s h' x n St:=by
 obtain⟨hkv,v,hv,r⟩:=hA.vars x _ _ hx
 obtain⟨a,rfl,hf,hs⟩:=r.view
 have hF:=hA.fold x
 rw[hf]at hF
 ·refine⟨a,hkv,hv,hf,hs.mono fun b hb ob e=>ex.keep b ob (fun e=>(hF b hb).2.1 (.inl e)) e,fun b hb=>⟨fun e=>(hF b hb).2.1 (.inl (.inl e)),(hF b hb).2.2.1,(hF b hb).1⟩,fun h₁ t St' c T hc hs' hfp hl=>?_⟩
  refine AtO.updT hA hst ex hkv hv (fun b=>b=c) (fun b ob hbl hb e=>T.1 b ob hbl hb e) T.2 (fun b hb=>by rw[hb,hf];exact hc) (fun b hb=>by rw[hb];exact hl) (fun b hb=>?_) hs'.nd (.srt hs') t
  rw[hf];exact hfp b hb
theorem nodeObj_set(nd:SNode)(kv:Value)(t:Tok)(v:Int)(t':Tok):{(nodeObj nd kv t)with slots:=((nodeObj nd kv t).slots++Array.replicate (1+1 - (nodeObj nd kv t).slots.size) none).setIfInBounds 1 (some (.int v t'))}=nodeObj (setNp v nd) kv t':=rfl
theorem put_np(k:SortK C.K)(hA:At C A env S fp Γ s.heap)(hst:Step A env o S fp s)(ex:Ext A env s.heap h'){x:Str}{n:Nat}{St:SState}{nd:SNode}(hx:Γ.lookup x=some (some (n+1,.srt St)))(hnd:nd∈St.nodes){v:Int}{tv:Tok}{t:Nat}{Q:Unit->Shared->Prop}
  (kk:∀s',AtO C A env o ((x,some (n+1,.srt (St.updN nd.loc (setNp v))))::Γ) s'->Q () s'):
  wpAny (model C.prog C.w) A (setAttr (.ref nd.loc) "npredecessors" (.int v tv)) Q E {s with heap:=h',toks:=t}:=by
 obtain⟨a,hkv,hv,hf,hs,hfo,close⟩:=AtO.srt hA hst ex hx
 have r:=hs.nodes nd hnd
 obtain⟨kv,t0,hkk,I⟩:=infoInst r
 obtain⟨p,h1,h2,h3,h4,h5,h6⟩:=k.slots (x:="npredecessors") (i:=1) (by decide)
 have hB:=hA.base.ext ex hA.fra hA.eok
 have hEK:=hA.eok.ext hA.fra ex
 obtain⟨m,hm⟩:=hEK.ns
 have hloc:nd.loc∈nd.fp:=by simp[SNode.fp]
 have hmem:=SState.mem_node (a:=a) hnd hloc
 refine setSlot (s:={s with heap:=h',toks:=t}) hm hB.kin I (hfo _ hmem).1 (classFits_set k.ni) (classFits_over k.ni) h5 h6 h4 (by decide) (nodeObj_set nd kv t0 v tv) rfl fun h₁ T ho=>?_
 have kk':∀b,b≠nd.loc->b∈St.fp a->∀ob,h'.get? b=some ob->h₁.get? b=some ob:=fun b hb hbf ob e=>T.1 b ob (hfo b hbf).1 hb e
 have hdl:nd.loc≠nd.dc∧nd.loc≠nd.lst:=by
  have h0:nd.fp.Nodup:=flat_nd hs.nodesNd hnd
  simp only[SNode.fp,List.nodup_cons,List.mem_cons,List.not_mem_nil,or_false,not_or]at h0
  exact⟨h0.1.1,h0.1.2⟩
 have hn:NodeAt h₁ (setNp v nd):=by
  refine⟨⟨kv,tv,hkk,ho⟩,kk' _ (Ne.symm hdl.1) (SState.mem_node hnd (by simp[SNode.fp])) _ r.dict,?_⟩
  obtain⟨vs,q,g1,g2⟩:=r.list
  exact⟨vs,q,kk' _ (Ne.symm hdl.2) (SState.mem_node hnd (by simp[SNode.fp])) _ g1,g2⟩
 exact kk _ (close h₁ _ _ nd.loc T hmem (hs.updN hnd hloc (keepers_np v) kk' hn) (fun b hb=>.inl (by rw[St.updN_fp _ (keepers_np v)]at hb;exact hb)) (by rw[ho];rfl))
theorem St.set_np(k:SortK C.K){oe e:Expr}{p pos:Pos}{x:Str}{n:Nat}{St:SState}{nd:SNode}{v:Int}{m2 m3:Bool}(hr:Room C A)(hA:AtO C A env o Γ s)(hx:Γ.lookup x=some (some (n+1,.srt St)))(hnd:nd∈St.nodes)(hE:Ev C env (evG Γ) e m3 (.int v))(ho:Ev C env (evG Γ) oe m2 (.raw (.ref nd.loc)))
  (kk:∀s',AtO C A env o ((x,some (n+1,.srt (St.updN nd.loc (setNp v))))::Γ) s'->wpAny (model C.prog C.w) A (execs rest env) Q E s')
  (hs:swapsWith e (some (.Attribute oe "npredecessors" p)) pos.line env=pure false:=by rfl):
  wpAny (model C.prog C.w) A (execs (.Assign [.Attribute oe "npredecessors" p] e pos::rest) env) Q E s:=by
 refine wpAny_execs_cons (plainObj_wpAny_Assign_Attribute ?_ hs)
 obtain⟨S,fp,hA,hst⟩:=hA
 refine hE A S _ s _ E hr hA.here fun u h1 t1 ex1 ru=>?_
 obtain⟨tv,rfl⟩:=ru.int_inv
 refine ho A S _ {s with heap:=h1,toks:=t1} _ E hr (hA.here.ext ex1) fun w h2 t2 ex2 rw_=>?_
 cases rw_.raw_inv
 exact put_np k hA hst (ex1.trans ex2) hx hnd kk
theorem St.aug_np(k:SortK C.K){oe e:Expr}{p pos:Pos}{x:Str}{n:Nat}{St:SState}{nd:SNode}{v:Int}{m2 m3:Bool}{op:Operator}(hop:op= .Add∨op= .Sub)(hr:Room C A)(hA:AtO C A env o Γ s)(hx:Γ.lookup x=some (some (n+1,.srt St)))(hnd:nd∈St.nodes)(ho:Ev C env (evG Γ) oe m2 (.raw (.ref nd.loc)))(hE:Ev C env (evG Γ) e m3 (.int v))
  (kk:∀s',AtO C A env o ((x,some (n+1,.srt (St.updN nd.loc (setNp (if op= .Add then nd.np+v else nd.np - v)))))::Γ) s'->wpAny (model C.prog C.w) A (execs rest env) Q E s'):
  wpAny (model C.prog C.w) A (execs (.AugAssign (.Attribute oe "npredecessors" p) op e pos::rest) env) Q E s:=by
 refine wpAny_execs_cons (wpAny_AugAssign_AttributeAny ?_)
 obtain⟨S,fp,hA,hst⟩:=hA
 refine ho A S _ s _ E hr hA.here fun w h1 t1 ex1 rw_=>?_
 cases rw_.raw_inv
 obtain⟨a,hkv,hv,hf,hs,hfo,_⟩:=AtO.srt hA hst ex1 hx
 have r:=hs.nodes nd hnd
 obtain⟨kv,t0,hkk,I⟩:=infoInst r
 obtain⟨q,g1,g2,g3,g4,g5,g6⟩:=k.slots (x:="npredecessors") (i:=1) (by decide)
 have X:=(hA.base.ext ex1 hA.fra hA.eok).kin
 refine getSlot (s:={s with heap:=h1,toks:=t1}) X I (classFits_get k.ni _) (classFits_cls k.ni) g1 g2 g3 g4 (v:=.int nd.np t0) rfl rfl ?_
 refine hE A S _ {s with heap:=h1,toks:=t1+1} _ E hr (hA.here.ext ex1) fun u h2 t2 ex2 ru=>?_
 obtain⟨tv,rfl⟩:=ru.int_inv
 rcases hop with rfl|rfl
 ·refine AutoIntOps.iadd_0 ?_
  exact put_np k hA hst (ex1.trans ex2) hx hnd kk
 ·refine AutoIntOps.isub_0 ?_
  exact put_np k hA hst (ex1.trans ex2) hx hnd kk
end
section
variable{C:Cx}{A:Around}{env:Env}{o:Org}{Γ:SGam}{s:Shared}{Q:Flow->Shared->Prop}{E:Value->Shared->Prop}{rest:List Stmt}{S:Addr->Prop}{fp:Str->List Addr}{h':Heap}
theorem VarAt.same{h:Heap}{x:Str}{u v:Value}(ek:EnvOk C h env)(a:VarAt h env x u)(b:VarAt h env x v):u=v:=by
 rcases a with⟨h1,m,h2,h3⟩|⟨h1,_,c,h2,ob,h3,h4⟩
 ·rcases b with⟨_,m',h2',h3'⟩|⟨h1',_⟩
  ·rw[h2.agree h2' x]at h3;rw[h3]at h3';exact Option.some.inj h3'
  ·rw[h1]at h1';rcases h1' with h|h<;>cases h
 ·rcases b with⟨h1',_⟩|⟨_,_,c',h2',ob',h3',h4'⟩
  ·rw[h1']at h1;rcases h1 with h|h<;>cases h
  ·rw[h2]at h2';cases h2'
   rw[h3]at h3';cases h3'
   rw[h4]at h4';cases h4';rfl
theorem put_self(k:SortK C.K)(hA:At C A env S fp Γ s.heap)(hst:Step A env o S fp s)(ex:Ext A env s.heap h'){x:Str}{n:Nat}{St St':SState}(hx:Γ.lookup x=some (some (n+1,.srt St))){a:Addr}(hva:VarAt s.heap env x (.ref a)){name:Str}(hn:name∈selfNames){v:Value}{t:Nat}{Q:Unit->Shared->Prop}
  (hput:∀ks t1 t2 hsh key,∃t1' t2',putL name hsh key v (selfEntries C.w ks St.n2 St.rdv St.npass St.nfin t1 t2)=selfEntries C.w ks St'.n2 St'.rdv St'.npass St'.nfin t1' t2') (hd:St'.d=St.d)
  (hs':∀h₁,(∀b,b≠St.d->b∈St.fp a->∀ob,h'.get? b=some ob->h₁.get? b=some ob)->(∀b ob,b≠St.d->b≠env.locals->h'.get? b=some ob->h₁.get? b=some ob)->SorterAt C.prog C.w h' a St->(∃ks t1 t2 n,h₁.get? St.d=some {cls:=.type "dict",data:=.dict (selfEntries C.w ks St'.n2 St'.rdv St'.npass St'.nfin t1 t2).toArray n})->SorterAt C.prog C.w h₁ a St')
  (hfp:∀b∈St'.fp a,b∈St.fp a∨(s.heap.get? b=none∧mainGlobals<b))
  (kk:∀s',AtO C A env o ((x,some (n+1,.srt St'))::Γ) s'->Q () s'):
  wpAny (model C.prog C.w) A (setAttr (.ref a) name v) Q E {s with heap:=h',toks:=t}:=by
 obtain⟨a',hkv,hv,hf,hs,hfo,close⟩:=AtO.srt hA hst ex hx
 have:Value.ref a=Value.ref a':=VarAt.same hA.eok hva hv
 cases this
 obtain⟨ks,t1,t2,q,I⟩:=selfInst hs
 have hB:=hA.base.ext ex hA.fra hA.eok
 obtain⟨m,hm⟩:=(hA.eok.ext hA.fra ex).ns
 have hdm:St.d∈St.fp a:=by simp[SState.fp]
 have hne:findIn C.K (.ref TSC) name=some none:=k.none hn
 obtain⟨t1',t2',hput'⟩:=hput ks t1 t2 (PyData.keyHash C.w.params name) (.str name (t+1))
 have hnm:name= "_node2info"∨name= "_ready_nodes"∨name= "_npassedout"∨name= "_nfinished":=by simpa [selfNames]using hn
 refine setDict (s:={s with heap:=h',toks:=t}) (dx:=St.d) hm hB.kin I rfl (hfo _ hdm).1 (classFits_set k.ts) (classFits_over k.ts) (by unfold takerIn;rw[hne];rfl) k.tsd ?_ ?_ fun h₁ T ho=>?_
 ·rcases hnm with rfl|rfl|rfl|rfl<;>rfl
 ·rw[hput'];show 4≤1000;decide
 ·rw[hput']at ho
  exact kk _ (close h₁ _ St' St.d T hdm (hs' h₁ (fun b hb hbf ob e=>T.1 b ob (hfo b hbf).1 hb e) (fun b ob hb hl e=>T.1 b ob hl hb e) hs ⟨_,_,_,_,ho⟩) hfp (by rw[ho];rfl))
theorem St.aug_self(k:SortK C.K){e:Expr}{p px pos:Pos}{x:Str}{n:Nat}{St:SState}{v:Int}{m3:Bool}(i:Nat){name:Str}(hi:(i=2∧name= "_npassedout")∨(i=3∧name= "_nfinished"))(hr:Room C A)(hA:AtO C A env o Γ s)(hx:Γ.lookup x=some (some (n+1,.srt St)))(hE:Ev C env (evG Γ) e m3 (.int v))
  (kk:∀s',AtO C A env o ((x,some (n+1,.srt {St with npass:=if i=2 then St.npass+v else St.npass,nfin:=if i=2 then St.nfin else St.nfin+v}))::Γ) s'->wpAny (model C.prog C.w) A (execs rest env) Q E s')
  (hdb:(x==("__debug__":Str))=false:=by rfl):
  wpAny (model C.prog C.w) A (execs (.AugAssign (.Attribute (.Name x px) name p) .Add e pos::rest) env) Q E s:=by
 refine wpAny_execs_cons (wpAny_AugAssign_AttributeAny ?_)
 obtain⟨S,fp,hA,hst⟩:=hA
 obtain⟨a,hkv,hv,hf,hs,hfo,_⟩:=AtO.srt hA hst (.refl _ _ _) hx
 refine wpAny_Name (wpAny_loadVar hA.eok hv ?_) hdb
 obtain⟨ks,t1,t2,q,I⟩:=selfInst hs
 have hm:name∈selfNames:=by rcases hi with⟨_,rfl⟩|⟨_,rfl⟩<;>simp[selfNames]
 have hget:∃t,getL name (selfEntries C.w ks St.n2 St.rdv St.npass St.nfin t1 t2)=some (some (.int (if i=2 then St.npass else St.nfin) t)):=by
  rcases hi with⟨rfl,rfl⟩|⟨rfl,rfl⟩
  ·exact⟨t1,rfl⟩
  ·exact⟨t2,rfl⟩
 obtain⟨t0,hget⟩:=hget
 refine getOwn (attr:=none) hA.base.kin I (classFits_get k.ts name) k.tsd (k.none hm) rfl hget rfl ?_
 refine hE A S _ {s with toks:=s.toks+1} _ E hr hA.here fun u h2 t3 ex2 ru=>?_
 obtain⟨tv,rfl⟩:=ru.int_inv
 refine AutoIntOps.iadd_0 ?_
 refine put_self (St':={St with npass:=if i=2 then St.npass+v else St.npass,nfin:=if i=2 then St.nfin else St.nfin+v}) k hA hst ex2 hx hv hm ?_ rfl ?_ (fun b hb=>.inl hb) kk
 ·intro ks t1 t2 hsh key
  rcases hi with⟨rfl,rfl⟩|⟨rfl,rfl⟩
  ·exact⟨_,t2,rfl⟩
  ·exact⟨t1,_,rfl⟩
 ·intro h₁ h1 _ hs hd
  exact hs.setD h1 hd
theorem St.set_ready(k:SortK C.K){e:Expr}{p px pos:Pos}{x:Str}{n:Nat}{St:SState}{ks:List Key}{md:Bool}(hr:Room C A)(hA:AtO C A env o Γ s)(hx:Γ.lookup x=some (some (n+1,.srt St)))(hnone:St.rdy=none)(hE:EvN C env (evG Γ) e md (Key.pvs ks))
  (kk:∀s' l,AtO C A env o ((x,some (n+1,.srt {St with rdy:=some (l,ks)}))::Γ) s'->wpAny (model C.prog C.w) A (execs rest env) Q E s')
  (hs:swapsWith e (some (.Attribute (.Name x px) "_ready_nodes" p)) pos.line env=pure false:=by rfl) (hdb:(x==("__debug__":Str))=false:=by rfl):
  wpAny (model C.prog C.w) A (execs (.Assign [.Attribute (.Name x px) "_ready_nodes" p] e pos::rest) env) Q E s:=by
 refine wpAny_execs_cons (plainObj_wpAny_Assign_Attribute ?_ hs)
 obtain⟨S,fp,hA,hst⟩:=hA
 refine hE A S _ s _ E hr hA.here fun l vs q h1 t1 ex1 hfl hlo hol rl=>?_
 obtain⟨a,hkv,hv,hf,hs,hfo,_⟩:=AtO.srt hA hst ex1 hx
 refine wpAny_Name (wpAny_loadVar (s:={s with heap:=h1,toks:=t1}) (hA.eok.ext hA.fra ex1) (hv.ext hA.eok hA.fra ex1) ?_) hdb
 have hnl:l∉St.fp a:=fun hm=>by have:=(hfo l hm).2.2;rw[hfl]at this;cases this
 have hll:l≠env.locals:=fun e=>by obtain⟨m',om,_,_,hom,_⟩:=hA.eok.ns;rw[←e,hfl]at hom;cases hom
 refine put_self (St':={St with rdy:=some (l,ks)}) k hA hst ex1 hx hv (by simp[selfNames]) ?_ rfl ?_ ?_ (fun s' h=>kk s' l h)
 ·intro ks' t1 t2 hsh key
  exact⟨t1,t2,rfl⟩
 ·intro h₁ h1' h2' hs hd
  have hld:l≠St.d:=fun e=>hnl (by rw[e];simp[SState.fp])
  exact hs.newR hnone h1' hd (h2' l _ hld hll hol) rl.keys hnl
 ·intro b hb
  unfold SState.fp SState.rfp at hb
  simp only[List.mem_cons,List.mem_append,List.not_mem_nil,or_false,List.cons_append,List.nil_append]at hb
  rcases hb with rfl|rfl|rfl|rfl|hb
  ·exact .inl (by simp[SState.fp])
  ·exact .inl (by simp[SState.fp])
  ·exact .inl (by simp[SState.fp])
  ·exact .inr ⟨hfl,hlo⟩
  ·refine .inl ?_
   unfold SState.fp
   simp only[List.mem_cons,List.mem_append]
   exact .inr (.inr (.inr (.inr hb)))
end
section
variable{C:Cx}{A:Around}{env:Env}{o:Org}{Γ:SGam}{s:Shared}{Q:Flow->Shared->Prop}{E:Value->Shared->Prop}{rest:List Stmt}{S:Addr->Prop}{fp:Str->List Addr}{h':Heap}
theorem KeysAre.append{vs us:List Value}{ks js:List Key}(a:KeysAre vs ks)(b:KeysAre us js):KeysAre (vs++us) (ks++js):=by
 induction a with
 |nil=>exact b
 |cons h _ ih=>exact .cons h ih
theorem KeysAre.length{vs:List Value}{ks:List Key}(a:KeysAre vs ks):vs.length=ks.length:=by
 induction a with
 |nil=>rfl
 |cons _ _ ih=>simp[ih]
theorem eval_ready(k:SortK C.K)(hA:At C A env S fp Γ s.heap)(hst:Step A env o S fp s){x:Str}{n:Nat}{St:SState}{r:Addr×List Key}(hx:Γ.lookup x=some (some (n+1,.srt St)))(hrd:St.rdy=some r){px p:Pos}{Q:Value->Shared->Prop}
  (kk:Q (.ref r.1) {s with toks:=s.toks+1}) (hdb:(x==("__debug__":Str))=false:=by rfl)
  (hev:∀env,eval (.Attribute (.Name x px) "_ready_nodes" p) env=(do
   let o ←eval (.Name x px) env
   standAt p.atName
   let r ←holding [o] (getAttr o "_ready_nodes" true)
   letTemporaryGo (.Name x px) o r
   pure r):=by intro _;with_unfolding_all rfl):wpAny (model C.prog C.w) A (eval (.Attribute (.Name x px) "_ready_nodes" p) env) Q E s:=by
 obtain⟨a,hkv,hv,hf,hs,hfo,_⟩:=AtO.srt hA hst (.refl _ _ _) hx
 refine Attribute_any_ (wpAny_Name (wpAny_loadVar hA.eok hv ?_) hdb) (hev env)
 obtain⟨ks,t1,t2,q,I⟩:=selfInst hs
 refine getOwn (attr:=none) hA.base.kin I (classFits_get k.ts _) k.tsd (k.none (by simp[selfNames])) rfl (v:=.ref r.1) ?_ rfl kk
 have:St.rdv= .ref r.1:=by unfold SState.rdv;rw[hrd]
 rw[←this];rfl
theorem St.ready_append(k:SortK C.K){arg:Expr}{p px apos pos spos:Pos}{x:Str}{n:Nat}{St:SState}{r:Addr×List Key}{key:Key}{m3:Bool}(hr:Room C A)(hA:AtO C A env o Γ s)(hx:Γ.lookup x=some (some (n+1,.srt St)))(hrd:St.rdy=some r)(hE:Ev C env (evG Γ) arg m3 key.pv)(hsz:r.2.length≤lim)
  (kk:∀s',AtO C A env o ((x,some (n+1,.srt {St with rdy:=some (r.1,r.2++[key])}))::Γ) s'->wpAny (model C.prog C.w) A (execs rest env) Q E s')
  (hdb:(x==("__debug__":Str))=false:=by rfl)
  (hev:∀env,eval (.Attribute (.Name x px) "_ready_nodes" p) env=(do
   let o ←eval (.Name x px) env
   standAt p.atName
   let r ←holding [o] (getAttr o "_ready_nodes" true)
   letTemporaryGo (.Name x px) o r
   pure r):=by intro _;with_unfolding_all rfl)
  (hbase:attributeBase (.Attribute (.Name x px) "_ready_nodes" p) "append" env (eval (.Attribute (.Name x px) "_ready_nodes" p) env)=eval (.Attribute (.Name x px) "_ready_nodes" p) env:=by rfl)
  (hfew:((backTo pos (starEach [arg] env)).all (fun x=>!x.1)&&(backToKw pos (keywordEach [] env)).all (fun x=>x.1.isSome)
   &&decide (([arg]:List Expr).length+([]:List Keyword).length+(if([]:List Keyword).isEmpty then 0 else 1)<30))=true:=by rfl)
  (hline:(apos.endLine==pos.line)=true:=by rfl) (htrees:backTo pos (starEach [arg] env)=[(false,eval arg env)]:=by rfl)
  (hi:interactive env=false:=by rfl) (hs:swapsWith (.Call (.Attribute (.Attribute (.Name x px) "_ready_nodes" p) "append" apos) [arg] [] pos) none spos.line env=pure false:=by rfl):
  wpAny (model C.prog C.w) A (execs (.Expr (.Call (.Attribute (.Attribute (.Name x px) "_ready_nodes" p) "append" apos) [arg] [] pos) spos::rest) env) Q E s:=by
 refine wpAny_execs_cons (wpAny_Expr_any ?_ hi hs)
 refine wpAny_Call_method hbase hfew hline PySem.F.plainAttrs_list PySem.F.slot_list_append PySem.F.type_list_append ?_
 obtain⟨S,fp,hA,hst⟩:=hA
 refine eval_ready k hA hst hx hrd ?_ hdb hev
 obtain⟨a,_,_,_,hs0,_,_⟩:=AtO.srt hA hst (.refl _ _ _) hx
 obtain⟨vs0,q0,g0,_⟩:=hs0.ready r hrd
 refine⟨⟨_,g0,rfl⟩,fun b e=>by cases e;exact⟨_,g0,rfl⟩,?_⟩
 rw[htrees]
 refine PySem.P.append_list ?_
 refine hE A S _ {s with toks:=s.toks+1} _ E hr hA.here fun u h2 t2 ex ru=>?_
 obtain⟨a,hkv,hv,hf,hs,hfo,close⟩:=AtO.srt hA hst ex hx
 obtain⟨vs,q,g1,g2⟩:=hs.ready r hrd
 have hm:=SState.mem_rdy (a:=a) hrd
 obtain⟨k',h1,hsb⟩:=seq_upd g1 (fun xs=>xs.push u) (us:=vs++[u]) (by simp)
 refine⟨vs.toArray,q,?_,g1,?_⟩
 ·have:=g2.length
  unfold lim at hsz
  simp only[List.size_toArray,this];show _≤2^24;omega
 ·have T:=Turned.of_same hsb (hfo _ hm).1
  refine kk _ (close _ t2 _ r.1 T hm (hs.setL hrd (fun b hb hbf ob e=>T.1 b ob (hfo b hbf).1 hb e) h1 (g2.append (.cons ru.key .nil))) (fun b hb=>.inl ?_) (by rw[h1];rfl))
  unfold SState.fp SState.rfp at hb⊢
  rw[hrd];exact hb
theorem St.ready_clear(k:SortK C.K){p px apos pos spos:Pos}{x:Str}{n:Nat}{St:SState}{r:Addr×List Key}(hr:Room C A)(hA:AtO C A env o Γ s)(hx:Γ.lookup x=some (some (n+1,.srt St)))(hrd:St.rdy=some r)(hsz:r.2.length≤lim)
  (kk:∀s',AtO C A env o ((x,some (n+1,.srt {St with rdy:=some (r.1,[])}))::Γ) s'->wpAny (model C.prog C.w) A (execs rest env) Q E s')
  (hdb:(x==("__debug__":Str))=false:=by rfl)
  (hev:∀env,eval (.Attribute (.Name x px) "_ready_nodes" p) env=(do
   let o ←eval (.Name x px) env
   standAt p.atName
   let r ←holding [o] (getAttr o "_ready_nodes" true)
   letTemporaryGo (.Name x px) o r
   pure r):=by intro _;with_unfolding_all rfl)
  (hbase:attributeBase (.Attribute (.Name x px) "_ready_nodes" p) "clear" env (eval (.Attribute (.Name x px) "_ready_nodes" p) env)=eval (.Attribute (.Name x px) "_ready_nodes" p) env:=by rfl)
  (hfew:((backTo pos (starEach [] env)).all (fun x=>!x.1)&&(backToKw pos (keywordEach [] env)).all (fun x=>x.1.isSome)
   &&decide (([]:List Expr).length+([]:List Keyword).length+(if([]:List Keyword).isEmpty then 0 else 1)<30))=true:=by rfl)
  (hline:(apos.endLine==pos.line)=true:=by rfl) (htrees:backTo pos (starEach [] env)=[]:=by rfl)
  (hi:interactive env=false:=by rfl) (hs:swapsWith (.Call (.Attribute (.Attribute (.Name x px) "_ready_nodes" p) "clear" apos) [] [] pos) none spos.line env=pure false:=by rfl):
  wpAny (model C.prog C.w) A (execs (.Expr (.Call (.Attribute (.Attribute (.Name x px) "_ready_nodes" p) "clear" apos) [] [] pos) spos::rest) env) Q E s:=by
 refine wpAny_execs_cons (wpAny_Expr_any ?_ hi hs)
 refine wpAny_Call_method hbase hfew hline PySem.F.plainAttrs_list PySem.F.slot_list_clear PySem.F.type_list_clear ?_
 obtain⟨S,fp,hA,hst⟩:=hA
 refine eval_ready k hA hst hx hrd ?_ hdb hev
 obtain⟨a,hkv,hv,hf,hs,hfo,close⟩:=AtO.srt hA hst (.refl _ _ _) hx
 obtain⟨vs,q,g1,g2⟩:=hs.ready r hrd
 have hm:=SState.mem_rdy (a:=a) hrd
 refine⟨⟨_,g1,rfl⟩,fun b e=>by cases e;exact⟨_,g1,rfl⟩,?_⟩
 rw[htrees]
 obtain⟨k',h1,hsb⟩:=seq_upd g1 (fun ω=>#[]) (us:=[]) rfl
 refine PySem.P.clear_list (items:=vs.toArray) (n:=q) g1 ?_ ?_
 ·have T:=Turned.of_same hsb (hfo _ hm).1
  refine kk _ (close _ (s.toks+1) _ r.1 T hm (hs.setL hrd (fun b hb hbf ob e=>T.1 b ob (hfo b hbf).1 hb e) h1 .nil) (fun b hb=>.inl ?_) (by rw[h1];rfl))
  unfold SState.fp SState.rfp at hb⊢
  rw[hrd];exact hb
 ·have:=g2.length
  unfold lim at hsz
  simp only[List.size_toArray,this];show _≤2^24;omega
theorem St.succ_append(k:SortK C.K){oe arg:Expr}{p apos pos spos:Pos}{x:Str}{n:Nat}{St:SState}{nd:SNode}{key:Key}{m2 m3:Bool}(hr:Room C A)(hA:AtO C A env o Γ s)(hx:Γ.lookup x=some (some (n+1,.srt St)))(hnd:nd∈St.nodes)(ho:Ev C env (evG Γ) oe m2 (.raw (.ref nd.loc)))(hE:Ev C env (evG Γ) arg m3 key.pv)(hsz:nd.succ.length≤lim)
  (kk:∀s',AtO C A env o ((x,some (n+1,.srt (St.updN nd.loc (addSucc key))))::Γ) s'->wpAny (model C.prog C.w) A (execs rest env) Q E s')
  (hev:∀env,eval (.Attribute oe "successors" p) env=(do
   let o ←eval oe env
   standAt p.atName
   let r ←holding [o] (getAttr o "successors" true)
   letTemporaryGo oe o r
   pure r):=by intro _;with_unfolding_all rfl)
  (hbase:attributeBase (.Attribute oe "successors" p) "append" env (eval (.Attribute oe "successors" p) env)=eval (.Attribute oe "successors" p) env:=by rfl)
  (hfew:((backTo pos (starEach [arg] env)).all (fun x=>!x.1)&&(backToKw pos (keywordEach [] env)).all (fun x=>x.1.isSome)
   &&decide (([arg]:List Expr).length+([]:List Keyword).length+(if([]:List Keyword).isEmpty then 0 else 1)<30))=true:=by rfl)
  (hline:(apos.endLine==pos.line)=true:=by rfl) (htrees:backTo pos (starEach [arg] env)=[(false,eval arg env)]:=by rfl)
  (hi:interactive env=false:=by rfl) (hs:swapsWith (.Call (.Attribute (.Attribute oe "successors" p) "append" apos) [arg] [] pos) none spos.line env=pure false:=by rfl):
  wpAny (model C.prog C.w) A (execs (.Expr (.Call (.Attribute (.Attribute oe "successors" p) "append" apos) [arg] [] pos) spos::rest) env) Q E s:=by
 refine wpAny_execs_cons (wpAny_Expr_any ?_ hi hs)
 refine wpAny_Call_method hbase hfew hline PySem.F.plainAttrs_list PySem.F.slot_list_append PySem.F.type_list_append ?_
 obtain⟨S,fp,hA,hst⟩:=hA
 refine Attribute_any_ ?_ (hev env)
 refine ho A S _ s _ E hr hA.here fun w h1 t1 ex1 rw_=>?_
 cases rw_.raw_inv
 obtain⟨a,hkv,hv,hf,hs0,hfo,_⟩:=AtO.srt hA hst ex1 hx
 have r0:=hs0.nodes nd hnd
 obtain⟨kv,t0,hkk,I⟩:=infoInst r0
 obtain⟨q,g1,g2,g3,g4,g5,g6⟩:=k.slots (x:="successors") (i:=2) (by decide)
 have X:=(hA.base.ext ex1 hA.fra hA.eok).kin
 refine getSlot (s:={s with heap:=h1,toks:=t1}) X I (classFits_get k.ni _) (classFits_cls k.ni) g1 g2 g3 g4 (v:=.ref nd.lst) rfl rfl ?_
 obtain⟨vs0,q0,e0,_⟩:=r0.list
 refine⟨⟨_,e0,rfl⟩,fun b e=>by cases e;exact⟨_,e0,rfl⟩,?_⟩
 rw[htrees]
 refine PySem.P.append_list ?_
 refine hE A S _ {s with heap:=h1,toks:=t1+1} _ E hr (hA.here.ext ex1) fun u h2 t2 ex ru=>?_
 obtain⟨a,hkv,hv,hf,hs,hfo,close⟩:=AtO.srt hA hst (ex1.trans ex) hx
 have r:=hs.nodes nd hnd
 obtain⟨vs,q,e1,e2⟩:=r.list
 have hlst:nd.lst∈nd.fp:=by simp[SNode.fp]
 have hm:=SState.mem_node (a:=a) hnd hlst
 obtain⟨k',h1',hsb⟩:=seq_upd e1 (fun xs=>xs.push u) (us:=vs++[u]) (by simp)
 refine⟨vs.toArray,q,?_,e1,?_⟩
 ·have:=e2.length
  unfold lim at hsz
  simp only[List.size_toArray,this];show _≤2^24;omega
 ·have T:=Turned.of_same hsb (hfo _ hm).1
  have kk':∀b,b≠nd.lst->b∈St.fp a->∀ob,h2.get? b=some ob->(h2.update nd.lst (Obj.mapSeq fun xs=>xs.push u)).get? b=some ob:=fun b hb hbf ob e=>T.1 b ob (hfo b hbf).1 hb e
  have hdl:nd.loc≠nd.lst∧nd.dc≠nd.lst:=by
   have h0:nd.fp.Nodup:=flat_nd hs.nodesNd hnd
   simp only[SNode.fp,List.nodup_cons,List.mem_cons,List.not_mem_nil,or_false,not_or]at h0
   exact⟨h0.1.2,h0.2.1⟩
  have hn:NodeAt (h2.update nd.lst (Obj.mapSeq fun xs=>xs.push u)) (addSucc key nd):=by
   obtain⟨kv',t',f1,f2⟩:=r.inst
   exact⟨⟨kv',t',f1,kk' _ hdl.1 (SState.mem_node hnd (by simp[SNode.fp])) _ f2⟩,kk' _ hdl.2 (SState.mem_node hnd (by simp[SNode.fp])) _ r.dict,⟨_,_,h1',e2.append (.cons ru.key .nil)⟩⟩
  exact kk _ (close _ t2 _ nd.lst T hm (hs.updN hnd hlst (keepers_succ key) kk' hn) (fun b hb=>.inl (by rw[St.updN_fp _ (keepers_succ key)]at hb;exact hb)) (by rw[h1'];rfl))
end
noncomputable def nthS(l:List Stmt)(i:Nat):Stmt:=(l[i]?).getD (.Pass default)
noncomputable def fbody:Stmt->List Stmt
 | .FunctionDef _ _ b _ _ _ _ _ _ _=>b
 | .ClassDef _ _ _ b _ _ _ _ _ _ _=>b
 |_=>[]
noncomputable def fnames:Stmt->List (Str×NameKind)
 | .FunctionDef _ _ _ _ _ _ s _ _ _=>s.names
 |_=>[]
noncomputable def fargs:Stmt->Arguments
 | .FunctionDef _ a _ _ _ _ _ _ _ _=>a
 |_=>default
noncomputable def topS:List Stmt:=PySem.Challenge.pw_km0021_05.main.body
noncomputable def niS(i:Nat):Stmt:=nthS (fbody (nthS topS 4)) i
noncomputable def tsS(i:Nat):Stmt:=nthS (fbody (nthS topS 6)) i
inductive FnIs(K:Frag)(fa:Addr)(d:Stmt)(dflt:Value):Prop
 |mk (ob:Obj) (fd:FuncData):K.lookup fa=some ob->ob.data= .func fd->fnFits fd=true->codeIn K fd.code fd.qualname=true->fd.body= .stmts (fbody d)->fd.scope.names=fnames d->fd.params=fargs d->fd.defaults=dflt->fd.kwdefaults= .none->FnIs K fa d dflt
structure FnAt(K:Frag)(fa:Addr)(d:Stmt)(dflt:Value):Prop where
 ex:FnIs K fa d dflt
section
variable{C:Cx}{A:Around}{env:Env}{S:Addr->Prop}{fp:Str->List Addr}{Γ:SGam}{h h₁:Heap}
theorem At.turnQ(hA:At C A env S fp Γ h)(B:Addr->Prop)(hk:∀a o,a≠env.locals->¬B a->h.get? a=some o->h₁.get? a=some o)(hns:∀m,h.Ns env.locals m->h₁.Ns env.locals m)
  (hB:∀a,B a->mainGlobals<a∧(∀o,C.K.lookup a≠some o)∧¬S a∧¬frameAt A env a∧∀y,a∉fp y):At C A env S fp Γ h₁:=by
 have hc:∀x c,env.cells.lookup x=some c->¬B c:=fun x c hx h=>(hB _ h).2.2.2.1 (.inr ⟨x,hx⟩)
 have live:∀a,a≠env.locals->¬B a->(h.get? a).isSome=true->(h₁.get? a).isSome=true:=fun a hl hb ha=>by
  obtain⟨o,ho⟩:=Option.isSome_iff_exists.mp ha;rw[hk a o hl hb ho];rfl
 have nl:∀a,¬frameAt A env a->a≠env.locals:=fun a h e=>h (.inl (.inl e))
 have hk':∀a o,¬Fz A env a->¬B a->h.get? a=some o->h₁.get? a=some o:=fun a o hz=>hk a o fun e=>hz (.inl e)
 refine{cx:=hA.cx,base:=hA.base.turn hA.fra hA.eok B hk' (fun a ha=>⟨(hB a ha).1,(hB a ha).2.1⟩),eok:=hA.eok.turn hA.fra B hk' hns hc,fra:=hA.fra.sk (let⟨m,hm⟩:=hA.eok.ns;⟨m,hns m hm⟩) (.of_keep fun a o hs hl ho=>hk a o hl (fun h=>(hB a h).2.2.2.1 (.inl (.inr hs))) ho),sold:=fun a ha=>?_,disj:=hA.disj,ndup:=hA.ndup,fold:=fun y a ha=>?_,vars:=fun y n pv hy=>?_}
 ·obtain⟨h1,h2⟩:=hA.sold a ha
  exact⟨live a (nl a h2.1) (fun hb=>(hB a hb).2.2.1 ha) h1,h2⟩
 ·obtain⟨h1,h2⟩:=hA.fold y a ha
  exact⟨live a (nl a h2.1) (fun hb=>(hB a hb).2.2.2.2 y ha) h1,h2⟩
 ·obtain⟨h0,v,h1,h2⟩:=hA.vars y n pv hy
  exact⟨h0,v,h1.turn hA.eok hA.fra B hk' hns hc,h2.mono (fun ω z=>z) (fun a o ha ho=>hk a o (nl a (hA.sold a ha).2.1) (fun hb=>(hB a hb).2.2.1 ha) ho) fun a ha o ho=>hk a o (nl a (hA.fold y a ha).2.1) (fun hb=>(hB a hb).2.2.2.2 y ha) ho⟩
end
section
variable{C:Cx}
structure Laying(C:Cx)(A:Around)(env:Env)(Γ:SGam)(s₀:Heap)(x:Addr)(ox:Obj)(s:Shared)(sh:Shared):Prop where
 at_:At C A env (fun ω=>False) (fun ω=>[]) Γ s.heap
 same:∃h t,s={sh with heap:=h,toks:=t}
 inst:s.heap.get? x=some ox
 off:mainGlobals<x∧(∀o,C.K.lookup x≠some o)∧¬frameAt A env x
 keep:∀a o,¬onStack A a->a≠x->s₀.get? a=some o->s.heap.get? a=some o
 fr:∀a o,onStack A a->s₀.get? a=some o->∃sl,s.heap.get? a=some {o with slots:=sl}
 frame:∀a,ownFr env a->s₀.get? a=none
theorem Laying.ext{A:Around}{env:Env}{Γ:SGam}{s₀ h':Heap}{x:Addr}{ox:Obj}{s sh:Shared}{t:Nat}(l:Laying C A env Γ s₀ x ox s sh)(ex:Ext A env s.heap h'):Laying C A env Γ s₀ x ox {s with heap:=h',toks:=t} sh where
 at_:=by
  have:=l.at_.ext ex (fun ω=>False) fun a ha=>ha.elim
  have e:(fun(a:Addr)=>False∨False)=(fun ω=>False):=funext fun a=>propext ⟨fun h=>h.elim id id,.inl⟩
  rw[e]at this;exact this
 same:=let⟨h,t0,e⟩:=l.same;⟨h',t,by rw[e]⟩
 inst:=ex.keep x _ (fun e=>l.off.2.2 (.inl e)) l.inst
 off:=l.off
 keep:=fun a o hs ha ho=>ex.keep a o (fun e=>e.elim (fun e=>by have:=l.frame a (.inl e);rw[ho]at this;cases this) hs) (l.keep a o hs ha ho)
 fr:=fun a o hs ho=>by
  obtain⟨sl,h1⟩:=l.fr a o hs ho
  obtain⟨sl',h2⟩:=ex.fr a _ hs (fun e=>by have:=l.frame a (.inl e);rw[ho]at this;cases this) h1
  exact⟨sl',h2⟩
 frame:=l.frame
theorem Laying.turn{A:Around}{env:Env}{Γ:SGam}{s₀ h':Heap}{x:Addr}{ox ox':Obj}{s sh:Shared}{t:Nat}(l:Laying C A env Γ s₀ x ox s sh)(T:Turned env.locals x s.heap h')(ho:h'.get? x=some ox'):Laying C A env Γ s₀ x ox' {s with heap:=h',toks:=t} sh where
 at_:=l.at_.turnQ (fun a=>a=x) (fun a o hl hb e=>T.1 a o hl hb e) T.2 fun a ha=>by subst ha;exact⟨l.off.1,l.off.2.1,(fun h=>h),l.off.2.2,fun ω h=>nomatch h⟩
 same:=let⟨h,t0,e⟩:=l.same;⟨h',t,by rw[e]⟩
 inst:=ho
 off:=l.off
 keep:=fun a o hs ha hq=>T.1 a o (fun e=>by have:=l.frame a (.inl e);rw[hq]at this;cases this) ha (l.keep a o hs ha hq)
 fr:=fun a o hs hq=>by
  obtain⟨sl,h1⟩:=l.fr a o hs hq
  exact⟨sl,T.1 a _ (fun e=>by have:=l.frame a (.inl e);rw[hq]at this;cases this) (fun e=>l.off.2.2 (.inl (.inr (e▸hs)))) h1⟩
 frame:=l.frame
theorem lay_slot(R:Value->Heap->Prop)(next:Value->Array (Option Value)){env:Env}{Γ:SGam}{s₀:Heap}{x dx:Addr}{sl:Array (Option Value)}{s sh:Shared}{A:Around}{name xs:Str}{i:Nat}{e:Expr}{p px pos:Pos}{rest:List Stmt}{Q:Flow->Shared->Prop}{E:Value->Shared->Prop}(k:SortK C.K)(hi:(name,i)∈infoNames)
  (l:Laying C A env Γ s₀ x ⟨.ref NIC,some dx,.plain,sl⟩ s sh) (hdx:s₀.get? dx=some {cls:=.type "dict",data:=.dict #[]}∧dx≠x∧¬onStack A dx) (hx:Γ.lookup xs=some (some (0,.raw (.ref x))))
  (hE:∀Q:Value->Shared->Prop,(∀v h' t',Ext A env s.heap h'->R v h'->Q v {s with heap:=h',toks:=t'})->wpAny (model C.prog C.w) A (eval e env) Q E s)
  (kk:∀s' v h',R v h'->Laying C A env Γ s₀ x ⟨.ref NIC,some dx,.plain,next v⟩ s' sh->(∀a o,a≠env.locals->a≠x->h'.get? a=some o->s'.heap.get? a=some o)->wpAny (model C.prog C.w) A (execs rest env) Q E s')
  (hnext:∀v,(sl++Array.replicate (i+1 - sl.size) none).setIfInBounds i (some v)=next v:=by intro _;rfl)
  (hs:swapsWith e (some (.Attribute (.Name xs px) name p)) pos.line env=pure false:=by rfl) (hdb:(xs==("__debug__":Str))=false:=by rfl):
  wpAny (model C.prog C.w) A (execs (.Assign [.Attribute (.Name xs px) name p] e pos::rest) env) Q E s:=by
 refine wpAny_execs_cons (plainObj_wpAny_Assign_Attribute (hE _ fun v h' t' ex hR=>?_) hs)
 have l1:=l.ext (t:=t') ex
 obtain⟨hkv,u,hu,r⟩:=l1.at_.vars xs _ _ hx
 cases r.zero.1.raw_inv
 refine wpAny_Name (wpAny_loadVar (s:={s with heap:=h',toks:=t'}) l1.at_.eok hu ?_) hdb
 obtain⟨p',h1,h2,h3,h4,h5,h6⟩:=k.slots hi
 have hd1:=l1.keep dx _ hdx.2.2 hdx.2.1 hdx.1
 obtain⟨m,hm⟩:=l1.at_.eok.ns
 have hi3:i<1000:=by
  simp only[infoNames,List.mem_cons,Prod.mk.injEq,List.not_mem_nil,or_false]at hi
  rcases hi with h|h|h<;>omega
 refine setSlot (s:={s with heap:=h',toks:=t'}) hm l1.at_.base.kin (od:=some {cls:=.type "dict",data:=.dict #[]}) ⟨l1.inst,rfl,rfl,hd1⟩ (fun e=>l1.off.2.2 (.inl (.inl e))) (classFits_set k.ni) (classFits_over k.ni) h5 h6 h4 hi3 (by rw[hnext]) rfl fun h₁ T ho=>?_
 exact kk _ v h' hR (l1.turn T ho) T.1
theorem info_init(k:SortK C.K)(f:FnAt C.K 36 (niS 1) .none){A:Around}{s:Shared}{x dx:Addr}{key:Key}{kv:Value}{R:Result->Shared->Prop}(hr:Room C.up A)(cx:C.Ok)(B:Base C s.heap)(fx:Fra C A s.heap)(hkv:key.is kv=true)
  (hx:s.heap.get? x=some ⟨.ref NIC,some dx,.plain,#[]⟩) (hdx:s.heap.get? dx=some {cls:=.type "dict",data:=.dict #[]}) (hxd:dx≠x) (hlo:mainGlobals<x∧∀o,C.K.lookup x≠some o) (hos: ¬onStack A x∧¬onStack A dx)
  (kk:∀h' t' l,KeepB A (fun a=>a=x) s.heap h'->(∃kv t,key.is kv=true∧h'.get? x=some (nodeObj ⟨key,0,[],x,dx,l⟩ kv t))->s.heap.get? l=none->l≠x->(∃n,h'.get? l=some (lob [] n))->mainGlobals<l->R (.ok (.ret .none)) {s with heap:=h',toks:=t'}):
  codeAny (model C.prog C.w) A (.call (.ref 36) ⟨[.ref x,kv],[]⟩) R s:=by
 obtain⟨ob,fd,f1,f2,f3,f4,f5,f6,f7,f8,f9⟩:=f.ex
 have hself:fd.scope.names.lookup ("self":Str)=some .local:=by rw[f6];rfl
 have hnode:fd.scope.names.lookup ("node":Str)=some .local:=by rw[f6];rfl
 refine code_enter (S:=fun ω=>False) (fp:=fun ω=>[]) (Γ:=[(("self":Str),some (0,.raw (.ref x))),("node",some (0,key.pv))]) (fun binds h1=>binds=[(("self":Str),.ref x),("node",kv)]∧h1=s.heap) hr cx B fx f1 f2 (.of f3) f4 f5 (fun Q E hq=>?_) (fun binds h1 hp=>?_) (fun ω ω ω h=>nomatch h) (fun ω=>List.nodup_nil) fun env h2 t2 hsc hk hfr hA hkd hr' hon htop=>?_
 ·have e:bindArgs fd ⟨[.ref x,kv],[]⟩=pure [(("self":Str),.ref x),("node",kv)]:=by unfold bindArgs;rw[f7,f8];rfl
  rw[e]
  exact wpAny_pure (hq _ s.heap s.toks ⟨rfl,rfl⟩)
 ·obtain rfl:=hp.1.symm;obtain rfl:=hp.2.symm
  refine⟨fun ω ω e=>e,(show([("self":Str),"node"]).Nodup by decide),fun y hy=>?_,(fun ω h=>h.elim),(fun ω h=>h.elim),(fun ω ω h=>nomatch h),fun y n pv hl=>?_⟩
  ·simp only[List.mem_cons,List.not_mem_nil,or_false]at hy
   rcases hy with rfl|rfl
   ·exact .inl hself
   ·exact .inl hnode
  ·rw[List.lookup_cons]at hl
   cases hb:y==("self":Str)with
   |true=>
    rw[hb]at hl;cases hl
    rw[beq_iff_eq.mp hb]
    exact⟨_,List.mem_cons_self,.val (.raw _)⟩
   |false=>
    rw[hb]at hl
    simp only[List.lookup_cons]at hl
    cases hb2:y==("node":Str)with
    |true=>
     rw[hb2]at hl;cases hl
     rw[beq_iff_eq.mp hb2]
     exact⟨kv,by simp,.val (Key.rd hkv)⟩
    |false=>rw[hb2]at hl;cases hl
 ·have own:∀a o,s.heap.get? a=some o->¬ownFr env a:=fun a o ho h=>by have:=hfr a h;rw[ho]at this;cases this
  have hsd:∀a o,s.heap.get? a=some o->¬onStack A a->¬onStack (A.deeper env) a:=fun a o ho hn hs=>((hon a).mp hs).elim (fun e=>own a o ho (.inl e)) hn
  have hfx: ¬frameAt (A.deeper env) env x:=fun h=>by
   rcases h with(h|h)|h
   ·exact own x _ hx (.inl h)
   ·exact hsd x _ hx hos.1 h
   ·exact own x _ hx (.inr h)
  have hdx':s.heap.get? dx=some {cls:=.type "dict",data:=.dict #[]}∧dx≠x∧¬onStack (A.deeper env) dx:=⟨hdx,hxd,hsd dx _ hdx hos.2⟩
  have l0:Laying C (A.deeper env) env [("self",some (0,.raw (.ref x))),("node",some (0,key.pv))] s.heap x ⟨.ref NIC,some dx,.plain,#[]⟩ {s with heap:=h2,toks:=t2} s:=
   ⟨hA,⟨h2,t2,rfl⟩,hk x _ hx,⟨hlo.1,hlo.2,hfx⟩,fun a o ω ω ho=>hk a o ho,fun a o ω ho=>⟨o.slots,hk a o ho⟩,hfr⟩
  have hkn:env.kindOf "node" =some .local:=by rw[hkd];exact hnode
  refine lay_slot (fun v ω=>key.is v=true) (fun v=>#[some v]) (i:=0) (dx:=dx) k (by decide) l0 hdx' rfl (fun Q hq=>?_) fun s1 v1 ω hv1 l1 ω=>?_
  ·refine(Ev.name (C:=C) (Γ:=evG [(("self":Str),some (0,.raw (.ref x))),(("node":Str),some (0,key.pv))]) (md:=true) (pv:=key.pv) rfl (by rw[hkn];rfl)) _ _ _ _ _ _ hr' hA.here fun v h' t' ex rd=>hq v h' t' ex rd.key
  refine lay_slot (fun v ω=>∃t,v= .int 0 t) (fun v=>#[some v1,some v]) (i:=1) (dx:=dx) k (by decide) l1 hdx' rfl (fun Q hq=>?_) fun s2 v2 ω hv2 l2 ω=>?_
  ·exact(Ev.int (C:=C) (md:=true)) _ _ _ _ _ _ hr' l1.at_.here fun v h' t' ex rd=>hq v h' t' ex rd.int_inv
  refine lay_slot (fun v h=>∃l,v= .ref l∧s2.heap.get? l=none∧(∃n,h.get? l=some (lob [] n))∧mainGlobals<l) (fun v=>#[some v1,some v2,some v]) (i:=2) (dx:=dx) k (by decide) l2 hdx' rfl (fun Q hq=>?_) fun s3 v3 h3 hv3 l3 T3=>?_
  ·refine(EvN.list (C:=C) (md:=true) (EvL.nil) (by decide)) _ _ _ _ _ _ hr' l2.at_.here fun a vs n h' t' ex hn hlo ho rv=>hq _ h' t' ex ⟨a,rfl,hn,⟨n,?_⟩,hlo⟩
   cases rv;exact ho
  refine wpAny_execs_nil ?_
  obtain⟨t2',rfl⟩:=hv2
  obtain⟨l,rfl,hl1,⟨n,hl2⟩,hl3⟩:=hv3
  obtain⟨h4,t4,e4⟩:=l3.same
  subst e4
  have hlx:l≠x:=fun e=>by rw[e,l2.inst]at hl1;cases hl1
  have hll:l≠env.locals:=fun e=>by obtain⟨m',om,_,_,hom,_⟩:=l2.at_.eok.ns;rw[←e,hl1]at hom;cases hom
  have hl0:s.heap.get? l=none:=by
   cases hq:s.heap.get? l with
   |none=>rfl
   |some b=>
    have hl:(s2.heap.get? l).isSome=true:=by
     by_cases hs:onStack (A.deeper env) l
     ·obtain⟨sl,h1⟩:=l2.fr l b hs hq;rw[h1];rfl
     ·rw[l2.keep l b hs hlx hq];rfl
    rw[hl1]at hl;cases hl
  have hin:h4.get? x=some (nodeObj ⟨key,0,[],x,dx,l⟩ v1 t2'):=l3.inst
  exact kk h4 t4 l ⟨fun a b hs hb hq=>l3.keep a b (hsd a b hq hs) hb hq,fun a b hs hq=>l3.fr a b ((hon a).mpr (.inr hs)) hq⟩ ⟨v1,t2',hv1,hin⟩ hl0 hlx ⟨n,T3 l _ hll hlx hl2⟩ hl3
end
noncomputable abbrev sf:Str:="self"
structure Grows(St St':SState):Prop where
 loc:St'.loc=St.loc
 fp:∀b∈St.fp St.loc,b∈St'.fp St'.loc
noncomputable def Mth(C:Cx)(fa:Addr)(St:SState)(xs:List PV)(post:SState->PV->Prop):Prop:=
 ∀ (A:Around) (S:Addr->Prop) (s:Shared) (vs:List Value) (R:Result->Shared->Prop),Room C.up A->C.Ok->Base C s.heap->Fra C A s.heap->(∀b,S b->(s.heap.get? b).isSome=true∧b∉St.fp St.loc∧¬onStack A b)->SorterAt C.prog C.w s.heap St.loc St->
  (∀b∈St.fp St.loc,¬onStack A b∧mainGlobals<b∧∀o,C.K.lookup b≠some o)->RdAll C.prog C.w S s.heap vs xs->
  (∀v h' t' St' pv,post St' pv->Grows St St'->SorterAt C.prog C.w h' St'.loc St'->KeepB A (fun b=>b∈St.fp St.loc) s.heap h'->(∀b∈St'.fp St'.loc,b∈St.fp St.loc∨(s.heap.get? b=none∧mainGlobals<b))->
   Rd C.prog C.w (fun b=>(S b∨s.heap.get? b=none)∧b∉St'.fp St'.loc) h' v pv->R (.ok (.ret v)) {s with heap:=h',toks:=t'})->
  codeAny (model C.prog C.w) A (.call (.ref fa) ⟨.ref St.loc::vs,[]⟩) R s
inductive RetM(C:Cx)(A:Around)(env:Env)(o:Org)(x:Str)(St:SState)(pv:PV)(v:Value)(s:Shared):Prop
 |mk (S:Addr->Prop) (fp:Str->List Addr) (Γ:SGam):At C A env S fp Γ s.heap->Step A env o S fp s->Γ.lookup x=some (some (1,.srt St))->Rd C.prog C.w S s.heap v pv->RetM C A env o x St pv v s
section
variable{C:Cx}
theorem Mth.core{sv:Str}{fa:Addr}{d:Stmt}{dflt:Value}(f:FnAt C.K fa d dflt){St:SState}{xs:List PV}{post:SState->PV->Prop}(Γ₀:SGam)
  (hb:∀ (fd:FuncData) (A:Around) (S:Addr->Prop) (s:Shared) (vs:List Value),fd.params=fargs d->fd.defaults=dflt->fd.kwdefaults= .none->Base C s.heap->(∀b,S b->(s.heap.get? b).isSome=true)->RdAll C.prog C.w S s.heap vs xs->∃ (S₂:Addr->Prop) (binds:List (Str×Value)) (h1:Heap),
   (∀ (Q:List (Str×Value)->Shared->Prop) (E:Value->Shared->Prop),(∀t1,Q binds {s with heap:=h1,toks:=t1})->wpAny (model C.prog C.w) A.in1 (bindArgs fd ⟨.ref St.loc::vs,[]⟩) Q E s)∧
   (∀a b,s.heap.get? a=some b->h1.get? a=some b)∧(binds.map (·.1)).Nodup∧(∀x∈binds,(fnames d).lookup x.1=some .local∨(fnames d).lookup x.1=some .cell)∧
   (∀a,S₂ a->(S a∨s.heap.get? a=none)∧(h1.get? a).isSome=true)∧(sv,Value.ref St.loc)∈binds∧∀x n pv,x≠sv->Γ₀.lookup x=some (some (n,pv))->n=0∧∃v,(x,v)∈binds∧Rd C.prog C.w S₂ h1 v pv)
  (hpost:∀St' pv,post St' pv->Grows St St')
  (walk:∀ (A:Around) (env:Env) (o:Org) (s:Shared) (Q:Flow->Shared->Prop) (E:Value->Shared->Prop),(∀x,env.kindOf x=(fnames d).lookup x)->TopF A env->Room C A->AtO C A env o ((sv,some (1,.srt St))::Γ₀) s->
   (∀v s' St' pv,post St' pv->RetM C A env o sv St' pv v s'->Q (.ret v) s')->(∀s' St' Γ',post St' .none->AtO C A env o Γ' s'->Γ'.lookup sv=some (some (1,.srt St'))->Q .next s')->wpAny (model C.prog C.w) A (execs (fbody d) env) Q E s):
  Mth C fa St xs post:=fun A S s vs R hr cx B fx hS hs hfp rv hR=>by
 obtain⟨ob,fd,f1,f2,f3,f4,f5,f6,f7,f8,f9⟩:=f.ex
 obtain⟨S₂,binds,h1,b1,b2,b3,b4,b5,b6,b7⟩:=hb fd A S s vs f7 f8 f9 B (fun b hb=>(hS b hb).1) rv
 have nS2:∀b,S₂ b->b∉St.fp St.loc:=fun b hb hm=>by
  rcases(b5 b hb).1 with h|h
  ·exact(hS b h).2.1 hm
  ·have:=hs.there b hm;rw[h]at this;cases this
 refine code_enter (S:=S₂) (fp:=fun y=>if y=sv then St.fp St.loc else []) (Γ:=(sv,some (1,.srt St))::Γ₀) (fun bs h=>bs=binds∧h=h1) hr cx B fx f1 f2 (.of f3) f4 f5 (fun Q E hq=>?_) (fun bs h hp=>?_) (fun x y a h1 h2=>?_) (fun x=>?_) fun env h2 t2 hsc hk hfr hA hkd hr' hon htop=>?_
 ·exact b1 Q E fun t1=>hq _ h1 t1 ⟨rfl,rfl⟩
 ·obtain rfl:=hp.1.symm;obtain rfl:=hp.2.symm
  refine⟨b2,b3,fun x hx=>by rw[f6];exact b4 x hx,fun b hb=>⟨(b5 b hb).2,fun hos=>?_⟩,fun b hb x hm=>?_,fun x b hb=>?_,fun x n pv hl=>?_⟩
  ·rcases(b5 b hb).1 with h|h
   ·exact(hS b h).2.2 hos
   ·obtain⟨_,_,ob',_,_,ho',_⟩:=fx.high hos
    rw[h]at ho';cases ho'
  ·by_cases hx:x=sv
   ·simp only[hx,if_true]at hm;exact nS2 b hb hm
   ·simp[hx]at hm
  ·by_cases hx:x=sv
   ·simp only[hx,if_true]at hb
    have:=hs.there b hb
    obtain⟨q,hq⟩:=Option.isSome_iff_exists.mp this
    exact⟨by rw[b2 b q hq];rfl,hfp b hb⟩
   ·simp[hx]at hb
  ·rw[List.lookup_cons]at hl
   cases hb:x==sv with
   |true=>
    rw[hb]at hl;cases hl
    rw[beq_iff_eq.mp hb]
    exact⟨_,b6,by simp only[if_true];exact .srt (hs.mono fun b ω q e=>b2 b q e)⟩
   |false=>
    rw[hb]at hl
    have hne:x≠sv:=by simpa using hb
    obtain⟨rfl,v,h1,h2⟩:=b7 x n pv hne hl
    refine⟨v,h1,?_⟩
    simp only[hne,if_false]
    exact .val h2
 ·by_cases h3:x=sv<;>by_cases h4:y=sv
  ·rw[h3,h4]
  ·simp[h4]at h2
  ·simp[h3]at h1
  ·simp[h3]at h1
 ·by_cases h3:x=sv
  ·simp only[h3,if_true];exact hs.nd
  ·simp[h3]
 ·let o:Org:=⟨S₂,fun y=>if y=sv then St.fp St.loc else [],{s with heap:=h2,toks:=t2}⟩
  have fin:∀v s' St' pv,post St' pv->RetM C (A.deeper env) env o sv St' pv v s'->R (.ok (.ret v)) s':=by
   rintro v s' St' pv hp ⟨S',fp',Γ',hA',hst,hl,rd⟩
   have hg:=hpost St' pv hp
   obtain⟨h3,t3,e⟩:=hst.same
   subst e
   obtain⟨_,u,hu,ro⟩:=hA'.vars _ _ _ hl
   have fresh2:∀b,h2.get? b=none->s.heap.get? b=none:=fun b hb=>by
    cases hq:s.heap.get? b with
    |none=>rfl
    |some q=>rw[hk b q hq]at hb;cases hb
   have hfo:=hA'.fold sv
   have hso:∀b,S' b->b∉fp' sv:=fun b hb=>(hA'.sold b hb).2.2 _
   have hnF:=hst.newF sv
   obtain⟨a,rfl,hF,hs'⟩:=ro.view
   rw[hF]at hfo hso hnF
   ·have ha:=hs'.at_
    subst ha
    have inO:∀b,(∃y,b∈o.fp y)->b∈St.fp St.loc:=by
     rintro b ⟨y,hb⟩
     by_cases hy:y=sv
     ·have:b∈(if y=sv then St.fp St.loc else []):=hb
      simpa only[hy,if_true]using this
     ·have:b∈(if y=sv then St.fp St.loc else []):=hb
      simp[hy]at this
    have own:∀b q,s.heap.get? b=some q->¬ownFr env b:=fun b q ho hf=>by rw[hfr b hf]at ho;cases ho
    refine hR v h3 t3 St' pv hp hg hs' ⟨fun b q hos hb ho=>?_,fun b q hos ho=>?_⟩ (fun b hb=>?_) (rd.mono (fun b hb=>⟨?_,hso b hb⟩) fun ω ω ω e=>e)
    ·refine hst.keep b q (fun hf=>?_) (fun y hy=>hb (inO b ⟨y,hy⟩)) (hk b q ho)
     rcases hf with(hf|hf)|hf
     ·exact own b q ho (.inl hf)
     ·exact((hon b).mp hf).elim (fun h=>own b q ho (.inl h)) hos
     ·exact own b q ho (.inr hf)
    ·exact hst.fr b q ((hon b).mpr (.inr hos)) (fun e=>own b q ho (.inl e)) (hk b q ho)
    ·rcases hnF b hb with h|h
     ·exact .inl (inO b h)
     ·exact .inr ⟨fresh2 b h,(hfo b hb).2.2.1⟩
    ·rcases hst.newS b hb with h|h|h
     ·exact(b5 b h).1
     ·exact absurd (hg.fp b (inO b h)) (hso b hb)
     ·exact .inr (fresh2 b h)
  have hkd':∀x,env.kindOf x=(fnames d).lookup x:=fun x=>by rw[hkd x,f6]
  refine walk _ env o _ _ _ hkd' htop hr' ⟨S₂,_,hA,Step.refl _ _ _ _ _⟩ (fun v s' St' pv hp hret=>fin v s' St' pv hp hret) fun s' St' Γ' hp hA' hl=>?_
  obtain⟨S',fp',h5,h6⟩:=hA'
  exact fin .none s' St' .none hp ⟨S',fp',Γ',h5,h6,hl,.none⟩
theorem Mth.of{fa:Addr}{d:Stmt}{dflt:Value}(f:FnAt C.K fa d dflt){St:SState}{xs:List PV}{post:SState->PV->Prop}(ns:List Str)(hlen:ns.length=xs.length)(hnd:(sf::ns:List Str).Nodup)
  (hloc:∀x∈(sf::ns:List Str),(fnames d).lookup x=some .local∨(fnames d).lookup x=some .cell)
  (hbind:∀ (fd:FuncData) (v:Value) (vs:List Value),fd.params=fargs d->fd.defaults=dflt->fd.kwdefaults= .none->vs.length=xs.length->bindArgs fd ⟨v::vs,[]⟩=pure (((sf,v))::ns.zip vs))
  (hpost:∀St' pv,post St' pv->Grows St St')
  (walk:∀ (A:Around) (env:Env) (o:Org) (s:Shared) (Q:Flow->Shared->Prop) (E:Value->Shared->Prop),(∀x,env.kindOf x=(fnames d).lookup x)->TopF A env->Room C A->AtO C A env o ((sf,some (1,.srt St))::parG ns xs) s->
   (∀v s' St' pv,post St' pv->RetM C A env o sf St' pv v s'->Q (.ret v) s')->(∀s' St' Γ',post St' .none->AtO C A env o Γ' s'->Γ'.lookup sf=some (some (1,.srt St'))->Q .next s')->wpAny (model C.prog C.w) A (execs (fbody d) env) Q E s):
  Mth C fa St xs post:=by
 refine Mth.core f (parG ns xs) (fun fd A S s vs h1 h2 h3 B hS rv=>?_) hpost walk
 have hlv:=rv.length
 have hz:((sf,Value.ref St.loc)::ns.zip vs).map (·.1)=sf::ns:=by rw[List.map_cons,zip_fst ns vs (by rw[hlen,hlv])]
 refine⟨fun a=>S a∧(s.heap.get? a).isSome=true,(sf,.ref St.loc)::ns.zip vs,s.heap,fun Q E hq=>?_,fun ω ω e=>e,by rw[hz];exact hnd,fun x hx=>hloc _ (by rw[←hz];exact List.mem_map.mpr ⟨x,hx,rfl⟩),fun a ha=>⟨.inl ha.1,ha.2⟩,List.mem_cons_self,fun x n pv hne hl=>?_⟩
 ·rw[hbind fd _ vs h1 h2 h3 hlv]
  exact wpAny_pure (hq s.toks)
 ·obtain⟨rfl,v,g1,g2⟩:=parG_zip ns xs vs x n pv rv.there hl
  exact⟨rfl,v,List.mem_cons_of_mem _ g1,g2⟩
theorem mcallC{env:Env}{o:Org}{Γ:SGam}{S:Addr->Prop}{fp:Str->List Addr}{s:Shared}{h':Heap}{A:Around}{x:Str}{n:Nat}{St:SState}{fa:Addr}{xs:List PV}{post:SState->PV->Prop}{vs:List Value}{t:Nat}{Q:Value->Shared->Prop}{E:Value->Shared->Prop}
  (hr:Room C.up A) (hA:At C.up A env S fp Γ s.heap) (hst:Step A env o S fp s) (ex:Ext A env s.heap h') (hx:Γ.lookup x=some (some (n+1,.srt St))) (hM:Mth C fa St xs post) (rv:RdAll C.prog C.w (fun a=>S a∨s.heap.get? a=none) h' vs xs)
  (kk:∀v h₁ t St' pv S' fp',post St' pv->Grows St St'->At C.up A env S' fp' ((x,some (n+1,.srt St'))::Γ) h₁->Step A env o S' fp' {s with heap:=h₁,toks:=t}->Rd C.prog C.w S' h₁ v pv->Q v {s with heap:=h₁,toks:=t}):
  codeAny (model C.prog C.w) A (.call (.ref fa) ⟨.ref St.loc::vs,[]⟩) (fun r s'=>match r with| .ok (.ret v)=>Q v s'| .ok _=>False| .error e=>E e s') {s with heap:=h',toks:=t}:=by
 obtain⟨a,hkv,hv,hf,hs,hfo,_⟩:=AtO.srt hA hst ex hx
 have ha:=hs.at_
 subst ha
 have hB:=hA.base.ext ex hA.fra hA.eok
 have hFr:=hA.fra.ext hA.eok.ns ex
 have hfx:=hA.fold x
 rw[hf]at hfx
 have hSf:∀b,S b->b∉St.fp St.loc:=fun b hb=>by rw[←hf];exact(hA.sold b hb).2.2 x
 refine hM A (fun b=>(S b∨s.heap.get? b=none)∧(h'.get? b).isSome=true) {s with heap:=h',toks:=t} vs _ hr ⟨hA.cx.g⟩ ⟨hB.kin,hB.nolimit,hB.bns,hB.nodigits⟩ (hFr.of rfl) (fun b hb=>⟨hb.2,fun hm=>?_,fun hos=>?_⟩) hs (fun b hb=>⟨fun hos=>(hfx b hb).2.1 (.inl (.inr hos)),(hfx b hb).2.2.1,(hfx b hb).2.2.2⟩) rv.there fun v h₁ t₁ St' pv hp hg hs' hk hfp rd=>?_
 ·rcases hb.1 with h|h
  ·exact hSf b h hm
  ·have:=(hfo b hm).2.2;rw[h]at this;cases this
 ·rcases hb.1 with h|h
  ·exact(hA.sold b h).2.1 (.inl (.inr hos))
  ·have:=Fz.there hA.here (.inr hos);rw[h]at this;cases this
 ·have fresh1:∀b,h'.get? b=none->s.heap.get? b=none:=fun b hb=>ex.fresh hA.eok.ns hb
  have kL:∀b ob,¬Fz A env b->¬b∈St.fp St.loc->h'.get? b=some ob->h₁.get? b=some ob:=fun b ob hz hb e=>hk.keep b ob (fun hos=>hz (.inr hos)) hb e
  have hlf:env.locals∉St.fp St.loc:=fun hm=>(hfo _ hm).1 rfl
  have hup:=At.updG (C:=C.up) (n:=n+1) (pv:=.srt St') hA hst ex hkv hv (fun b=>b∈St.fp St.loc) (h₁:=h₁) (f':=St'.fp St'.loc) kL (fun b ob hos ω e=>hk.fr b ob hos e) (fun m hm=>hk.ns hlf hm) (fun b hb=>by rw[hf];exact hb)
   (fun b hb=>hs'.there b (hg.fp b hb)) (fun b hb=>by
    rw[hf]
    rcases hfp b hb with h|h
    ·exact .inl h
    ·exact .inr ⟨fresh1 b h.1,h.2⟩) hs'.nd (by rw[←hg.loc];exact .srt hs') t₁
  refine kk v h₁ t₁ St' pv _ _ hp hg hup.1 hup.2 (rd.there.mono (fun b hb=>?_) fun ω ω ω e=>e)
  obtain⟨⟨h1,h2⟩,h3⟩:=hb
  rcases h1 with⟨h1|h1,_⟩|h1
  ·exact .inl h1
  ·exact .inr ⟨h1,h3,h2⟩
  ·exact .inr ⟨fresh1 b h1,h3,h2⟩
theorem mcall{env:Env}{o:Org}{Γ:SGam}{S:Addr->Prop}{fp:Str->List Addr}{s:Shared}{h':Heap}{A:Around}{x:Str}{n:Nat}{St:SState}{fa:Addr}{xs:List PV}{post:SState->PV->Prop}{vs:List Value}{t:Nat}{Q:Value->Shared->Prop}{E:Value->Shared->Prop}
  (hr:Room C.up A) (hA:At C.up A env S fp Γ s.heap) (hst:Step A env o S fp s) (ex:Ext A env s.heap h') (hx:Γ.lookup x=some (some (n+1,.srt St))) (hM:Mth C fa St xs post) (rv:RdAll C.prog C.w (fun a=>S a∨s.heap.get? a=none) h' vs xs)
  (kk:∀v h₁ t St' pv S' fp',post St' pv->Grows St St'->At C.up A env S' fp' ((x,some (n+1,.srt St'))::Γ) h₁->Step A env o S' fp' {s with heap:=h₁,toks:=t}->Rd C.prog C.w S' h₁ v pv->Q v {s with heap:=h₁,toks:=t}):
  wpAny (model C.prog C.w) A (call (.ref fa) (.ref St.loc::vs)) Q E {s with heap:=h',toks:=t}:=
 wpAny_call (mcallC hr hA hst ex hx hM rv kk)
end
structure MakeK(K:Frag)(c fi:Addr):Prop where
 keep:keepIn K (.ref c)=true
 init:findIn K (.ref c) "__init__" =some (some (.ref fi))
 fn:isFn K (.ref fi)=true
section
variable{C:Cx}{A:Around}{env:Env}{o:Org}{Γ:SGam}{s:Shared}{Q:Flow->Shared->Prop}{E:Value->Shared->Prop}{rest:List Stmt}{S:Addr->Prop}{fp:Str->List Addr}
theorem Base.of{C':Cx}{h:Heap}(B:Base C h)(hk:C'.K=C.K):Base C' h:=⟨by rw[hk];exact B.kin,B.nolimit,B.bns,B.nodigits⟩
theorem make_info{fI:Stmt}{Γ:Gam}{S U:Addr->Prop}{p pos:Pos}{arg:Expr}{md:Bool}{key:Key}{Q:Value->Shared->Prop}(k:SortK C.K)(f:FnAt C.K 36 (niS 1) .none)(mk:MakeK C.K NIC 36)(hr:Room C.up.up A)(hh:Here C.up.up A S U env Γ s.heap)(hk:env.kindOf "_NodeInfo" =some .globalImplicit)(hg:C.glob "_NodeInfo" =some (.ref NIC))(hE:Ev C.up.up env Γ arg md key.pv)
  (kk:∀x dx l h' t',Ext A env s.heap h'->NodeAt h' ⟨key,0,[],x,dx,l⟩->s.heap.get? x=none->s.heap.get? dx=none->s.heap.get? l=none->mainGlobals<x->mainGlobals<dx->mainGlobals<l->x≠dx->x≠l->dx≠l->Q (.ref x) {s with heap:=h',toks:=t'})
  (he:∀env,starEach [arg] env=(false,eval arg env)::starEach [] env:=by intro _;rfl):
  wpAny (model C.prog C.w) A (eval (.Call (.Name "_NodeInfo" p) [arg] [] pos) env) Q E s:=by
 refine wpAny_Call_NameR (wpAny_Name (wpAny_loadGlob hh.cx hh.base hh.eok hk (.inl hg) ?_) rfl)
 refine callWith_K (K:=C.K) hh.base.kin mk.keep ?_ (he env) rfl
 rw[he env]
 refine Calls.spliced_cons ?_
 refine hE A S U s _ E hr hh fun kv h1 t1 ex1 rk=>?_
 refine Calls.spliced_nil ?_
 have hh1:=hh.ext ex1
 refine⟨hh1.base.kin,wpAny_call ?_⟩
 obtain⟨m,hm⟩:=hh1.eok.ns
 refine make_K (s:={s with heap:=h1,toks:=t1}) (frE hm) newsE hh1.base.kin (classFits_make k.ni) mk.init (beq_iff_eq.mp mk.fn) fun x dx h2 F N hlt hxd=>?_
 have k12:∀a ob,a≠env.locals->h1.get? a=some ob->h2.get? a=some ob:=fun a ob hl e=>(N (a,ob) (List.mem_cons_of_mem _ (List.mem_cons_of_mem _ (mem_allL.mpr ⟨hl,e⟩)))).1
 have ex2:Ext A env h1 h2:=.of_keepB k12 fun m' hm'=>by
  have:m'=m:=funext fun y=>hm'.agree hm y
  subst this;exact F.ns
 have hx2:=(N _ List.mem_cons_self)
 have hdx2:=(N _ (List.mem_cons_of_mem _ List.mem_cons_self))
 have fr1:∀a,a≠env.locals->dx≤a->h1.get? a=none:=fun a hl ha=>by
  cases hq:h1.get? a with
  |none=>rfl
  |some ob=>exact absurd (hlt (a,ob) (mem_allL.mpr ⟨hl,hq⟩)) (Nat.not_lt.mpr ha)
 have hx1:=fr1 x hx2.2.1 (Nat.le_of_lt hxd)
 have hdx1:=fr1 dx hdx2.2.1 (Nat.le_refl _)
 have ex12:=ex1.trans ex2
 have lowdx:mainGlobals<dx:=by
  have hg2:mainGlobals≠env.locals:=Nat.ne_of_lt hh.eok.high
  obtain⟨mg,hmg,_⟩:=glob_ns hh1.cx hh1.base
  obtain⟨ob,_,_,hob,_⟩:=hmg
  exact hlt (_,ob) (mem_allL.mpr ⟨hg2,hob⟩)
 have lowx:mainGlobals<x:=Nat.lt_trans lowdx hxd
 have B2:Base C h2:=((hh.ext ex12).base).of rfl
 have hr2:Room C.up (A.under (.builtin "type.__call__" ⟨.ref NIC::[kv],[]⟩)):=Room.mono (A':=A.under (.builtin "type.__call__" ⟨.ref NIC::[kv],[]⟩)) hr rfl (by show A.depth+1≤A.depth+2;omega) (by
  have e:(Code.builtin "type.__call__" ⟨.ref NIC::[kv],[]⟩).cUnits=1:=rfl
  show A.units+(Code.builtin "type.__call__" ⟨.ref NIC::[kv],[]⟩).cUnits≤A.units+8
  rw[e];omega) C.up (Nat.le_refl _) rfl
 have hfe:(A.under (.builtin "type.__call__" ⟨.ref NIC::[kv],[]⟩)).frames=A.frames:=rfl
 have nOn:∀a,h1.get? a=none->¬onStack (A.under (.builtin "type.__call__" ⟨.ref NIC::[kv],[]⟩)) a:=fun a ha hs=>by
  have:=Fz.there hh1 (.inr ((onStack_of hfe).mp hs));rw[ha]at this;cases this
 refine info_init k f hr2 ⟨hh.cx.g⟩ B2 ((Fra.of (C':=C) (hh.ext ex12).fra rfl).frames rfl) rk.key hx2.1 hdx2.1 (Nat.ne_of_lt hxd) ⟨lowx,fun ob hob=>?_⟩ ⟨nOn x hx1,nOn dx hdx1⟩ fun h3 t3 l hk3 hin hl2 hlx hl3 hlo=>?_
 ·have:=hh1.base.kin x ob hob;rw[hx1]at this;cases this
 ·refine⟨rfl,?_⟩
  have hx0:=ex1.fresh hh.eok.ns hx1
  have ex3:Ext A env s.heap h3:=⟨fun a ob hl e=>hk3.keep a ob (fun hs=>hl (.inr ((onStack_of hfe).mp hs))) (fun e'=>by rw[e',hx0]at e;cases e) (ex12.keep a ob hl e),fun m' hm'=>hk3.ns (fun e=>hx2.2.1 e.symm) (ex12.ns m' hm'),fun a ob hs hl e=>by
   obtain⟨sl,h1⟩:=ex12.fr a ob hs hl e
   obtain⟨sl',h2⟩:=hk3.fr a _ ((onStack_of hfe).mpr hs) h1
   exact⟨sl',h2⟩⟩
  have hdx3:=hk3.keep dx _ (nOn dx hdx1) (Nat.ne_of_lt hxd) hdx2.1
  obtain⟨kv',t',hkv',hin⟩:=hin
  obtain⟨n,hl3⟩:=hl3
  refine kk x dx l h3 t3 ex3 ⟨⟨kv',t',hkv',hin⟩,hdx3,⟨[],n,hl3,.nil⟩⟩ (ex1.fresh hh.eok.ns hx1) (ex1.fresh hh.eok.ns hdx1) (ex12.fresh hh.eok.ns hl2) lowx lowdx hlo (Nat.ne_of_gt hxd) (Ne.symm hlx) fun e=>?_
  rw[←e,hdx2.1]at hl2;cases hl2
theorem wpAny_assign_Sub{M:Model}{A:Around}{E:Value->Shared->Prop}{s:Shared}{env:Env}{oe i:Expr}{p:Pos}{v:Value}{Q:Unit->Shared->Prop}(h:wpAny M A (eval oe env) (fun ov s₂=>wpAny M A (eval i env) (fun iv s₃=>wpAny M A (setItem ov iv v) Q E s₃) E s₂) E s):wpAny M A (PySem.assign (.Subscript oe i p) env v) Q E s:=by
 rw[assign_Subscript]
 exact wpAny_bind (wpAny_holding (wpAny_mono h (fun ov s₂ h₂=>wpAny_bind (wpAny_holding (wpAny_mono h₂ (fun iv s₃ h₃=>wpAny_bind (wpAny_standAt (wpAny_bind (wpAny_holding (wpAny_mono h₃ (fun ω s₄ h₄=>wpAny_releaseD h₄) fun ω ω x=>x))))) fun ω ω x=>x))) fun ω ω x=>x))
theorem St.new_node{x res:Str}{px p1 p2 pr pc pos' pos:Pos}{i arg:Expr}{n:Nat}{St:SState}{key:Key}{m2 m3:Bool}(k:SortK C.K)(f:FnAt C.K 36 (niS 1) .none)(mk:MakeK C.K NIC 36)(hr:Room C.up.up A)(hA:AtO C.up.up A env o Γ s)(hx:Γ.lookup x=some (some (n+1,.srt St)))
  (hk:env.kindOf "_NodeInfo" =some .globalImplicit) (hg:C.glob "_NodeInfo" =some (.ref NIC)) (hE:Ev C.up.up env (evG Γ) arg m2 key.pv) (hi:Ev C.up.up env (evG Γ) i m3 key.pv) (hnew:St.find key=none) (hsz:St.nodes.length≤lim) (hres:env.kindOf res=some .local∨env.kindOf res=some .cell)
  (kk:∀s' nd,nd.key=key->nd.np=0->nd.succ=[]->AtO C.up.up A env o ((res,some (0,.raw (.ref nd.loc)))::(x,some (n+1,.srt {St with nodes:=St.nodes++[nd]}))::Γ) s'->wpAny (model C.prog C.w) A (execs rest env) Q E s')
  (hcd:res≠"__classdict__":=by decide) (hdb:(x==("__debug__":Str))=false:=by rfl)
  (hev:∀env,eval (.Attribute (.Name x px) "_node2info" p1) env=(do
   let o ←eval (.Name x px) env
   standAt p1.atName
   let r ←holding [o] (getAttr o "_node2info" true)
   letTemporaryGo (.Name x px) o r
   pure r):=by intro _;with_unfolding_all rfl)
  (he:∀env,starEach [arg] env=(false,eval arg env)::starEach [] env:=by intro _;rfl)
  (hass:∀env,(assignEach [.Subscript (.Attribute (.Name x px) "_node2info" p1) i p2,.Name res pr] env).map (·.2)=[PySem.assign (.Subscript (.Attribute (.Name x px) "_node2info" p1) i p2) env,PySem.assign (.Name res pr) env]:=by intro _;rfl)
  (hsw:swappedStores [.Subscript (.Attribute (.Name x px) "_node2info" p1) i p2,.Name res pr] (.Call (.Name "_NodeInfo" pc) [arg] [] pos') env=pure none:=by rfl):
  wpAny (model C.prog C.w) A (execs (.Assign [.Subscript (.Attribute (.Name x px) "_node2info" p1) i p2,.Name res pr] (.Call (.Name "_NodeInfo" pc) [arg] [] pos') pos::rest) env) Q E s:=by
 refine wpAny_execs_cons (wpAny_Assign_two ?_ (hass env) hsw)
 obtain⟨S,fp,hA,hst⟩:=hA
 refine make_info (fI:=default) k f mk hr hA.here hk hg hE (fun x' dx l h1 t1 ex1 hn hx0 hdx0 hl0 lx ldx ll d1 d2 d3=>?_) he
 let nd:SNode:=⟨key,0,[],x',dx,l⟩
 obtain⟨a,hkv,hv,hf,hs,hfo,_⟩:=AtO.srt hA hst ex1 hx
 have hloc:=hs.at_
 subst hloc
 refine wpAny_assign_Sub ?_
 refine Attribute_any_ (wpAny_Name (wpAny_loadVar (s:={s with heap:=h1,toks:=t1}) (hA.eok.ext hA.fra ex1) (hv.ext hA.eok hA.fra ex1) ?_) hdb) (hev env)
 obtain⟨ks,q1,q2,q,I⟩:=selfInst hs
 refine getOwn (attr:=none) (s:={s with heap:=h1,toks:=t1}) (hA.here.ext ex1).base.kin I (classFits_get k.ts _) k.tsd (k.none (by simp[selfNames])) rfl (v:=.ref St.n2) rfl rfl ?_
 refine hi A S _ {s with heap:=h1,toks:=t1+1} _ E hr (hA.here.ext ex1) fun iv h2 t2 ex2 riv=>?_
 have ex:=ex1.trans ex2
 obtain⟨a,_,_,_,hs2,hfo2,_⟩:=AtO.srt hA hst ex hx
 have hloc:=hs2.at_
 subst hloc
 have hmem:St.n2∈St.fp St.loc:=by simp[SState.fp]
 refine wpAny_setItem_pairs (s:={s with heap:=h2,toks:=t2}) riv.key hs2.map (fun h₁ hd₁ hs₁=>?_) (by rw[List.length_map];unfold lim at hsz;show _≤2^24;omega)
 have hst':stored (St.nodes.map fun y=>(y.key,Value.ref y.loc)) key (.ref x')=St.nodes.map (fun y=>(y.key,Value.ref y.loc))++[(nd.key,Value.ref nd.loc)]:=by
  unfold stored
  rw[if_neg]
  simp only[List.any_map,List.any_eq_true,not_exists,not_and,Function.comp_def,decide_eq_true_eq]
  intro y hy e
  have:=List.find?_eq_none.mp hnew y hy
  exact this (by simpa using e)
 rw[hst']at hd₁
 have T:=Turned.of_same hs₁ (hfo2 _ hmem).1
 have hn2:∀b,s.heap.get? b=none->¬Fz A env b∧b≠St.n2∧b∉St.fp St.loc:=fun b hb=>by
  have h0:b∉St.fp St.loc:=fun hm=>by have:=(hfo2 b hm).2.2;rw[hb]at this;cases this
  refine⟨fun e=>?_,fun e=>h0 (e▸hmem),h0⟩
  have:=Fz.there hA.here e;rw[hb]at this;cases this
 have hnd₁:NodeAt h₁ nd:=hn.mono fun b hb ob e=>by
  have hb0:s.heap.get? b=none:=by
   simp only[SNode.fp,List.mem_cons,List.not_mem_nil,or_false]at hb
   rcases hb with rfl|rfl|rfl<;>assumption
  obtain⟨g1,g2,_⟩:=hn2 b hb0
  exact T.1 b ob (fun e=>g1 (.inl e)) g2 (ex2.keep b ob g1 e)
 have hndnd:nd.fp.Nodup:=by
  show [x',dx,l].Nodup
  simp only[List.nodup_cons,List.mem_cons,List.not_mem_nil,or_false,not_or]
  exact⟨⟨d1,d2⟩,d3,fun h=>h,List.nodup_nil⟩
 have hs':SorterAt C.prog C.w h₁ St.loc {St with nodes:=St.nodes++[nd]}:=hs2.addN (fun b hb hbf ob e=>T.1 b ob (hfo2 b hbf).1 hb e) hd₁ hnd₁ hndnd fun b hb=>by
  have hb0:s.heap.get? b=none:=by
   have hb':b∈[x',dx,l]:=hb
   simp only[List.mem_cons,List.not_mem_nil,or_false]at hb'
   rcases hb' with rfl|rfl|rfl<;>assumption
  exact(hn2 b hb0).2.2
 have hfp':SState.fp {St with nodes:=St.nodes++[nd]} St.loc=St.fp St.loc++nd.fp:=by
  unfold SState.fp SState.rfp
  simp[List.append_assoc]
 obtain⟨hA2,hst2⟩:=At.updT (n:=n+1) (pv:=.srt {St with nodes:=St.nodes++[nd]}) hA hst ex hkv hv (fun b=>b=St.n2) (fun b ob hl hb e=>T.1 b ob hl hb e) T.2 (fun b hb=>by rw[hb,hf];exact hmem) (fun b hb=>by rw[hb];obtain⟨ob,_,_,h,_⟩:=hd₁;rw[h];rfl) (fun b hb=>by
  rw[hfp']at hb
  rw[hf]
  rcases List.mem_append.mp hb with hb|hb
  ·exact .inl hb
  ·have hb':b∈[x',dx,l]:=hb
   simp only[List.mem_cons,List.not_mem_nil,or_false]at hb'
   rcases hb' with rfl|rfl|rfl
   ·exact .inr ⟨hx0,lx⟩
   ·exact .inr ⟨hdx0,ldx⟩
   ·exact .inr ⟨hl0,ll⟩) hs'.nd (.srt hs') (t2+1)
 refine(AsgO.name (C:=C.up.up) (pv:=.raw (.ref x')) hres hcd) A o _ _ {s with heap:=h₁,toks:=t2+1} _ _ E hr hA2 hst2 (.raw _) fun fp' h3 t3 hA3 hst3 ω ω=>?_
 exact kk _ nd rfl rfl rfl ⟨_,fp',hA3,hst3⟩
end
theorem Grows.refl(St:SState):Grows St St:=⟨rfl,fun ω h=>h⟩
theorem Grows.trans{a b c:SState}(x:Grows a b)(y:Grows b c):Grows a c:=⟨y.loc.trans x.loc,fun q h=>y.fp q (x.fp q h)⟩
theorem Grows.add(St:SState)(nd:SNode):Grows St {St with nodes:=St.nodes++[nd]}:=⟨rfl,fun b h=>by
 have e:SState.fp {St with nodes:=St.nodes++[nd]} St.loc=St.fp St.loc++nd.fp:=by
  unfold SState.fp SState.rfp;simp[List.append_assoc]
 show b∈SState.fp {St with nodes:=St.nodes++[nd]} St.loc
 rw[e];exact List.mem_append_left _ h⟩
theorem Grows.updN(St:SState)(loc:Addr){f:SNode->SNode}(k:Keepers f):Grows St (St.updN loc f):=⟨rfl,fun b h=>by
 show b∈(St.updN loc f).fp St.loc
 rw[St.updN_fp loc k];exact h⟩
section
variable{C:Cx}{A:Around}{env:Env}{o:Org}{Γ:SGam}{s:Shared}{Q:Flow->Shared->Prop}{E:Value->Shared->Prop}{rest:List Stmt}
theorem AtO.n2_lo(hA:AtO C A env o Γ s){x:Str}{n:Nat}{St:SState}(hx:Γ.lookup x=some (some (n+1,.srt St))):mainGlobals<St.n2:=by
 obtain⟨S,fp,hA,hst⟩:=hA
 obtain⟨a,_,_,_,_,hfo,_⟩:=AtO.srt hA hst (.refl _ _ _) hx
 exact(hfo _ (by simp[SState.fp])).2.1
theorem St.ite_walrus{x:Str}{px pn pc pos:Pos}{kc:Nat}{pk:Pos}{e:Expr}{body orelse:List Stmt}{pv:PV}(b:Bool)(hr:Room C A)(hA:AtO C A env o Γ s)(hE:Ev C env (evG Γ) e true pv)(hb:(pv= .none∧b=true)∨(∃a,pv= .raw (.ref a)∧b=false))(hk:env.kindOf x=some .local∨env.kindOf x=some .cell)
  (k:∀s',AtO C A env o ((x,some (0,pv))::Γ) s'->wpAny (model C.prog C.w) A (execs (if b then body else orelse) env) (Aft C A env rest Q E) E s') (hcd:x≠"__classdict__":=by decide):
  wpAny (model C.prog C.w) A (execs (.If (.Compare (.NamedExpr (.Name x px) e pn) [.Is] [.Constant .none kc pk] pc) body orelse pos::rest) env) Q E s:=by
 refine wpAny_execs_cons (wpAny_If (wpAny_isTrue_Compare1 (wpAny_NamedExpr ?_) rfl))
 obtain⟨S,fp,hA,hst⟩:=hA
 refine hE A S _ s _ E hr hA.here fun v h1 t1 ex rd=>?_
 obtain⟨S',hA1,hst1,g1,g2⟩:=hA.grow hst ex t1
 refine(AsgO.name (C:=C) (pv:=pv) hk hcd) A o S' fp {s with heap:=h1,toks:=t1} v _ E hr hA1 hst1 (Rd.grow rd g1 g2) fun fp' h2 t2 hA2 hst2 ω ω=>?_
 refine wpAny_Constant_none ?_
 have hv:plainIs v .none=true∧(v== .none)=b:=by
  rcases hb with⟨rfl,rfl⟩|⟨a,rfl,rfl⟩
  ·cases rd.none_inv;exact⟨rfl,rfl⟩
  ·cases rd.raw_inv;exact⟨rfl,rfl⟩
 refine wpAny_is_plain hv.1 ?_
 rw[hv.2]
 refine wpAny_truthy_bool ?_
 have:=k _ ⟨S',fp',hA2,hst2⟩
 cases b
 ·exact wpAny_mono this (fun f s h=>by cases f<;>exact h) fun ω ω h=>h
 ·exact wpAny_mono this (fun f s h=>by cases f<;>exact h) fun ω ω h=>h
theorem St.retM{e:Expr}{pos:Pos}{pv:PV}{x:Str}{St:SState}(hr:Room C A)(hA:AtO C A env o Γ s)(hx:Γ.lookup x=some (some (1,.srt St)))(hE:Ev C env (evG Γ) e true pv)(k:∀v s',RetM C A env o x St pv v s'->Q (.ret v) s'):
  wpAny (model C.prog C.w) A (execs (.Return (some e) pos::rest) env) Q E s:=by
 refine wpAny_execs_cons (wpAny_Return_some ?_)
 obtain⟨S,fp,hA,hst⟩:=hA
 refine hE A S _ s _ E hr hA.here fun v h' t' ex rd=>?_
 obtain⟨S',h1,h2,h3,h4⟩:=hA.grow hst ex t'
 exact k v _ ⟨S',fp,Γ,h1,h2,hx,Rd.grow rd h3 h4⟩
end
noncomputable def gotInfo(St:SState)(key:Key)(St':SState)(pv:PV):Prop:=∃nd,pv= .raw (.ref nd.loc)∧nd.key=key∧nd∈St'.nodes∧((St.find key=some nd∧St'=St)∨(St.find key=none∧nd.np=0∧nd.succ=[]∧St'={St with nodes:=St.nodes++[nd]}))
theorem find_key{St:SState}{key:Key}{nd:SNode}(h:St.find key=some nd):nd∈St.nodes∧nd.key=key:=by
 unfold SState.find at h
 exact⟨List.mem_of_find?_eq_some h,by simpa using List.find?_some h⟩
section
variable{C:Cx}
theorem get_nodeinfo(k:SortK C.K)(f36:FnAt C.K 36 (niS 1) .none)(mk:MakeK C.K NIC 36)(f:FnAt C.K 80 (tsS 1) .none)(hg:C.glob "_NodeInfo" =some (.ref NIC))(T:SState)(key:Key)(hsz:T.nodes.length≤lim):Mth C.up.up 80 T [key.pv] (gotInfo T key):=by
 have ks:(fnames (tsS 1)).lookup sf=some .local:=by rfl
 have kn:(fnames (tsS 1)).lookup ("node":Str)=some .local:=by rfl
 have kr:(fnames (tsS 1)).lookup ("result":Str)=some .local:=by rfl
 have kN:(fnames (tsS 1)).lookup ("_NodeInfo":Str)=some .globalImplicit:=by rfl
 refine Mth.of (C:=C.up.up) f ["node"] rfl (by decide) (fun x hx=>?_) (fun fd v vs h1 h2 h3 h4=>?_) (fun T' pv hp=>?_) fun A env o s Q E hkd hkf hr hA hret hnext=>?_
 ·simp only[List.mem_cons,List.not_mem_nil,or_false]at hx
  rcases hx with rfl|rfl
  ·exact .inl ks
  ·exact .inl kn
 ·obtain⟨u,rfl⟩:=len_one h4
  unfold bindArgs;rw[h1,h2];rfl
 ·obtain⟨nd,_,_,_,⟨_,rfl⟩|⟨_,_,_,rfl⟩⟩:=hp
  ·exact Grows.refl _
  ·exact Grows.add _ _
 ·have hlo:=hA.n2_lo (x:=sf) rfl
  have e1:Ev C.up.up env (evG ((sf,some (1,.srt T))::parG ["node"] [key.pv])) (.Name sf ⟨28,22,28,26⟩) false (.srt T):=Ev.name rfl (by rw[hkd,ks];rfl)
  have en:∀p,Ev C.up.up env (evG ((sf,some (1,.srt T))::parG ["node"] [key.pv])) (.Name "node" p) true key.pv:=fun p=>Ev.name rfl (by rw[hkd,kn];rfl)
  have hks:isVar (env.kindOf sf)=true:=by rw[hkd,ks];rfl
  refine St.ite_walrus (T.find key).isNone hr hA (Ev.n2_get (St:=T) rfl hks hlo (Ev.self_ (i:=0) k (Ev.name rfl hks) rfl) (en _)) ?_ (.inl (by rw[hkd,kr])) fun s1 hA1=>?_
  ·cases hf:T.find key with
   |none=>exact .inl ⟨rfl,rfl⟩
   |some nd=>exact .inr ⟨nd.loc,rfl,rfl⟩
  ·cases hf:T.find key with
   |none=>
    rw[hf]at hA1
    refine St.new_node (C:=C) (x:=sf) (n:=0) (St:=T) k f36 mk hr hA1 rfl (by rw[hkd,kN]) hg (Ev.name (md:=true) rfl (by rw[hkd,kn];rfl)) (Ev.name (md:=true) rfl (by rw[hkd,kn];rfl)) hf hsz (.inl (by rw[hkd,kr])) fun s2 nd g1 g2 g3 hA2=>?_
    refine wpAny_execs_nil ?_
    exact St.retM (x:=sf) (St:={T with nodes:=T.nodes++[nd]}) hr hA2 rfl (Ev.name (md:=true) rfl (by rw[hkd,kr];rfl)) fun v s' hR=>hret v s' _ _ ⟨nd,rfl,g1,List.mem_append_right _ (List.mem_singleton.mpr rfl),.inr ⟨hf,g2,g3,rfl⟩⟩ hR
   |some nd=>
    rw[hf]at hA1
    refine wpAny_execs_nil ?_
    exact St.retM (x:=sf) (St:=T) hr hA1 rfl (Ev.name (md:=true) rfl (by rw[hkd,kr];rfl)) fun v s' hR=>hret v s' _ _ ⟨nd,rfl,(find_key hf).2,(find_key hf).1,.inl ⟨hf,rfl⟩⟩ hR
end
noncomputable def methFits(K:Frag)(name:Str)(f:Addr):Bool:=findIn K (.ref TSC) name==some (some (.ref f))&&isFn K (.ref f)&&fnIn K f&&keepIn K (.ref f)&&specialIn K (.ref f) "__get__" ==some (some (.builtin "function.__get__"))&&takesIn K (.ref f)==some false&& !(copiedNames.contains name)&& !(selfNames.contains name)
structure MethK(K:Frag)(name:Str)(f:Addr):Prop where
 find:findIn K (.ref TSC) name=some (some (.ref f))
 fn:isFn K (.ref f)=true
 fnIn:fnIn K f=true
 keep:keepIn K (.ref f)=true
 get:specialIn K (.ref f) "__get__" =some (some (.builtin "function.__get__"))
 takes:takesIn K (.ref f)=some false
 copied:copiedNames.contains name=false
 own:name∉selfNames
theorem MethK.of{K:Frag}{name:Str}{f:Addr}(h:methFits K name f=true):MethK K name f:=by
 simp only[methFits,Bool.and_eq_true,beq_iff_eq,Bool.not_eq_true']at h
 obtain⟨⟨⟨⟨⟨⟨⟨h1,h2⟩,h3⟩,h4⟩,h5⟩,h6⟩,h7⟩,h8⟩:=h
 exact⟨h1,h2,h3,h4,h5,h6,h7,fun hm=>by rw[List.contains_iff_mem.mpr hm]at h8;cases h8⟩
theorem getL_self{w:World}{ks:Tok×Tok×Tok×Tok}{n2:Addr}{rdy:Value}{np nf:Int}{t1 t2:Tok}{name:Str}(h:name∉selfNames):getL name (selfEntries w ks n2 rdy np nf t1 t2)=some none:=by
 simp only[selfNames,List.mem_cons,List.not_mem_nil,or_false,not_or]at h
 obtain⟨h1,h2,h3,h4⟩:=h
 unfold getL selfEntries
 have e:∀ (x:Str) (t:Tok),name≠x->(Value.str x t).isStr name=false:=fun x t hx=>by
  simp only[Value.isStr]
  simpa using Ne.symm hx
 simp only[List.find?_cons,e _ _ h1,e _ _ h2,e _ _ h3,e _ _ h4,List.find?_nil]
 rfl
theorem findObj_fn{K:Frag}{f:Addr}{od:Obj}{name:Str}(hh:hasDictIn K TSC=true)(m:MethK K name f)(hl:lookIn name od=some none):findObj K TSC (some od) name=some (.bind (.builtin "function.__get__") (.ref f)):=by
 obtain⟨cd,hc',hd⟩:=any_some hh
 unfold findObj
 have ho:PySem.W.ownOf cd (some od) name=some none:=by unfold PySem.W.ownOf;rw[if_pos hd];exact hl
 rw[hc',Option.bind_some,m.find,Option.bind_some]
 simp only[m.get,Option.bind_some,m.takes,ho,m.copied,Bool.false_and,Bool.false_eq_true,if_false]
section
variable{C:Cx}{A:Around}{env:Env}{o:Org}{Γ:SGam}{s:Shared}{E:Value->Shared->Prop}{rest:List Stmt}
noncomputable def EvX(C:Cx)(env:Env)(Γ:SGam)(e:Expr)(P:SGam->PV->Prop):Prop:=
 ∀ (A:Around) (o:Org) (s:Shared) (Q:Value->Shared->Prop) (E:Value->Shared->Prop),Room C A->AtO C A env o Γ s->
  (∀v S fp s' Γ' pv,P Γ' pv->At C A env S fp Γ' s'.heap->Step A env o S fp s'->Rd C.prog C.w S s'.heap v pv->Q v s')->wpAny (model C.prog C.w) A (eval e env) Q E s
theorem evalArgs_any{M:Model}{f:Value}{ts:List (Bool×Sem Value)}{Q:Args->Shared->Prop}(hne:ts=[]∨∃x r,ts=(false,x)::r)(h:wpAny M A (spliced ts) (fun vs s'=>Q ⟨vs,[]⟩ s') E s):wpAny M A (evalArgs f true ts []) Q E s:=by
 rcases hne with rfl|⟨x,r,rfl⟩
 ·unfold evalArgs
  show wpAny M A (spliced []>>=_) Q E s
  refine wpAny_bind (wpAny_mono h (fun vs s' h'=>?_) fun ω ω x=>x)
  refine wpAny_holding ?_
  exact wpAny_bind (wpAny_pure (wpAny_bind (wpAny_pure (wpAny_pure h'))))
 ·exact evalArgs_plain h
theorem EvX.meth{x name:Str}{p apos pos:Pos}{args:List Expr}{n:Nat}{St:SState}{fa:Addr}{xs:List PV}{post:SState->PV->Prop}(k:SortK C.K)(mk:MethK C.K name fa)(hx:Γ.lookup x=some (some (n+1,.srt St)))(ha:EvL C.up env (evG Γ) args true xs)(hM:Mth C fa St xs post)
  (hbase:∀env,attributeBase (.Name x p) name env (eval (.Name x p) env)=eval (.Name x p) env:=by intro _;rfl)
  (hform:∀env,methodCallForm (args.length+([]:List Keyword).length) (backTo pos (starEach args env)) (backToKw pos (keywordEach [] env))=true:=by intro _;rfl)
  (hline:(apos.endLine==pos.line)=true:=by rfl) (hne:∀env,backTo pos (starEach args env)=[]∨∃x r,backTo pos (starEach args env)=(false,x)::r:=by intro _;first|exact .inr ⟨_,_,rfl⟩|exact .inl rfl)
  (hplain:∀env,(backTo pos (starEach args env)).any (·.1)=false:=by intro _;rfl) (hdb:(x==("__debug__":Str))=false:=by rfl):
  EvX C.up env Γ (.Call (.Attribute (.Name x p) name apos) args [] pos) (fun Γ' pv=>∃St',post St' pv∧Γ'=(x,some (n+1,.srt St'))::Γ):=fun A o s Q E hr hA hq=>by
 rw[arm_eval_Call,hbase]
 obtain⟨S,fp,hA,hst⟩:=hA
 obtain⟨a,hkv,hv,hf,hs,hfo,_⟩:=AtO.srt hA hst (.refl _ _ _) hx
 have hloc:=hs.at_
 subst hloc
 refine wpAny_bind (wpAny_Name (wpAny_loadVar hA.eok hv ?_) hdb)
 refine wpAny_bind (wpAny_standAt ?_)
 unfold methodCall
 rw[hform]
 obtain⟨ks,q1,q2,q,I⟩:=selfInst hs
 refine wpAny_bind (wpAny_holding (getMeth hA.base.kin I (classFits_get k.ts name) mk.find mk.fn (getL_self mk.own) ?_))
 have hpos:methodCallPos true (.Name x p) env apos pos=pure pos:=by unfold methodCallPos;simp[hline]
 refine wpAny_bind (wpAny_of_eq hpos ?_)
 refine callWith_of (P:=fun h=>C.K.In h) (by show((backTo pos (starEach args env)).any (·.1)||false)=false;rw[hplain];rfl) (keeps_K mk.keep) ?_
 refine evalArgs_any (hne env) ?_
 refine ha A S _ s pos _ E hr hA.here fun vs h2 t2 ex rv=>?_
 refine⟨(hA.base.ext ex hA.fra hA.eok).kin,?_⟩
 exact mcall (C:=C) hr hA hst ex hx hM rv fun v h₁ t St' pv S' fp' hp hg hA' hst' rd=>hq v S' fp' _ _ pv ⟨St',hp,rfl⟩ hA' hst' rd
theorem store_plain{S:Addr->Prop}{fp:Str->List Addr}{x:Str}{pv:PV}{v:Value}{Q:Unit->Shared->Prop}(hk:env.kindOf x=some .local∨env.kindOf x=some .cell)(hcd:x≠"__classdict__")(hA:At C A env S fp Γ s.heap)(hst:Step A env o S fp s)(rd:Rd C.prog C.w S s.heap v pv)
  (hq:∀h' t',AtO C A env o ((x,some (0,pv))::Γ) {s with heap:=h',toks:=t'}->Q () {s with heap:=h',toks:=t'}):wpAny (model C.prog C.w) A (storeName env x v) Q E s:=by
 refine wpAny_storeVar (C:=C) hA.eok hk hcd fun h'' t'' ek h1 h2 kx ω=>?_
 have hkv:isVar (env.kindOf x)=true:=by rcases hk with h|h<;>rw[h]<;>rfl
 have r0:OwnT C S s.heap 0 v pv []:=.val rd
 exact hq _ _ ⟨_,_,hA.put (.refl _ _ _) (fun ω=>False) r0 (fun a ha ω=>⟨.inl ha,by simp⟩) List.nodup_nil (fun ω h=>nomatch h) hkv ek h1 h2 kx,Step.put (s':=s) (f:=[]) hst hA (.refl _ _ _) (fun ω=>False) (fun ω h=>nomatch h) kx t''⟩
variable{Q:Flow->Shared->Prop}
theorem St.assignX{y:Str}{py pos:Pos}{e:Expr}{P:SGam->PV->Prop}(hr:Room C A)(hA:AtO C A env o Γ s)(hE:EvX C env Γ e P)(hk:env.kindOf y=some .local∨env.kindOf y=some .cell)
  (k:∀s' Γ' pv,P Γ' pv->AtO C A env o ((y,some (0,pv))::Γ') s'->wpAny (model C.prog C.w) A (execs rest env) Q E s') (hcd:y≠"__classdict__":=by decide)
  (hs:swapsWith e (some (.Name y py)) pos.line env=pure false:=by rfl):
  wpAny (model C.prog C.w) A (execs (.Assign [.Name y py] e pos::rest) env) Q E s:=by
 refine wpAny_execs_cons (wpAny_Assign_Name ?_ hs)
 refine hE A o s _ E hr hA fun v S fp s' Γ' pv hp hA' hst' rd=>?_
 exact store_plain hk hcd hA' hst' rd fun h t hA2=>k _ Γ' pv hp hA2
theorem St.exprX{pos:Pos}{e:Expr}{P:SGam->PV->Prop}(hr:Room C A)(hA:AtO C A env o Γ s)(hE:EvX C env Γ e P)(k:∀s' Γ' pv,P Γ' pv->AtO C A env o Γ' s'->wpAny (model C.prog C.w) A (execs rest env) Q E s')
  (hi:interactive env=false:=by rfl) (hs:swapsWith e none pos.line env=pure false:=by rfl):wpAny (model C.prog C.w) A (execs (.Expr e pos::rest) env) Q E s:=by
 refine wpAny_execs_cons (wpAny_Expr_any ?_ hi hs)
 exact hE A o s _ E hr hA fun v S fp s' Γ' pv hp hA' hst' rd=>k s' Γ' pv hp ⟨S,fp,hA',hst'⟩
end
noncomputable def AS.find(a:AS)(k:Key):Option AN:=a.nodes.find? fun x=>x.key=k
noncomputable def AS.upd(a:AS)(k:Key)(f:AN->AN):AS:={a with nodes:=a.nodes.map fun x=>if x.key=k then f x else x}
noncomputable def AS.get(a:AS)(k:Key):AS:=match a.find k with|some _=>a|none=>{a with nodes:=a.nodes++[⟨k,0,[]⟩]}
noncomputable def AN.addNp(v:Int)(x:AN):AN:={x with np:=x.np+v}
noncomputable def AN.setNp(v:Int)(x:AN):AN:={x with np:=v}
noncomputable def AN.addSucc(k:Key)(x:AN):AN:={x with succ:=x.succ++[k]}
noncomputable def AS.addPred(a:AS)(k p:Key):AS:=(a.get p).upd p (AN.addSucc k)
noncomputable def AS.add(a:AS)(k:Key)(ps:List Key):AS:=ps.foldl (fun a p=>a.addPred k p) ((a.get k).upd k (AN.addNp ps.length))
noncomputable def AS.small(a:AS)(n:Nat):Prop:=a.nodes.length+n≤lim∧∀x∈a.nodes,x.succ.length+n≤lim
theorem abs_find(St:SState)(k:Key):St.abs.find k=(St.find k).map SNode.abs:=by
 unfold AS.find SState.find SState.abs
 induction St.nodes with
 |nil=>rfl
 |cons x r ih=>
  rw[List.map_cons,List.find?_cons,List.find?_cons]
  have e:x.abs.key=x.key:=rfl
  by_cases hk:x.key=k
  ·simp[e,hk]
  ·simp only[e,hk,decide_false];exact ih
noncomputable def Uniq(St:SState):Prop:=∀y∈St.nodes,∀z∈St.nodes,(y.loc=z.loc↔y.key=z.key)
theorem abs_updN{St:SState}(u:Uniq St){nd:SNode}(hnd:nd∈St.nodes){f:SNode->SNode}{g:AN->AN}(hfg:(f nd).abs=g nd.abs)(hsame:∀y∈St.nodes,y.key=nd.key->y=nd):(St.updN nd.loc f).abs=St.abs.upd nd.key g:=by
 unfold SState.updN SState.abs AS.upd
 simp only[AS.mk.injEq,List.map_map,and_self,and_true]
 apply List.map_congr_left
 intro y hy
 show SNode.abs (if y.loc=nd.loc then f y else y)=if y.abs.key=nd.key then g y.abs else y.abs
 have e:y.abs.key=y.key:=rfl
 by_cases hl:y.loc=nd.loc
 ·have hk:=(u y hy nd hnd).mp hl
  have:=hsame y hy hk
  subst this
  simp only[if_true,e];exact hfg
 ·have hk:y.key≠nd.key:=fun h=>hl ((u y hy nd hnd).mpr h)
  simp only[hl,if_false,e,hk]
section
variable{C:Cx}{A:Around}{env:Env}{o:Org}{Γ:SGam}{s:Shared}
theorem nodup_key{l:List SNode}(h:(l.map SNode.key).Nodup):∀ {y z:SNode},y∈l->z∈l->y.key=z.key->y=z:=by
 induction l with
 |nil=>intro y z hy;cases hy
 |cons x r ih=>
  intro y z hy hz e
  have h':x.key∉r.map SNode.key∧(r.map SNode.key).Nodup:=by simpa using h
  rcases List.mem_cons.mp hy with hy|hy<;>rcases List.mem_cons.mp hz with hz|hz
  ·rw[hy,hz]
  ·exact absurd (List.mem_map.mpr ⟨z,hz,by rw[←e,hy]⟩) h'.1
  ·exact absurd (List.mem_map.mpr ⟨y,hy,by rw[e,hz]⟩) h'.1
  ·exact ih h'.2 hy hz e
theorem AtO.uniq(hA:AtO C A env o Γ s){x:Str}{n:Nat}{St:SState}(hx:Γ.lookup x=some (some (n+1,.srt St))):Uniq St∧∀y∈St.nodes,∀z∈St.nodes,y.key=z.key->y=z:=by
 obtain⟨S,fp,hA,hst⟩:=hA
 obtain⟨a,_,_,_,hs,_,_⟩:=AtO.srt hA hst (.refl _ _ _) hx
 have hkey:∀y∈St.nodes,∀z∈St.nodes,y.key=z.key->y=z:=fun y hy z hz e=>nodup_key hs.keysNd hy hz e
 refine⟨fun y hy z hz=>⟨fun e=>?_,fun e=>by rw[hkey y hy z hz e]⟩,hkey⟩
 rw[hs.same hy hz (b:=y.loc) (by simp[SNode.fp]) (by rw[e];simp[SNode.fp])]
end
theorem gotInfo_abs{St St':SState}{key:Key}{pv:PV}(h:gotInfo St key St' pv):St'.abs=St.abs.get key∧Grows St St':=by
 obtain⟨nd,rfl,hk,hm,⟨hf,rfl⟩|⟨hf,h1,h2,rfl⟩⟩:=h
 ·refine⟨?_,Grows.refl _⟩
  unfold AS.get
  rw[abs_find,hf];rfl
 ·refine⟨?_,Grows.add _ _⟩
  unfold AS.get
  rw[abs_find,hf]
  show SState.abs _={nodes:=St.abs.nodes++[⟨key,0,[]⟩],rdy:=_,npass:=_,nfin:=_}
  unfold SState.abs
  simp only[List.map_append,List.map_cons,List.map_nil]
  rw[←hk,←h1,←h2];rfl
theorem Built.len_tuple{C:Cx}{env:Env}{Γ:Gam}{m1 md:Bool}{xs:List PV}(hsz:xs.length≤lim):Built C env Γ (.builtin "len") m1 [.tuple xs] md (.int xs.length):=
 ⟨.inr ⟨_,rfl⟩,fun A S U s h₀ vs Q E hr hh e hns rv hq=>by
  obtain⟨v,rfl,r⟩:=rv.one_inv
  obtain⟨a,us,n,rfl,ha,hoa,ra⟩:=r.tuple_inv
  have hl:=ra.length
  refine PySem.P.len_tuple (items:=us.toArray) (n:=n) hoa (by simp only[List.size_toArray,hl];unfold lim at hsz;omega) ?_
  have:(us.toArray.size:Int)=xs.length:=by simp[hl]
  rw[this]
  exact hq _ s.heap _ (.refl _ _ _) (.int _ _)⟩
section
variable{C:Cx}
theorem Mth.ofV{fa:Addr}{d:Stmt}{dflt:Value}(f:FnAt C.K fa d dflt){St:SState}{xs ys:List PV}{post:SState->PV->Prop}(ns:List Str)(va:Str)(hlen:ns.length=xs.length)(hnd:(sf::ns++[va]:List Str).Nodup)
  (hloc:∀x∈(sf::ns++[va]:List Str),(fnames d).lookup x=some .local∨(fnames d).lookup x=some .cell) (hsz:ys.length≤lim)
  (hbind:∀ (fd:FuncData) (v:Value) (vs us:List Value),fd.params=fargs d->fd.defaults=dflt->fd.kwdefaults= .none->vs.length=xs.length->bindArgs fd ⟨v::(vs++us),[]⟩=(do let t ←newTuple us;pure (((sf,v)::ns.zip vs)++[(va,t)])))
  (hpost:∀St' pv,post St' pv->Grows St St')
  (walk:∀ (A:Around) (env:Env) (o:Org) (s:Shared) (Q:Flow->Shared->Prop) (E:Value->Shared->Prop),(∀x,env.kindOf x=(fnames d).lookup x)->TopF A env->Room C A->AtO C A env o ((sf,some (1,.srt St))::(parG ns xs++[(va,some (0,.tuple ys))])) s->
   (∀v s' St' pv,post St' pv->RetM C A env o sf St' pv v s'->Q (.ret v) s')->(∀s' St' Γ',post St' .none->AtO C A env o Γ' s'->Γ'.lookup sf=some (some (1,.srt St'))->Q .next s')->wpAny (model C.prog C.w) A (execs (fbody d) env) Q E s):
  Mth C fa St (xs++ys) post:=by
 refine Mth.core f (parG ns xs++[(va,some (0,.tuple ys))]) (fun fd A S s vs h1 h2 h3 B hS rv=>?_) hpost walk
 have hsp:∃v1 v2,vs=v1++v2∧RdAll C.prog C.w S s.heap v1 xs∧RdAll C.prog C.w S s.heap v2 ys:=by
  refine⟨vs.take xs.length,vs.drop xs.length,(List.take_append_drop _ _).symm,?_,?_⟩
  ·have:=rv.take xs.length;rwa[List.take_left]at this
  ·have:=rv.drop xs.length;rwa[List.drop_left]at this
 obtain⟨v1,v2,rfl,r1,r2⟩:=hsp
 have hl1:=r1.length
 have hz:(((sf,Value.ref St.loc)::ns.zip v1)++[(va,Value.ref s.heap.objs.size)]).map (·.1)=sf::ns++[va]:=by rw[List.map_append,List.map_cons,zip_fst ns v1 (by rw[hlen,hl1])];rfl
 have hT:(s.heap.push {cls:=.type "tuple",data:=.seq v2.toArray}).get? s.heap.objs.size=some (tob v2 0):=Heap.get?_push_size _ rfl
 have kk:∀a b,s.heap.get? a=some b->(s.heap.push {cls:=.type "tuple",data:=.seq v2.toArray}).get? a=some b:=fun a b e=>Heap.get?_push_of_some _ e
 refine⟨fun a=>(S a∧(s.heap.get? a).isSome=true)∨a=s.heap.objs.size,((sf,.ref St.loc)::ns.zip v1)++[(va,.ref s.heap.objs.size)],s.heap.push {cls:=.type "tuple",data:=.seq v2.toArray},fun Q E hq=>?_,kk,by rw[hz];exact hnd,fun x hx=>hloc _ (by rw[←hz];exact List.mem_map.mpr ⟨x,hx,rfl⟩),fun a ha=>?_,by simp,fun x n pv hne hl=>?_⟩
 ·rw[hbind fd _ v1 v2 h1 h2 h3 hl1]
  refine wpAny_bind (wpAny_newTuple ?_ ?_)
  ·exact wpAny_pure (hq s.toks)
  ·rw[r2.length];unfold lim at hsz;show _≤2^24;omega
 ·rcases ha with ha|rfl
  ·obtain⟨b,hb⟩:=Option.isSome_iff_exists.mp ha.2
   exact⟨.inl ha.1,by rw[kk a b hb];rfl⟩
  ·exact⟨.inr fresh_size,by rw[hT];rfl⟩
 ·have e:(parG ns xs++[(va,some (0,PV.tuple ys))]).lookup x=match(parG ns xs).lookup x with|some q=>some q|none=>if x=va then some (some (0,.tuple ys))else none:=by
   rw[List.lookup_append]
   cases(parG ns xs).lookup x with
   |some q=>rfl
   |none=>
    simp only[Option.none_or,List.lookup_cons,List.lookup_nil]
    by_cases hx:x=va
    ·simp[hx]
    ·have:(x==va)=false:=by simpa using hx
     simp[this,hx]
  rw[e]at hl
  cases hp:(parG ns xs).lookup x with
  |some q=>
   rw[hp]at hl
   have hq:q=some (n,pv):=Option.some.inj hl
   rw[hq]at hp
   obtain⟨rfl,v,g1,g2⟩:=parG_zip ns xs v1 x n pv r1.there hp
   exact⟨rfl,v,by simp[g1],g2.mono (fun a ha=>.inl ha) fun a b ω e=>kk a b e⟩
  |none=>
   rw[hp]at hl
   by_cases hx:x=va
   ·simp only[hx,if_true]at hl
    cases hl
    exact⟨rfl,_,by simp[hx],.tuple (.inr rfl) hT (r2.there.mono (fun a ha=>.inl ha) fun a b ω e=>kk a b e)⟩
   ·simp[hx]at hl
end
theorem evG_look{Γ:SGam}{x:Str}{n:Nat}{pv:PV}(hx:Γ.lookup x=some (some (n,pv))):(evG Γ).lookup x=some (some (n,pv)):=hx
theorem look_cons{Γ:SGam}{x y:Str}{e:Option (Nat×PV)}{q:Option (Option (Nat×PV))}(hne:(x==y)=false)(h:Γ.lookup x=q):(((y,e)::Γ:SGam)).lookup x=q:=by
 rw[List.lookup_cons,hne];exact h
structure TopK(C:Cx):Prop where
 sk:SortK C.K
 mkI:MakeK C.K NIC 36
 mkT:MakeK C.K TSC 73
 f36:FnAt C.K 36 (niS 1) .none
 f80:FnAt C.K 80 (tsS 1) .none
 f87:FnAt C.K 87 (tsS 2) .none
 f92:FnAt C.K 92 (tsS 3) .none
 f99:FnAt C.K 99 (tsS 4) .none
 f106:FnAt C.K 106 (tsS 5) .none
 f120:FnAt C.K 120 (tsS 7) .none
 f127:FnAt C.K 127 (tsS 8) .none
 m80:methFits C.K "_get_nodeinfo" 80=true
 m87:methFits C.K "add" 87=true
 m92:methFits C.K "prepare" 92=true
 m99:methFits C.K "get_ready" 99=true
 m106:methFits C.K "is_active" 106=true
 m120:methFits C.K "done" 120=true
 m127:methFits C.K "_find_cycle" 127=true
 gNI:C.glob "_NodeInfo" =some (.ref NIC)
 gTS:C.glob "TopologicalSorter" =some (.ref TSC)
 gOut:∃t,C.glob "_NODE_OUT" =some (.int (-1) t)
 gDone:∃t,C.glob "_NODE_DONE" =some (.int (-2) t)
 noB:(["len","range","enumerate","min","max","sum","list","tuple","set","str","type","isinstance","repr","abs","sorted","bool","iter","ValueError","StopIteration"].all fun x=>C.glob (Str.ofString x)==none)=true
theorem TopK.none{C:Cx}(T:TopK C){x:String}(hx:x∈["len","range","enumerate","min","max","sum","list","tuple","set","str","type","isinstance","repr","abs","sorted","bool","iter","ValueError","StopIteration"]):C.glob (Str.ofString x)=Option.none:=by
 have:=List.all_eq_true.mp T.noB x hx
 exact beq_iff_eq.mp this
theorem get_nodes_le(a:AS)(k:Key):(a.get k).nodes.length≤a.nodes.length+1:=by
 unfold AS.get;split<;>simp
theorem small_get{a:AS}{n:Nat}(k:Key)(h:a.small (n+1)):(a.get k).small n:=by
 refine⟨?_,fun x hx=>?_⟩
 ·have:=get_nodes_le a k;have:=h.1;omega
 ·unfold AS.get at hx
  split at hx
  ·have:=h.2 x hx;omega
  ·rcases List.mem_append.mp hx with hx|hx
   ·have:=h.2 x hx;omega
   ·rcases List.mem_singleton.mp hx with rfl
    have:=h.1;simp;omega
theorem small_upd{a:AS}{n:Nat}{k:Key}{f:AN->AN}(h:a.small n)(hf:∀x∈a.nodes,(f x).succ.length+n≤lim):(a.upd k f).small n:=by
 refine⟨by unfold AS.upd;simp;exact h.1,fun x hx=>?_⟩
 unfold AS.upd at hx
 obtain⟨y,hy,e⟩:=List.mem_map.mp hx
 by_cases hk:y.key=k
 ·simp only[hk,if_true]at e;rw[←e];exact hf y hy
 ·simp only[hk,if_false]at e;rw[←e];exact h.2 y hy
theorem small_mono{a:AS}{n m:Nat}(h:a.small n)(hm:m≤n):a.small m:=⟨by have:=h.1;omega,fun x hx=>by have:=h.2 x hx;omega⟩
theorem foldl_take{α β:Type}(f:β->α->β)(b:β)(l:List α)(i:Nat)(x:α)(h:l[i]?=some x):(l.take (i+1)).foldl f b=f ((l.take i).foldl f b) x:=by
 rw[List.take_add_one,h];simp[List.foldl_append]
noncomputable def addPost(St:SState)(k:Key)(ps:List Key)(St':SState)(pv:PV):Prop:=pv= .none∧St'.abs=St.abs.add k ps∧Grows St St'
section
variable{C:Cx}
theorem add_ok(T:TopK C)(hN:C.hd=false)(T0:SState)(key:Key)(ps:List Key)(hrdy:T0.rdy=none)(hsm:T0.abs.small (2*ps.length+4)):Mth C.up.up.up 87 T0 ([key.pv]++Key.pvs ps) (addPost T0 key ps):=by
 have ks:(fnames (tsS 2)).lookup sf=some .local:=by rfl
 have kn:(fnames (tsS 2)).lookup ("node":Str)=some .local:=by rfl
 have kp:(fnames (tsS 2)).lookup ("predecessors":Str)=some .local:=by rfl
 have ki:(fnames (tsS 2)).lookup ("nodeinfo":Str)=some .local:=by rfl
 have kq:(fnames (tsS 2)).lookup ("pred":Str)=some .local:=by rfl
 have kr:(fnames (tsS 2)).lookup ("pred_info":Str)=some .local:=by rfl
 have kl:(fnames (tsS 2)).lookup ("len":Str)=some .globalImplicit:=by rfl
 have hps:(Key.pvs ps).length=ps.length:=by simp[Key.pvs]
 refine Mth.ofV (C:=C.up.up.up) T.f87 ["node"] "predecessors" rfl (by decide) (fun x hx=>?_) (by rw[hps];have:=hsm.1;omega) (fun fd v vs us h1 h2 h3 h4=>?_) (fun St' pv hp=>hp.2.2) fun A env o s Q E hkd hkf hr hA hret hnext=>?_
 ·simp only[List.mem_cons,List.not_mem_nil,or_false,List.cons_append,List.nil_append]at hx
  rcases hx with rfl|rfl|rfl
  ·exact .inl ks
  ·exact .inl kn
  ·exact .inl kp
 ·obtain⟨u,rfl⟩:=len_one h4
  ·cases us with
   |nil=>unfold bindArgs;rw[h1,h2];rfl
   |cons u0 us=>
    unfold bindArgs;rw[h1,h2]
    have e:decide (us.length+1+1+1>2)=true:=decide_eq_true (by omega)
    rfl
 ·have v1:∀x,(fnames (tsS 2)).lookup x=some .local->isVar (env.kindOf x)=true:=fun x hx=>by rw[hkd,hx];rfl
  have v2:∀x,(fnames (tsS 2)).lookup x=some .local->(env.kindOf x=some .local∨env.kindOf x=some .cell):=fun x hx=>.inl (by rw[hkd,hx])
  refine St.ite (b:=false) hr hA (EvB.cmp (y:=.none) (m2:=true) (Ev.self_ (C:=C.up.up.up) (i:=1) (St:=T0) (md:=false) T.sk (Ev.name rfl (v1 _ ks)) rfl) Ev.nne (by
   have e:selfPV T0 1= .none:=by show(match T0.rdy with|none=>PV.none|some r=>_)=_;rw[hrdy]
   rw[e]
   exact Cop.isnot_none (b:=true) rfl)) fun s1 hA1=>?_
  refine St.nil ?_
  have hint:interactive env=false:=by unfold interactive;rw[hkf.kind];rfl
  have abl:∀X:SState,X.abs.nodes.length=X.nodes.length:=fun X=>by simp[SState.abs]
  refine St.assignX (C:=C.up.up.up) hr hA1 (EvX.meth (C:=C.up.up) T.sk (MethK.of T.m80) (St:=T0) (n:=0) rfl (EvL.cons (Ev.name rfl (v1 _ kn)) EvL.nil) (get_nodeinfo (C:=C) T.sk T.f36 T.mkI T.f80 T.gNI T0 key (by rw[←abl];have:=hsm.1;omega))) (v2 _ ki) fun s2 Γ2 pv2 hP2 hA2=>?_
  obtain⟨T1,hg1,rfl⟩:=hP2
  obtain⟨hab1,hgr1⟩:=gotInfo_abs hg1
  obtain⟨nd,rfl,hk1,hm1,_⟩:=hg1
  have hsm1:T1.abs.small (2*ps.length+3):=by rw[hab1];exact small_get key hsm
  have hu1:=hA2.uniq (x:=sf) (n:=0) (St:=T1) rfl
  refine St.aug_np (C:=C.up.up.up) T.sk (x:=sf) (n:=0) (St:=T1) (nd:=nd) (op:=.Add) (v:=(Key.pvs ps).length) (.inl rfl) hr hA2 rfl hm1 (Ev.name (md:=true) rfl (v1 _ ki)) (Ev.call (md:=true) (Ev.builtin (v:=.builtin "len") (by rw[hkd,kl]) (T.none (x:="len") (by decide)) (by decide +kernel)) (EvL.cons (Ev.name (md:=true) rfl (v1 _ kp)) EvL.nil) (Built.len_tuple (by rw[hps];have:=hsm.1;omega))) fun s3 hA3=>?_
  simp only[if_true]at hA3
  let A2:AS:=(T0.abs.get key).upd key (AN.addNp ps.length)
  have hab2:(T1.updN nd.loc (setNp (nd.np+(Key.pvs ps).length))).abs=A2:=by
   rw[abs_updN hu1.1 hm1 (g:=AN.addNp ps.length) (by show AN.mk _ _ _=AN.mk _ _ _;rw[hps];rfl) (fun y hy e=>hu1.2 y hy nd hm1 e),hab1,hk1]
  have hsm2:A2.small (2*ps.length+3):=small_upd (small_get key hsm) fun x hx=>(small_get key hsm).2 x hx
  refine St.forP (C:=C.up.up.up) hr hA3 (EvI.tuple (xs:=Key.pvs ps) (Ev.name rfl (v1 _ kp)) (by rw[hps];have:=hsm.1;omega))
   (fun i Γi=>∃Ti,Γi.lookup sf=some (some (1,.srt Ti))∧Γi.lookup ("node":Str)=some (some (0,key.pv))∧Ti.abs=(ps.take i).foldl (fun a p=>a.addPred key p) A2∧Grows T0 Ti∧Ti.abs.small (2*(ps.length - i)+3))
   (fun i x Γi=>("pred",some (0,x))::Γi) ⟨_,rfl,rfl,by rw[hab2];rfl,hgr1.trans (Grows.updN _ _ (keepers_np _)),by rw[hab2];exact hsm2⟩ (fun i x Γi hx hi=>AsgO.name (v2 _ kq)) (fun i x Γi hx hi o' s' Q' E' ω ω hA' hn ω ω=>?_) fun s' Γ' hi hA'=>?_
  ·obtain⟨Ti,l1,l2,hab,hgr,hsmi⟩:=hi
   have hxi:∃p,ps[i]?=some p∧x=p.pv:=by
    simp only[Key.pvs,List.getElem?_map]at hx
    cases hp:ps[i]? with
    |none=>rw[hp]at hx;cases hx
    |some p=>rw[hp]at hx;exact⟨p,rfl,(Option.some.inj hx).symm⟩
   obtain⟨p,hp,rfl⟩:=hxi
   have hip:i<ps.length:=(List.getElem?_eq_some_iff.mp hp).1
   have hsmi':Ti.abs.small (2*(ps.length - (i+1))+5):=small_mono hsmi (by omega)
   refine St.assignX (C:=C.up.up.up) hr hA' (EvX.meth (C:=C.up.up) (x:=sf) T.sk (MethK.of T.m80) (St:=Ti) (n:=0) (look_cons rfl l1) (EvL.cons (Ev.name rfl (v1 _ kq)) EvL.nil) (get_nodeinfo (C:=C) T.sk T.f36 T.mkI T.f80 T.gNI Ti p (by rw[←abl];have:=hsmi.1;omega))) (v2 _ kr) fun s4 Γ4 pv4 hP4 hA4=>?_
   obtain⟨T4,hg4,rfl⟩:=hP4
   obtain⟨hab4,hgr4⟩:=gotInfo_abs hg4
   obtain⟨nd4,rfl,hk4,hm4,_⟩:=hg4
   have hu4:=hA4.uniq (x:=sf) (n:=0) (St:=T4) (look_cons rfl (by rw[List.lookup_cons];rfl))
   have hsm4:T4.abs.small (2*(ps.length - (i+1))+4):=by rw[hab4];exact small_get p hsmi'
   have hnode:∀q:SGam,q=(("pred_info",some (0,PV.raw (Value.ref nd4.loc)))::(sf,some (1,PV.srt T4))::("pred",some (0,p.pv))::Γi:SGam)->q.lookup ("node":Str)=some (some (0,key.pv)):=fun q e=>by
    rw[e];exact look_cons rfl (look_cons rfl (look_cons rfl l2))
   refine St.succ_append (C:=C.up.up.up) T.sk (x:=sf) (n:=0) (St:=T4) (nd:=nd4) (key:=key) hr hA4 (look_cons rfl (by rw[List.lookup_cons];rfl)) hm4 (Ev.name (md:=true) rfl (v1 _ kr)) (Ev.name (md:=true) (evG_look (hnode _ rfl)) (v1 _ kn)) ?_ (fun s5 hA5=>?_) (hi:=hint)
   ·have:=hsm4.2 nd4.abs (by unfold SState.abs;exact List.mem_map.mpr ⟨nd4,hm4,rfl⟩)
    show nd4.abs.succ.length≤lim
    omega
   ·refine St.nil ((hn _ _ ⟨T4.updN nd4.loc (addSucc key),by rw[List.lookup_cons];rfl,look_cons rfl (hnode _ rfl),?_,(hgr.trans hgr4).trans (Grows.updN _ _ (keepers_succ _)),?_⟩ hA5).1)
    ·rw[abs_updN hu4.1 hm4 (g:=AN.addSucc key) rfl (fun y hy e=>hu4.2 y hy nd4 hm4 e),hab4,hab,hk4,foldl_take _ _ _ _ _ hp]
     rfl
    ·rw[abs_updN hu4.1 hm4 (g:=AN.addSucc key) rfl (fun y hy e=>hu4.2 y hy nd4 hm4 e)]
     refine small_upd (small_mono hsm4 (by omega)) fun y hy=>?_
     have:=hsm4.2 y hy
     simp[AN.addSucc];omega
  ·obtain⟨Ti,l1,l2,hab,hgr,_⟩:=hi
   refine St.nil (St.nil (hnext s' Ti Γ' ⟨rfl,?_,hgr⟩ hA' l1))
   rw[hab,hps,List.take_of_length_le (Nat.le_refl _)]
   rfl
end
theorem meets_bool_new_list(l:Addr)(items:Array Value):Meets (Builtin.«bool.__new__» ⟨[.type "bool",.ref l],[]⟩) (fun ω R s=>s.heap.IsList l items∧(items.size:Int)<2^63∧R (.ok (.ret (.bool (!items.isEmpty)))) {s with toks:=s.toks+1+1}):=
 Meets.of_wp fun prog w A R s hs=>by
  obtain⟨hp,g,d,tk,os⟩:=s
  obtain⟨h1,h2,h3⟩:=hs
  have f1:=F.conv_sub_bool
  repeat (any_goals (first|assumption|(refine wpAny_truthy_list h1 h2 ?_)|wp_step))
  all_goals first|exact⟨_,rfl,h3⟩|skip
section
variable{C:Cx}{A:Around}{env:Env}{Γ:Gam}{m1 md:Bool}
theorem Built.bool_list{xs:List PV}(hsz:xs.length≤lim):Built C env Γ (.type "bool") m1 [.list xs] md (.bool (!xs.isEmpty)):=
 ⟨.inl ⟨_,rfl⟩,fun A S U s h₀ vs Q E hr hh e hns rv hq=>by
  obtain⟨v,rfl,r⟩:=rv.one_inv
  obtain⟨a,us,n,rfl,ha,hoa,ra⟩:=r.list_inv
  have hl:=ra.length
  refine PySem.call_bool_1 (meets_bool_new_list a us.toArray) ⟨IsList.of_lob hoa,by simp only[List.size_toArray,hl];unfold lim at hsz;omega,?_⟩
  have:(!us.toArray.isEmpty)= !xs.isEmpty:=by
   cases us<;>cases xs<;>simp_all
  rw[this]
  exact⟨rfl,hq _ s.heap _ (.refl _ _ _) (.bool _)⟩⟩
theorem Built.tuple_list{xs:List PV}(hi:∀x∈xs,x.imm=true)(hsz:xs.length≤lim):Built C env Γ (.type "tuple") m1 [.list xs] md (.tuple xs):=
 ⟨.inl ⟨_,rfl⟩,fun A S U s h₀ vs Q E hr hh e hns rv hq=>by
  obtain⟨v,rfl,r⟩:=rv.one_inv
  obtain⟨a,us,n,rfl,ha,hoa,ra⟩:=r.list_inv
  have hl:=ra.length
  refine call_tuple_list (IsList.of_lob hoa) (fun h' hk=>?_) (by simp only[List.size_toArray,hl];unfold lim at hsz;show _≤2^24;omega)
  have ex:Ext A env s.heap h':=.of_keeps hk
  refine hq _ _ _ (ex.push _) (.tuple (.inr ((e.trans ex).fresh hns.ns fresh_size)) (Heap.get?_push_size _ rfl) (ra.imm hi))⟩
theorem Ev.or_val{x y:Expr}{p:Pos}{a b:Bool}{m2 m3:Bool}(h1:Ev C env Γ x m2 (.bool a))(h2:a=false->Ev C env Γ y m3 (.bool b)):Ev C env Γ (.BoolOp .Or [x,y] p) md (.bool (a||b)):=fun A S U s Q E hr hh hq=>
 BoolOp_or (h1 A S U s _ E hr hh fun v h' t' e rd=>by
  cases rd.bool_inv
  refine wpAny_truthy_bool ?_
  cases a with
  |false=>
   rw[if_neg (by decide)]
   refine BoolOp_one (h2 rfl A S U _ _ E hr (hh.ext e) fun v h'' t'' e' rd=>?_)
   cases rd.bool_inv
   exact hq _ h'' t'' (e.trans e') (.bool _)
  |true=>
   rw[if_pos rfl]
   exact hq _ h' t' e (.bool _))
theorem Ev.gint{x:Str}{p:Pos}{i:Int}{t:Tok}(hk:env.kindOf x=some .globalImplicit)(hv:C.glob x=some (.int i t))(hd:(x==("__debug__":Str))=false:=by rfl):Ev C env Γ (.Name x p) md (.int i):=fun ω ω ω s ω ω ω hh hq=>
 wpAny_Name (wpAny_loadGlob hh.cx hh.base hh.eok hk (.inl hv) (hq _ s.heap s.toks (.refl _ _ _) (.int _ _))) hd
end
theorem pvs_imm(ks:List Key):∀x∈Key.pvs ks,x.imm=true:=fun x hx=>by
 obtain⟨k,_,rfl⟩:=List.mem_map.mp hx
 cases k<;>rfl
theorem pvs_get{ks:List Key}{i:Nat}{x:PV}(hx:(Key.pvs ks)[i]?=some x):∃k,ks[i]?=some k∧x=k.pv:=by
 simp only[Key.pvs,List.getElem?_map]at hx
 cases hp:ks[i]? with
 |none=>rw[hp]at hx;cases hx
 |some p=>rw[hp]at hx;exact⟨p,rfl,(Option.some.inj hx).symm⟩
theorem pvs_len(ks:List Key):(Key.pvs ks).length=ks.length:=by simp[Key.pvs]
theorem Grows.rdy(St:SState){r:Addr×List Key}(hr:St.rdy=some r)(ks:List Key):Grows St {St with rdy:=some (r.1,ks)}:=⟨rfl,fun b h=>by
 unfold SState.fp SState.rfp at h⊢
 rw[hr]at h;exact h⟩
theorem Grows.cnt(St:SState)(a b:Int):Grows St {St with npass:=a,nfin:=b}:=⟨rfl,fun b h=>h⟩
theorem Grows.newR(St:SState)(hr:St.rdy=none)(l:Addr)(ks:List Key):Grows St {St with rdy:=some (l,ks)}:=⟨rfl,fun b h=>by
 unfold SState.fp SState.rfp at h⊢
 rw[hr]at h
 simp only[List.mem_cons,List.mem_append,List.not_mem_nil,or_false,false_or]at h⊢
 rcases h with h|h|h|h
 ·exact .inl h
 ·exact .inr (.inl h)
 ·exact .inr (.inr (.inl h))
 ·exact .inr (.inr (.inr (.inr h)))⟩
noncomputable def AS.out(a:AS)(ks:List Key):AS:=ks.foldl (fun a k=>a.upd k (AN.setNp (-1))) a
noncomputable def readyPost(T:SState)(ks:List Key)(T':SState)(pv:PV):Prop:=pv= .tuple (Key.pvs ks)∧Grows T T'∧T'.abs={T.abs.out ks with rdy:=some [],npass:=T.npass+ks.length,nfin:=T.nfin}
section
variable{C:Cx}
theorem get_ready_ok(T:TopK C)(hN:C.hd=false)(T0:SState)(l:Addr)(ks:List Key)(hrdy:T0.rdy=some (l,ks))(hsz:ks.length≤lim)(hin:∀k∈ks,(T0.abs.find k).isSome=true):Mth C 99 T0 [] (readyPost T0 ks):=by
 have kse:(fnames (tsS 4)).lookup sf=some .local:=by rfl
 have kr:(fnames (tsS 4)).lookup ("result":Str)=some .local:=by rfl
 have kn2:(fnames (tsS 4)).lookup ("n2i":Str)=some .local:=by rfl
 have kn:(fnames (tsS 4)).lookup ("node":Str)=some .local:=by rfl
 have kt:(fnames (tsS 4)).lookup ("tuple":Str)=some .globalImplicit:=by rfl
 have kl:(fnames (tsS 4)).lookup ("len":Str)=some .globalImplicit:=by rfl
 have ko:(fnames (tsS 4)).lookup ("_NODE_OUT":Str)=some .globalImplicit:=by rfl
 obtain⟨tOut,hOut⟩:=T.gOut
 have hpl:=pvs_len ks
 refine Mth.of (C:=C) T.f99 [] rfl (by decide) (fun x hx=>?_) (fun fd v vs h1 h2 h3 h4=>?_) (fun St' pv hp=>hp.2.1) fun A env o s Q E hkd hkf hr hA hret hnext=>?_
 ·simp only[List.mem_cons,List.not_mem_nil,or_false]at hx
  subst hx;exact .inl kse
 ·obtain rfl:=List.length_eq_zero_iff.mp h4
  unfold bindArgs;rw[h1,h2];rfl
 ·have v1:∀x,(fnames (tsS 4)).lookup x=some .local->isVar (env.kindOf x)=true:=fun x hx=>by rw[hkd,hx];rfl
  have v2:∀x,(fnames (tsS 4)).lookup x=some .local->(env.kindOf x=some .local∨env.kindOf x=some .cell):=fun x hx=>.inl (by rw[hkd,hx])
  have hint:interactive env=false:=by unfold interactive;rw[hkf.kind];rfl
  have er:selfPV T0 1= .list (Key.pvs ks):=by show(match T0.rdy with|none=>PV.none|some r=>_)=_;rw[hrdy]
  have sv:∀ (i:Nat) (nm:Str) (p pos:Pos),selfNames[i]?=some nm->∀Γ:SGam,Γ.lookup sf=some (some (1,.srt T0))->Ev C env (evG Γ) (.Attribute (.Name sf p) nm pos) false (selfPV T0 i):=fun i nm p pos h Γ hl=>Ev.self_ (C:=C) (i:=i) (St:=T0) (md:=false) T.sk (Ev.name (evG_look hl) (v1 _ kse)) h
  refine St.ite (b:=false) hr hA (EvB.cmp (y:=.none) (m2:=true) (sv 1 _ _ _ rfl _ rfl) Ev.nne (by
   rw[er]
   exact Cop.is_none rfl)) fun s1 hA1=>?_
  refine St.nil ?_
  refine St.assign (n:=0) (pv:=.tuple (Key.pvs ks)) hr hA1 (EvK.of_ev (Ev.call (m1:=false) (Ev.builtin (v:=.type "tuple") (by rw[hkd,kt]) (T.none (x:="tuple") (by decide)) boot_tuple) (EvL.cons (by rw[←er];exact sv 1 _ _ _ rfl _ rfl) EvL.nil) (Built.tuple_list (pvs_imm ks) (by rw[hpl];exact hsz)))) (v2 _ kr) fun s2 hA2=>?_
  refine St.assign (n:=0) (pv:=.raw (.ref T0.n2)) hr hA2 (EvK.of_ev (Ev.imm (sv 0 _ _ _ rfl _ rfl) rfl)) (v2 _ kn2) fun s3 hA3=>?_
  refine St.forP (C:=C) hr hA3 (EvI.tuple (xs:=Key.pvs ks) (Ev.name rfl (v1 _ kr)) (by rw[hpl];exact hsz))
   (fun i Γi=>∃Ti,Γi.lookup sf=some (some (1,.srt Ti))∧Γi.lookup ("result":Str)=some (some (0,.tuple (Key.pvs ks)))∧Γi.lookup ("n2i":Str)=some (some (0,.raw (.ref T0.n2)))∧Ti.abs=T0.abs.out (ks.take i)∧Grows T0 Ti∧Ti.n2=T0.n2∧Ti.rdy=T0.rdy∧Ti.npass=T0.npass∧Ti.nfin=T0.nfin)
   (fun i x Γi=>("node",some (0,x))::Γi) ⟨_,rfl,rfl,rfl,rfl,Grows.refl _,rfl,rfl,rfl,rfl⟩ (fun i x Γi hx hi=>AsgO.name (v2 _ kn)) (fun i x Γi hx hi o' s' Q' E' ω ω hA' hn ω ω=>?_) fun s' Γ' hi hA'=>?_
  ·obtain⟨Ti,l1,l2,l3,hab,hgr,e1,e2,e3,e4⟩:=hi
   obtain⟨p,hp,rfl⟩:=pvs_get hx
   have hf:∃nd,Ti.find p=some nd:=by
    have h0:=hin p (List.mem_of_getElem? hp)
    have h1:((T0.abs.out (ks.take i)).find p).isSome=true:=by
     unfold AS.out
     generalize ks.take i=js
     generalize T0.abs=a at h0
     clear hab
     induction js generalizing a with
     |nil=>exact h0
     |cons j r ih=>
      refine ih _ ?_
      unfold AS.find AS.upd at*
      rw[List.find?_isSome]at h0⊢
      obtain⟨y,hy,hyk⟩:=h0
      refine⟨_,List.mem_map.mpr ⟨y,hy,rfl⟩,?_⟩
      split
      ·exact hyk
      ·exact hyk
    rw[←hab,abs_find]at h1
    cases hq:Ti.find p with
    |none=>rw[hq]at h1;cases h1
    |some nd=>exact⟨nd,rfl⟩
   obtain⟨nd,hf⟩:=hf
   obtain⟨hm,hk⟩:=find_key hf
   have l3':Γi.lookup ("n2i":Str)=some (some (0,.raw (.ref Ti.n2))):=by rw[e1];exact l3
   have hu:=hA'.uniq (x:=sf) (n:=0) (St:=Ti) (look_cons rfl l1)
   refine St.set_np (C:=C) T.sk (x:=sf) (n:=0) (St:=Ti) (nd:=nd) (v:=-1) (m3:=true) hr hA' (look_cons rfl l1) hm (Ev.gint (by rw[hkd,ko]) hOut) (Ev.n2_item (C:=C) (x:=sf) (mo:=true) (evG_look (look_cons rfl l1)) (v1 _ kse) (Ev.name (md:=true) (evG_look (look_cons rfl l3')) (v1 _ kn2)) (Ev.name (md:=true) rfl (v1 _ kn)) hf) fun s4 hA4=>?_
   refine St.nil ((hn _ _ ⟨Ti.updN nd.loc (setNp (-1)),by rw[List.lookup_cons];rfl,look_cons rfl (look_cons rfl l2),look_cons rfl (look_cons rfl l3),?_,hgr.trans (Grows.updN _ _ (keepers_np _)),e1,e2,e3,e4⟩ hA4).1)
   rw[abs_updN hu.1 hm (g:=AN.setNp (-1)) rfl (fun y hy e=>hu.2 y hy nd hm e),hab,hk]
   unfold AS.out
   rw[foldl_take _ _ _ _ _ hp]
  ·obtain⟨Ti,l1,l2,l3,hab,hgr,e1,e2,e3,e4⟩:=hi
   refine St.nil ?_
   have hrdy':Ti.rdy=some (l,ks):=by rw[e2];exact hrdy
   refine St.ready_clear (C:=C) T.sk (x:=sf) (n:=0) (St:=Ti) hr hA' l1 hrdy' hsz (fun s5 hA5=>?_) (hi:=hint)
   refine St.aug_self (C:=C) T.sk (x:=sf) (n:=0) (v:=(Key.pvs ks).length) 2 (.inl ⟨rfl,rfl⟩) hr hA5 (by rw[List.lookup_cons];rfl) (Ev.call (m1:=true) (md:=true) (Ev.builtin (v:=.builtin "len") (by rw[hkd,kl]) (T.none (x:="len") (by decide)) (by decide +kernel)) (EvL.cons (Ev.name (md:=true) (evG_look (look_cons rfl l2)) (v1 _ kr)) EvL.nil) (Built.len_tuple (by rw[hpl];exact hsz))) fun s6 hA6=>?_
   refine St.retM (x:=sf) hr hA6 (by rw[List.lookup_cons];rfl) (Ev.name (md:=true) (evG_look (look_cons rfl (look_cons rfl l2))) (v1 _ kr)) fun v s' hR=>hret v s' _ _ ⟨rfl,?_,?_⟩ hR
   ·exact(hgr.trans (Grows.rdy Ti hrdy' [])).trans (Grows.cnt _ _ _)
   ·rw[hpl,List.take_of_length_le (Nat.le_refl _)]at hab
    unfold SState.abs at hab⊢
    rw[←hab]
    simp only[if_true,hpl,e3,e4,Option.map_some]
end
theorem KeysAre.get{vs:List Value}{ks:List Key}(r:KeysAre vs ks){i:Nat}{k:Key}(h:ks[i]?=some k):∃v,vs[i]?=some v∧k.is v=true:=by
 induction r generalizing i with
 |nil=>simp at h
 |cons hk _ ih=>
  cases i with
  |zero=>simp at h;subst h;exact⟨_,by simp,hk⟩
  |succ i=>simp at h;obtain⟨v,h1,h2⟩:=ih h;exact⟨v,by simpa using h1,h2⟩
section
variable{C:Cx}{A:Around}{env:Env}{o:Org}{Γ:SGam}{s:Shared}{Q:Flow->Shared->Prop}{E:Value->Shared->Prop}{rest:List Stmt}
inductive SInv(C:Cx)(A:Around)(env:Env)(o:Org)(inv:Nat->SGam->Prop)(xl:Nat)(I l:Addr)(n:Nat)(s':Shared):Prop
 |mk (i:Nat) (Γi:SGam) (Si:Addr->Prop) (fpi:Str->List Addr):i≤xl->n=xl - i->inv i Γi->At C A env Si fpi Γi s'.heap->Step A env o Si fpi s'->s'.heap.IsListIter I l i->¬Si I->(∀y,I∉fpi y)->SInv C A env o inv xl I l n s'
theorem St.forS(hN:C.hd=false){target oe:Expr}{p pos:Pos}{body orelse:List Stmt}{x:Str}{n:Nat}{X:SState}{nd:SNode}{m2:Bool}(k:SortK C.K)(hr:Room C A)(hA:AtO C A env o Γ s)(hx:Γ.lookup x=some (some (n+1,.srt X)))(hnd:nd∈X.nodes)(ho:Ev C env (evG Γ) oe m2 (.raw (.ref nd.loc)))
  (inv:Nat->SGam->Prop) (tg:Nat->Key->SGam->SGam) (h0:inv 0 Γ)
  (hinv:∀i Γi,inv i Γi->∃Ti nd',Γi.lookup x=some (some (n+1,.srt Ti))∧nd'∈Ti.nodes∧nd'.lst=nd.lst∧nd'.succ=nd.succ)
  (htg:∀ (i:Nat) (y:Key) Γi,nd.succ[i]?=some y->inv i Γi->AsgO C env Γi target y.pv (tg i y Γi))
  (step:∀ (i:Nat) (y:Key) Γi,nd.succ[i]?=some y->inv i Γi->∀ (o':Org) (s':Shared) (Q':Flow->Shared->Prop) (E':Value->Shared->Prop),AtO C A env o' (tg i y Γi) s'->(∀Γ' s'',inv (i+1) Γ'->AtO C A env o' Γ' s''->Q' .next s'')->wpAny (model C.prog C.w) A (execs body env) Q' E' s')
  (kk:∀s' Γ',inv nd.succ.length Γ'->AtO C A env o Γ' s'->wpAny (model C.prog C.w) A (execs orelse env) (Aft C A env rest Q E) (fun e s''=>notedBy (model C.prog C.w) A env (fun e s'=>cameBackBy (model C.prog C.w) A env E e s') e s'') s')
  (hs:∀x,foldedSetIterable (.Attribute oe "successors" p) env x=pure x:=by intro _;rfl)
  (hev:∀env,eval (.Attribute oe "successors" p) env=(do
   let o ←eval oe env
   standAt p.atName
   let r ←holding [o] (getAttr o "successors" true)
   letTemporaryGo oe o r
   pure r):=by intro _;with_unfolding_all rfl):
  wpAny (model C.prog C.w) A (execs (.For target (.Attribute oe "successors" p) body orelse pos::rest) env) Q E s:=by
 refine wpAny_execs_cons (hid1 fun Q1 hQ=>wpAny_For ?_ hs)
 obtain⟨S,fp,hA,hst⟩:=hA
 refine Attribute_any_ ?_ (hev env)
 refine ho A S _ s _ E hr hA.here fun w h1 t1 ex1 rw_=>?_
 cases rw_.raw_inv
 obtain⟨a,hkv,hv,hf,hs0,hfo,_⟩:=AtO.srt hA hst ex1 hx
 have r0:=hs0.nodes nd hnd
 obtain⟨kv,t0,hkk,I0⟩:=infoInst r0
 obtain⟨q,g1,g2,g3,g4,g5,g6⟩:=k.slots (x:="successors") (i:=2) (by decide)
 have X0:=(hA.base.ext ex1 hA.fra hA.eok).kin
 refine getSlot (s:={s with heap:=h1,toks:=t1}) X0 I0 (classFits_get k.ni _) (classFits_cls k.ni) g1 g2 g3 g4 (v:=.ref nd.lst) rfl rfl ?_
 obtain⟨vs0,q0,e0,_⟩:=r0.list
 refine wpAny_pyIter_list (s:={s with heap:=h1,toks:=t1+1}) (IsList.of_lob e0) ?_
 let I:Addr:=h1.objs.size
 let h2:Heap:=h1.push {cls:=.type "list_iterator",data:=.fields #[.ref nd.lst,.int 0 0]}
 have hk:∀b ob,h1.get? b=some ob->h2.get? b=some ob:=fun b ob e=>Heap.get?_push_of_some _ e
 have hI2:h2.get? I=some {cls:=.type "list_iterator",data:=.fields #[.ref nd.lst,.int 0 0]}:=Heap.get?_push_size _ rfl
 have ex:Ext A env s.heap h2:=ex1.push _
 have hfI:s.heap.get? I=none:=ex1.fresh_at hA.eok.ns
 have hlow:mainGlobals<I:=ex1.highN hA.here
 have hA1:=hA.ext ex (fun ω=>False) fun a ha=>ha.elim
 have eS:(fun a=>S a∨False)=S:=funext fun a=>propext ⟨fun h=>h.elim id False.elim,.inl⟩
 rw[eS]at hA1
 have hs1:Step A env o S fp {s with heap:=h2,toks:=t1+1}:=hst.trans ⟨⟨h2,t1+1,rfl⟩,fun a ha=>ha,fun a ha=>.inl ha,fun y a ha=>.inl ⟨y,ha⟩,fun a b hF hn ho=>ex.keep a b (fun e=>hF (.inl e)) ho,fun a ha=>ex.live hA.eok.ns ha,ex.fr⟩
 have hIa:=hA.freshI hfI
 refine forLoop_core (SInv C A env o inv nd.succ.length I nd.lst) (fun m s' hI' Qn En QB hE hNn hV hQn hQb hQr=>?_) nd.succ.length ⟨0,Γ,S,fp,Nat.zero_le _,rfl,h0,hA1,hs1,⟨_,hI2,rfl,rfl⟩,hIa.2.2.2,hIa.2.2.1⟩
 obtain⟨i,Γi,Si,fpi,hi,hm,hΓi,hAi,hsi,hit,hISi,hIfi⟩:=hI'
 have hB:∀a,a=I->mainGlobals<a∧(∀b,C.K.lookup a≠some b)∧¬Si a∧¬frameAt A env a∧∀y,a∉fpi y:=fun a ha=>ha▸⟨hlow,hIa.1,hISi,hIa.2.1,hIfi⟩
 obtain⟨Ti,nd',l1,m1,e1,e2⟩:=hinv i Γi hΓi
 obtain⟨a',_,_,hf',hsT,_⟩:=AtO.srt hAi hsi (.refl _ _ _) l1
 obtain⟨vs,q',ol,kas⟩:=(hsT.nodes nd' m1).list
 rw[e1]at ol
 rw[e2]at kas
 rcases Nat.lt_or_ge i nd.succ.length with hlt|hge
 ·have hy:nd.succ[i]?=some nd.succ[i]:=List.getElem?_eq_getElem hlt
  obtain⟨v,hv1,hv2⟩:=kas.get hy
  refine wpAny_pyNext_list_item hit (IsList.of_lob ol) (x:=v) (by rw[List.getElem?_toArray];exact hv1) fun h3 hit3 hs3=>hV v _ ?_
  have kI:∀a b,¬(a=I)->s'.heap.get? a=some b->h3.get? a=some b:=fun a b ha hb=>(hs3.2 a ha).trans hb
  obtain⟨obI,hoI,hcI,hdI⟩:=hit3
  refine letOwned_quiet (s:={s' with heap:=h3}) hoI hcI (by decide) ?_
  refine htg i _ Γi hy hΓi A o Si fpi {s' with heap:=h3} v _ _ hr (hAi.quiet (fun a=>a=I) kI hB) (hsi.off (hst.fresh hfI) kI s'.toks) (Key.rd hv2) fun fp4 h4 t4 hA4 hs4 hk4 hf4=>?_
  have hIf4:∀y,I∉fp4 y:=fun y hy=>hIfi y (hf4 y I hy)
  have hI4:h4.get? I=some obI:=hk4 I obI hIa.2.1 hoI
  refine step i _ Γi hy hΓi ⟨Si,fp4,{s' with heap:=h4,toks:=t4}⟩ _ _ _ ⟨Si,fp4,hA4,Step.refl _ _ _ _ _⟩ fun Γ' s'' hiv hA''=>(hQn (nd.succ.length - (i+1)) s'' (sub_lt_of hm hlt) ?_).1
  obtain⟨S5,fp5,hA5,hs5⟩:=hA''
  have hIn:=hs5.notS hISi hIf4 (so hI4)
  exact⟨i+1,Γ',S5,fp5,hlt,rfl,hiv,hA5,hs4.trans hs5,⟨obI,hs5.keep I obI hIa.2.1 hIf4 hI4,hcI,hdI⟩,hIn.1,hIn.2⟩
 ·have hie:i=nd.succ.length:=Nat.le_antisymm hi hge
  refine wpAny_pyNext_list_end (hr.1 hN) hit (IsList.of_lob ol) (by rw[List.getElem?_toArray,hie,←kas.length];exact List.getElem?_eq_none (Nat.le_refl _)) fun h3 he3=>hNn _ ?_
  have kI:∀a b,¬(a=I)->s'.heap.get? a=some b->h3.get? a=some b:=fun a b ha hb=>he3 a b ha hb
  exact wpAny_mono (kk _ Γi (hie▸hΓi) ⟨Si,fpi,hAi.quiet (fun a=>a=I) kI hB,hsi.off (hst.fresh hfI) kI s'.toks⟩) (fun f s'' h=>hQ f s'' (by cases f<;>exact h)) hE
end
noncomputable def AS.dec(a:AS)(s:Key):AS:=if((a.find s).map (·.np))=some 1 then{a.upd s (AN.addNp (-1))with rdy:=a.rdy.map (· ++[s])}else a.upd s (AN.addNp (-1))
noncomputable def AS.done1(a:AS)(k:Key):AS:=match a.find k with
 |some x=>{x.succ.foldl AS.dec (a.upd k (AN.setNp (-2)))with nfin:=a.nfin+1}
 |none=>a
noncomputable def AS.canDone:AS->List Key->Prop
 |_,[]=>True
 |a,k::r=>(∃x,a.find k=some x∧x.np= -1∧(∀s∈x.succ,(a.find s).isSome=true)∧∃l,a.rdy=some l∧l.length+x.succ.length≤lim)∧(a.done1 k).canDone r
theorem canDone_at:∀ (ks:List Key) (a:AS) (i:Nat) (k:Key),a.canDone ks->ks[i]?=some k->∃x,((ks.take i).foldl AS.done1 a).find k=some x∧x.np= -1∧(∀s∈x.succ,(((ks.take i).foldl AS.done1 a).find s).isSome=true)∧∃l,((ks.take i).foldl AS.done1 a).rdy=some l∧l.length+x.succ.length≤lim
 |[],a,i,k,h,hk=>by simp at hk
 |j::r,a,0,k,h,hk=>by
  simp at hk;subst hk;exact h.1
 |j::r,a,i+1,k,h,hk=>by
  simp only[List.getElem?_cons_succ]at hk
  exact canDone_at r (a.done1 j) i k h.2 hk
theorem find_upd{a:AS}{k j:Key}{f:AN->AN}(hf:∀x,(f x).key=x.key):(a.upd k f).find j=(a.find j).map fun x=>if x.key=k then f x else x:=by
 unfold AS.find AS.upd
 induction a.nodes with
 |nil=>rfl
 |cons x r ih=>
  rw[List.map_cons,List.find?_cons,List.find?_cons]
  have hk:(if x.key=k then f x else x).key=x.key:=by split<;>simp[hf]
  have hd:decide ((if x.key=k then f x else x).key=j)=decide (x.key=j):=by rw[hk]
  rw[hd]
  by_cases hj:x.key=j
  ·simp only[hj,decide_true,Option.map_some]
  ·simp only[hj,decide_false];exact ih
theorem find_some_upd{a:AS}{k j:Key}{f:AN->AN}(hf:∀x,(f x).key=x.key)(h:(a.find j).isSome=true):((a.upd k f).find j).isSome=true:=by
 rw[find_upd hf,Option.isSome_map];exact h
theorem find_dec{a:AS}{s j:Key}(h:(a.find j).isSome=true):((a.dec s).find j).isSome=true:=by
 unfold AS.dec
 split
 ·exact find_some_upd (k:=s) (f:=AN.addNp (-1)) (fun ω=>rfl) h
 ·exact find_some_upd (k:=s) (f:=AN.addNp (-1)) (fun ω=>rfl) h
theorem rdy_dec{a:AS}{s:Key}{l:List Key}(h:a.rdy=some l):∃l',(a.dec s).rdy=some l'∧l'.length≤l.length+1:=by
 unfold AS.dec
 split
 ·exact⟨l++[s],by simp[h],by simp⟩
 ·exact⟨l,h,by omega⟩
theorem nfin_dec{a:AS}{s:Key}:(a.dec s).nfin=a.nfin:=by unfold AS.dec;split<;>rfl
theorem Ev.n2_get_some{C:Cx}{env:Env}{Γ:Gam}{m2 m3 mo:Bool}{nx:Nat}{e i:Expr}{X:SState}{nd:SNode}{k:Key}{apos pos:Pos}{x:Str}(hx:Γ.lookup x=some (some (nx,.srt X)))(hkv:isVar (env.kindOf x)=true)(hlo:mainGlobals<X.n2)(he:Ev C env Γ e m2 (.raw (.ref X.n2)))(hi:Ev C env Γ i m3 k.pv)(hf:X.find k=some nd)
  (hbase:∀env,attributeBase e "get" env (eval e env)=eval e env:=by intro _;rfl)
  (hfew:∀env,((backTo pos (starEach [i] env)).all (fun x=>!x.1)&&(backToKw pos (keywordEach [] env)).all (fun x=>x.1.isSome)
   &&decide (([i]:List Expr).length+([]:List Keyword).length+(if([]:List Keyword).isEmpty then 0 else 1)<30))=true:=by intro _;rfl)
  (hline:(apos.endLine==pos.line)=true:=by rfl) (htrees:∀env,backTo pos (starEach [i] env)=[(false,eval i env)]:=by intro _;rfl):
  Ev C env Γ (.Call (.Attribute e "get" apos) [i] [] pos) mo (.raw (.ref nd.loc)):=by
 have:=Ev.n2_get (mo:=mo) hx hkv hlo he hi hbase hfew hline htrees
 rw[hf]at this;exact this
noncomputable def donePost(T:SState)(ks:List Key)(T':SState)(pv:PV):Prop:=pv= .none∧Grows T T'∧T'.abs=ks.foldl AS.done1 T.abs
section
variable{C:Cx}
theorem done_ok(T:TopK C)(hN:C.hd=false)(T0:SState)(l:Addr)(rk:List Key)(ks:List Key)(hrdy:T0.rdy=some (l,rk))(hsz:ks.length≤lim)(hcan:T0.abs.canDone ks):Mth C 120 T0 (Key.pvs ks) (donePost T0 ks):=by
 have kse:(fnames (tsS 7)).lookup sf=some .local:=by rfl
 have kns:(fnames (tsS 7)).lookup ("nodes":Str)=some .local:=by rfl
 have kn2:(fnames (tsS 7)).lookup ("n2i":Str)=some .local:=by rfl
 have kn:(fnames (tsS 7)).lookup ("node":Str)=some .local:=by rfl
 have ki:(fnames (tsS 7)).lookup ("nodeinfo":Str)=some .local:=by rfl
 have kst:(fnames (tsS 7)).lookup ("stat":Str)=some .local:=by rfl
 have ksu:(fnames (tsS 7)).lookup ("successor":Str)=some .local:=by rfl
 have ksi:(fnames (tsS 7)).lookup ("successor_info":Str)=some .local:=by rfl
 have ko:(fnames (tsS 7)).lookup ("_NODE_OUT":Str)=some .globalImplicit:=by rfl
 have kd:(fnames (tsS 7)).lookup ("_NODE_DONE":Str)=some .globalImplicit:=by rfl
 obtain⟨tOut,hOut⟩:=T.gOut
 obtain⟨tDone,hDone⟩:=T.gDone
 have hpl:=pvs_len ks
 have:=Mth.ofV (C:=C) T.f120 (St:=T0) (xs:=[]) (ys:=Key.pvs ks) (post:=donePost T0 ks) [] "nodes" rfl (by decide) (fun x hx=>?_) (by rw[hpl];exact hsz) (fun fd v vs us h1 h2 h3 h4=>?_) (fun St' pv hp=>hp.2.1) fun A env o s Q E hkd hkf hr hA hret hnext=>?_
 ·exact this
 ·simp only[List.mem_cons,List.not_mem_nil,or_false,List.cons_append,List.nil_append]at hx
  rcases hx with rfl|rfl
  ·exact .inl kse
  ·exact .inl kns
 ·obtain rfl:=List.length_eq_zero_iff.mp h4
  ·cases us with
   |nil=>unfold bindArgs;rw[h1,h2];rfl
   |cons u0 us=>unfold bindArgs;rw[h1,h2];rfl
 ·have v1:∀x,(fnames (tsS 7)).lookup x=some .local->isVar (env.kindOf x)=true:=fun x hx=>by rw[hkd,hx];rfl
  have v2:∀x,(fnames (tsS 7)).lookup x=some .local->(env.kindOf x=some .local∨env.kindOf x=some .cell):=fun x hx=>.inl (by rw[hkd,hx])
  have hint:interactive env=false:=by unfold interactive;rw[hkf.kind];rfl
  have er:∀X:SState,∀r,X.rdy=some r->selfPV X 1= .list (Key.pvs r.2):=fun X r h=>by show(match X.rdy with|none=>PV.none|some r=>_)=_;rw[h]
  have sv:∀ (X:SState) (i:Nat) (nm:Str) (p pos:Pos),selfNames[i]?=some nm->∀Γ:SGam,Γ.lookup sf=some (some (1,.srt X))->Ev C env (evG Γ) (.Attribute (.Name sf p) nm pos) false (selfPV X i):=fun X i nm p pos h Γ hl=>Ev.self_ (C:=C) (i:=i) (St:=X) (md:=false) T.sk (Ev.name (evG_look hl) (v1 _ kse)) h
  refine St.ite (b:=false) hr hA (EvB.cmp (y:=.none) (m2:=true) (sv T0 1 _ _ _ rfl _ rfl) Ev.nne (by
   rw[er T0 _ hrdy]
   exact Cop.is_none rfl)) fun s1 hA1=>?_
  refine St.nil ?_
  refine St.assign (n:=0) (pv:=.raw (.ref T0.n2)) hr hA1 (EvK.of_ev (Ev.imm (sv T0 0 _ _ _ rfl _ rfl) rfl)) (v2 _ kn2) fun s3 hA3=>?_
  refine St.forP (C:=C) hr hA3 (EvI.tuple (xs:=Key.pvs ks) (Ev.name rfl (v1 _ kns)) (by rw[hpl];exact hsz))
   (fun i Γi=>∃Ti,Γi.lookup sf=some (some (1,.srt Ti))∧Γi.lookup ("n2i":Str)=some (some (0,.raw (.ref Ti.n2)))∧Ti.abs=(ks.take i).foldl AS.done1 T0.abs∧Grows T0 Ti)
   (fun i x Γi=>("node",some (0,x))::Γi) ⟨_,rfl,rfl,rfl,Grows.refl _⟩ (fun i x Γi hx hi=>AsgO.name (v2 _ kn)) (fun i x Γi hx hi o' s' Q' E' ω ω hA' hn ω ω=>?_) fun s' Γ' hi hA'=>?_
  ·obtain⟨Ti,l1,l3,hab,hgr⟩:=hi
   obtain⟨k,hk,rfl⟩:=pvs_get hx
   obtain⟨xa,c1,c2,c3,lk,c4,c5⟩:=canDone_at ks T0.abs i k hcan hk
   rw[←hab]at c1 c3 c4
   have hf:∃nd,Ti.find k=some nd∧nd.abs=xa:=by
    rw[abs_find]at c1
    cases hq:Ti.find k with
    |none=>rw[hq]at c1;cases c1
    |some nd=>rw[hq]at c1;exact⟨nd,rfl,Option.some.inj c1⟩
   obtain⟨nd,hf,hxa⟩:=hf
   subst hxa
   obtain⟨hm,hke⟩:=find_key hf
   have hlo:=hA'.n2_lo (x:=sf) (n:=0) (St:=Ti) (look_cons rfl l1)
   refine St.ite_walrus (C:=C) (pv:=.raw (.ref nd.loc)) false hr hA' (Ev.n2_get_some (C:=C) (X:=Ti) (x:=sf) (k:=k) (evG_look (look_cons rfl l1)) (v1 _ kse) hlo (Ev.name (md:=true) (evG_look (look_cons rfl l3)) (v1 _ kn2)) (Ev.name (md:=true) (x:=("node":Str)) rfl (v1 _ kn)) hf) (.inr ⟨_,rfl,rfl⟩) (v2 _ ki) fun s4 hA4=>?_
   refine St.nil ?_
   have hnp:nd.np= -1:=c2
   have hie:infoPV nd 1= .int (-1):=by show PV.int nd.np=_;rw[hnp]
   have l4:(("nodeinfo",some (0,PV.raw (Value.ref nd.loc)))::("node",some (0,k.pv))::Γi:SGam).lookup sf=some (some (1,.srt Ti)):=look_cons rfl (look_cons rfl l1)
   refine St.assign (n:=0) (pv:=.int (-1)) hr hA4 (EvK.of_ev (Ev.imm (md:=false) (by
    rw[←hie]
    exact Ev.info_ (C:=C) (md:=false) (x:=sf) (St:=Ti) (nd:=nd) (i:=1) (m2:=true) T.sk (evG_look l4) (v1 _ kse) hm (Ev.name (md:=true) rfl (v1 _ ki)) (by decide)) rfl)) (v2 _ kst) fun s5 hA5=>?_
   refine St.ite (C:=C) (b:=false) hr hA5 (EvB.cmp (m1:=true) (m2:=true) (x:=.int (-1)) (y:=.int (-1)) (Ev.name (md:=true) rfl (v1 _ kst)) (Ev.gint (by rw[hkd,ko]) hOut) Cop.ne_int) fun s6 hA6=>?_
   refine St.nil ?_
   have hu:=hA6.uniq (x:=sf) (n:=0) (St:=Ti) (look_cons rfl l4)
   refine St.set_np (C:=C) T.sk (x:=sf) (n:=0) (St:=Ti) (nd:=nd) (v:=-2) (m3:=true) (m2:=true) hr hA6 (look_cons rfl l4) hm (Ev.gint (by rw[hkd,kd]) hDone) (Ev.name (md:=true) rfl (v1 _ ki)) fun s7 hA7=>?_
   let T1:=Ti.updN nd.loc (setNp (-2))
   have hab1:T1.abs=Ti.abs.upd k (AN.setNp (-2)):=by rw[abs_updN hu.1 hm (g:=AN.setNp (-2)) rfl (fun y hy e=>hu.2 y hy nd hm e),hke]
   have hm1:setNp (-2) nd∈T1.nodes:=List.mem_map.mpr ⟨nd,hm,by simp⟩
   have cl:∀s∈nd.succ,(T1.abs.find s).isSome=true:=fun s hs=>by rw[hab1];exact find_some_upd (fun ω=>rfl) (c3 s hs)
   have r1:T1.abs.rdy=some lk:=by rw[hab1];exact c4
   have c5':lk.length+nd.succ.length≤lim:=c5
   refine St.forS (C:=C) hN (x:=sf) (n:=0) (X:=T1) (nd:=setNp (-2) nd) (m2:=true) T.sk hr hA7 (by rw[List.lookup_cons];rfl) hm1 (Ev.name (md:=true) rfl (v1 _ ki))
    (fun j Γj=>∃Tj,Γj.lookup sf=some (some (1,.srt Tj))∧Γj.lookup ("n2i":Str)=some (some (0,.raw (.ref Tj.n2)))∧Tj.abs=(nd.succ.take j).foldl AS.dec T1.abs∧Grows T1 Tj∧(∃nd',nd'∈Tj.nodes∧nd'.lst=nd.lst∧nd'.succ=nd.succ)∧(∀s∈nd.succ,(Tj.abs.find s).isSome=true)∧∃lj,Tj.abs.rdy=some lj∧lj.length≤lk.length+j)
    (fun j y Γj=>("successor",some (0,y.pv))::Γj) ⟨T1,by rw[List.lookup_cons];rfl,look_cons rfl (look_cons rfl (look_cons rfl (look_cons rfl l3))),rfl,Grows.refl _,⟨_,hm1,rfl,rfl⟩,cl,lk,r1,by omega⟩
    (fun j Γj hj=>by obtain⟨Tj,a1,_,_,_,⟨nd',b1,b2,b3⟩,_⟩:=hj;exact⟨Tj,nd',a1,b1,b2,b3⟩) (fun j y Γj hy hj=>AsgO.name (v2 _ ksu)) (fun j y Γj hy hj o2 s8 Q2 E2 hA8 hn2=>?_) fun s8 Γ8 hj hA8=>?_
   ·obtain⟨Tj,a1,a2,habj,hgrj,⟨nd',b1,b2,b3⟩,clj,lj,rj,lenj⟩:=hj
    have hy':nd.succ[j]?=some y:=hy
    have hfs:∃sd,Tj.find y=some sd:=by
     have:=clj y (List.mem_of_getElem? hy')
     rw[abs_find]at this
     cases hq:Tj.find y with
     |none=>rw[hq]at this;cases this
     |some sd=>exact⟨sd,rfl⟩
    obtain⟨sd,hfs⟩:=hfs
    obtain⟨hms,hks⟩:=find_key hfs
    refine St.assign (n:=0) (pv:=.raw (.ref sd.loc)) hr hA8 (EvK.of_ev (Ev.n2_item (C:=C) (x:=sf) (mo:=true) (evG_look (look_cons rfl a1)) (v1 _ kse) (Ev.name (md:=true) (evG_look (look_cons rfl a2)) (v1 _ kn2)) (Ev.name (md:=true) rfl (v1 _ ksu)) hfs)) (v2 _ ksi) fun s9 hA9=>?_
    have hus:=hA9.uniq (x:=sf) (n:=0) (St:=Tj) (look_cons rfl (look_cons rfl a1))
    refine St.aug_np (C:=C) T.sk (x:=sf) (n:=0) (St:=Tj) (nd:=sd) (op:=.Sub) (v:=1) (m2:=true) (m3:=true) (.inr rfl) hr hA9 (look_cons rfl (look_cons rfl a1)) hms (Ev.name (md:=true) rfl (v1 _ ksi)) Ev.int fun s10 hA10=>?_
    simp only[reduceCtorEq,if_false]at hA10
    let T2:=Tj.updN sd.loc (setNp (sd.np - 1))
    have hab2:T2.abs=Tj.abs.upd y (AN.addNp (-1)):=by rw[abs_updN hus.1 hms (g:=AN.addNp (-1)) (by show AN.mk _ _ _=AN.mk _ _ _;rfl) (fun z hz e=>hus.2 z hz sd hms e),hks]
    have hm2:setNp (sd.np - 1) sd∈T2.nodes:=List.mem_map.mpr ⟨sd,hms,by simp⟩
    have hnp1:((Tj.abs.find y).map (·.np))=some sd.np:=by rw[abs_find,hfs];rfl
    have hnd2:∃nd'',nd''∈T2.nodes∧nd''.lst=nd.lst∧nd''.succ=nd.succ:=⟨if nd'.loc=sd.loc then setNp (sd.np - 1) nd' else nd',List.mem_map.mpr ⟨nd',b1,rfl⟩,by split<;>exact b2,by split<;>exact b3⟩
    have tk:(nd.succ.take (j+1)).foldl AS.dec T1.abs=(Tj.abs).dec y:=by rw[foldl_take _ _ _ _ _ hy',habj]
    have l10:∀q:SGam,q=((sf,some (1,PV.srt T2))::("successor_info",some (0,PV.raw (Value.ref sd.loc)))::("successor",some (0,y.pv))::Γj:SGam)->q.lookup sf=some (some (1,.srt T2))∧q.lookup ("n2i":Str)=some (some (0,.raw (.ref T2.n2)))∧q.lookup ("successor":Str)=some (some (0,y.pv)):=fun q e=>by
     rw[e];exact⟨by rw[List.lookup_cons];rfl,look_cons rfl (look_cons rfl (look_cons rfl a2)),look_cons rfl (look_cons rfl (by rw[List.lookup_cons];rfl))⟩
    have hie2:infoPV (setNp (sd.np - 1) sd) 1= .int (sd.np - 1):=rfl
    refine St.ite (C:=C) (b:=sd.np - 1==0) hr hA10 (EvB.cmp (m1:=false) (m2:=true) (x:=.int (sd.np - 1)) (y:=.int 0) (by
     rw[←hie2]
     exact Ev.info_ (C:=C) (md:=false) (x:=sf) (St:=T2) (nd:=setNp (sd.np - 1) sd) (i:=1) (m2:=true) T.sk (evG_look (l10 _ rfl).1) (v1 _ kse) hm2 (Ev.name (md:=true) rfl (v1 _ ksi)) (by decide)) Ev.int Cop.eq_int) fun s11 hA11=>?_
    have hdec:∀h:sd.np - 1≠0,(Tj.abs).dec y=Tj.abs.upd y (AN.addNp (-1)):=fun h=>by
     unfold AS.dec
     rw[hnp1,if_neg (fun e=>h (by have:=Option.some.inj e;omega))]
    have hdec1:sd.np - 1=0->(Tj.abs).dec y={Tj.abs.upd y (AN.addNp (-1))with rdy:=Tj.abs.rdy.map (· ++[y])}:=fun h=>by
     unfold AS.dec
     rw[hnp1,if_pos (by congr 1;omega)]
    have hjl:j<nd.succ.length:=(List.getElem?_eq_some_iff.mp hy').1
    have hgr2:Grows T1 T2:=hgrj.trans (Grows.updN _ _ (keepers_np _))
    have rj2:T2.abs.rdy=some lj:=by rw[hab2];exact rj
    obtain⟨q1,q2,q3⟩:=l10 _ rfl
    obtain⟨lj',rj',lenj'⟩:=rdy_dec (s:=y) rj
    have clj':∀s∈nd.succ,((Tj.abs.dec y).find s).isSome=true:=fun s hs=>find_dec (clj s hs)
    by_cases hz:sd.np - 1=0
    ·have:(sd.np - 1==0)=true:=by simpa using hz
     rw[this]
     simp only[if_true]
     have hr2:∃ad,T2.rdy=some (ad,lj):=by
      have h0:T2.rdy.map (·.2)=some lj:=rj2
      cases hq:T2.rdy with
      |none=>rw[hq]at h0;cases h0
      |some r=>rw[hq]at h0;exact⟨r.1,by rw[←Option.some.inj h0]⟩
     obtain⟨ad,hr2⟩:=hr2
     refine St.ready_append (C:=C) T.sk (x:=sf) (n:=0) (St:=T2) (r:=(ad,lj)) (key:=y) (m3:=true) hr hA11 q1 hr2 (Ev.name (md:=true) (evG_look q3) (v1 _ ksu)) (by show lj.length≤lim;omega) (fun s12 hA12=>?_) (hi:=hint)
     have habs3:SState.abs {T2 with rdy:=some (ad,lj++[y])}=(Tj.abs).dec y:=by
      rw[hdec1 hz,←hab2,rj]
      rfl
     refine St.nil (St.nil (hn2 _ _ ⟨{T2 with rdy:=some (ad,lj++[y])},by rw[List.lookup_cons];rfl,look_cons rfl q2,by rw[habs3,tk],hgr2.trans (Grows.rdy T2 hr2 _),hnd2,by rw[habs3];exact clj',lj',by rw[habs3];exact rj',by omega⟩ hA12))
    ·have:(sd.np - 1==0)=false:=by simpa using hz
     rw[this]
     simp only[Bool.false_eq_true,if_false]
     have habs3:T2.abs=(Tj.abs).dec y:=by rw[hdec hz,hab2]
     refine St.nil (St.nil (hn2 _ _ ⟨T2,q1,q2,by rw[habs3,tk],hgr2,hnd2,by rw[habs3];exact clj',lj',by rw[habs3];exact rj',by omega⟩ hA11))
   ·obtain⟨Tj,a1,a2,habj,hgrj,_,_,_⟩:=hj
    refine St.nil ?_
    refine St.aug_self (C:=C) T.sk (x:=sf) (n:=0) (St:=Tj) (v:=1) (m3:=true) 3 (.inr ⟨rfl,rfl⟩) hr hA8 a1 Ev.int fun s9 hA9=>?_
    refine St.nil ((hn _ _ ⟨{Tj with npass:=if(3:Nat)=2 then Tj.npass+1 else Tj.npass,nfin:=if(3:Nat)=2 then Tj.nfin else Tj.nfin+1},by rw[List.lookup_cons];rfl,look_cons rfl a2,?_,?_⟩ hA9).1)
    ·rw[foldl_take _ _ _ _ _ hk,←hab]
     unfold AS.done1
     rw[c1]
     have hl:(setNp (-2) nd).succ.length=nd.succ.length:=rfl
     rw[hl,List.take_of_length_le (Nat.le_refl _),hab1]at habj
     have hnf:∀ (js:List Key) (a:AS),(js.foldl AS.dec a).nfin=a.nfin:=fun js=>by
      induction js with
      |nil=>intro a;rfl
      |cons j r ih=>intro a;rw[List.foldl_cons,ih,nfin_dec]
     have h1:Tj.nfin=Ti.nfin:=by
      have:Tj.abs.nfin=Ti.nfin:=by rw[habj,hnf];rfl
      exact this
     show SState.abs _={nd.succ.foldl AS.dec (Ti.abs.upd k (AN.setNp (-2)))with nfin:=Ti.nfin+1}
     rw[←habj]
     unfold SState.abs
     simp[h1]
    ·exact(hgr.trans (Grows.updN _ _ (keepers_np _))).trans (hgrj.trans (Grows.cnt _ _ _))
  ·obtain⟨Ti,l1,l3,hab,hgr⟩:=hi
   refine St.nil (St.nil (hnext s' Ti Γ' ⟨rfl,hgr,?_⟩ hA' l1))
   rw[hab,hpl,List.take_of_length_le (Nat.le_refl _)]
end
section
variable{C:Cx}{A:Around}{env:Env}{Γ:Gam}{md m2:Bool}
theorem EvK.n{e:Expr}{xs:List PV}(h:EvK C env Γ e 1 (.list xs)):EvN C env Γ e true xs:=fun A S U s Q E hr hh hq=>
 h A S U s Q E hr hh fun v h' t' f ex r hnd hf=>by
  obtain⟨a,vs,n,rfl,rfl,ho,rs⟩:=r.list1
  exact hq a vs n h' t' ex (hf a (by simp)).1 (hf a (by simp)).2 ho (rs.mono (fun b hb=>⟨hb.1,by simpa using hb.2⟩) fun ω ω ω e=>e)
theorem Ev.infoV{e:Expr}{nd:SNode}{pos:Pos}{name:Str}{i:Nat}(k:SortK C.K)(he:Ev C env Γ e md (.info nd))(hn:(name,i)∈infoNames)
  (hev:∀env,eval (.Attribute e name pos) env=(do
   let o ←eval e env
   standAt pos.atName
   let r ←holding [o] (getAttr o name true)
   letTemporaryGo e o r
   pure r):=by intro _;with_unfolding_all rfl):Ev C env Γ (.Attribute e name pos) md (infoPV nd i):=fun A S U s Q E hr hh hq=>by
 refine Attribute_any_ ?_ (hev env)
 refine he A S U s _ E hr hh fun v h' t' ex rd=>?_
 obtain⟨rfl,hf,r⟩:=rd.view
 obtain⟨kv,t,hkk,I⟩:=infoInst r
 obtain⟨p,h1,h2,h3,h4,h5,h6⟩:=k.slots hn
 have X:=(hh.ext ex).base.kin
 have go:∀v,((nodeObj nd kv t).slots[i]?).join=some v->handedIn v=true->Rd C.prog C.w (Reg md S U s.heap) h' v (infoPV nd i)->wpAny (model C.prog C.w) A (getAttr (.ref nd.loc) name true) Q E {s with heap:=h',toks:=t'}:=fun v hg hv rd=>getSlot X I (classFits_get k.ni name) (classFits_cls k.ni) h1 h2 h3 h4 hg hv (hq v h' _ ex rd)
 have hi:i=0∨i=1∨i=2:=by
  simp only[infoNames,List.mem_cons,Prod.mk.injEq,List.not_mem_nil,or_false]at hn;omega
 rcases hi with rfl|rfl|rfl
 ·refine go kv rfl ?_ (Key.rd hkk)
  rcases Key.shape hkk with⟨_,_,_,rfl⟩|⟨_,_,_,rfl⟩<;>rfl
 ·exact go (.int nd.np t) rfl rfl (.int _ _)
 ·refine go (.ref nd.lst) rfl rfl ?_
  obtain⟨vs,m,g1,g2⟩:=r.list
  exact .list (hf _ (by simp[SNode.fp])) g1 g2.rd
theorem EvI.n2vals{e:Expr}{X:SState}{apos pos:Pos}{x:Str}{nx:Nat}(hx:Γ.lookup x=some (some (nx,.srt X)))(hkv:isVar (env.kindOf x)=true)(hlo:mainGlobals<X.n2)(he:Ev C env Γ e m2 (.raw (.ref X.n2)))(hsz:X.nodes.length≤lim)
  (hbase:∀env,attributeBase e "values" env (eval e env)=eval e env:=by intro _;rfl)
  (hfew:∀env,((backTo pos (starEach [] env)).all (fun x=>!x.1)&&(backToKw pos (keywordEach [] env)).all (fun x=>x.1.isSome)
   &&decide (([]:List Expr).length+([]:List Keyword).length+(if([]:List Keyword).isEmpty then 0 else 1)<30))=true:=by intro _;rfl)
  (hline:(apos.endLine==pos.line)=true:=by rfl) (htrees:∀env,backTo pos (starEach [] env)=[]:=by intro _;rfl) (hmd:md=(nx==0):=by rfl) (hN:C.hd=false:=by assumption):
  EvI C env Γ (.Call (.Attribute e "values" apos) [] [] pos) md (X.nodes.map .info):=fun A S U s Q E hr hh hq=>by
 refine wpAny_Call_method (hbase env) (hfew env) hline PySem.F.plainAttrs_dict PySem.F.slot_dict_values PySem.F.type_dict_values ?_
 refine he A S U s _ E hr hh fun v h1 t1 ex1 rd=>?_
 cases rd.raw_inv
 obtain⟨a,_,hf,hs⟩:=(hh.ext ex1).srt hx hkv
 rw[←hmd]at hf
 refine⟨hs.map.typeIs,fun b e=>?_,?_⟩
 ·cases e
  obtain⟨ob,es,ep,ho,hr,_⟩:=hs.map
  exact⟨ob,ho,hr.2.1⟩
 rw[htrees env]
 refine method_meetsIn PySem.F.slot_dict_values PySem.F.entry_dict_values rfl (PySem.evalArgs_none ⟨rfl,hs.map.typeIs,PySem.F.args_dict_values_1 _,_,meets_dict_values (mixKind C.prog C.w) X.n2 (noSys hlo),⟨_,hs.map⟩,?_⟩)
 let h2:Heap:=h1.push {cls:=.type "dict_values",data:=.fields #[.ref X.n2]}
 have k12:∀b ob,h1.get? b=some ob->h2.get? b=some ob:=fun b ob e=>Heap.get?_push_of_some _ e
 obtain⟨ob,es,ep,d1,d2,d3,d4,d5,d6⟩:=hs.map
 have hm2:h2.DictAt (mixKind C.prog C.w) X.n2 (X.nodes.map fun x=>(x.key,Value.ref x.loc)) ep:=⟨ob,es,k12 _ _ d1,d2,d3,d4,d5,d6⟩
 refine wpAny_pyIter_values (s:={s with heap:=h2,toks:=t1}) ⟨_,Heap.get?_push_size _ rfl,rfl,rfl⟩ hm2 ?_
 have hne:X.n2≠h2.objs.size:=Nat.ne_of_lt (Heap.lt_size (k12 _ _ d1))
 let h3:Heap:=h2.push {cls:=.type "dict_valueiterator",data:=.fields #[.ref X.n2,.int 0 0,.int (X.nodes.map fun x=>(x.key,Value.ref x.loc)).length 0,.int ep 0]}
 have k23:∀b ob,h2.get? b=some ob->h3.get? b=some ob:=fun b ob e=>Heap.get?_push_of_some _ e
 have ex:Ext A env s.heap h3:=(ex1.push _).push _
 have W:=Walks.dictValues (prog:=C.prog) (w:=C.w) (knd:=mixKind C.prog C.w) (hr.1 hN) h2.objs.size X.n2 hne (X.nodes.map fun x=>(x.key,Value.ref x.loc)) ep
 have hl1:(X.nodes.map fun x=>(x.key,Value.ref x.loc)).length=(X.nodes.map PV.info).length:=by simp
 rw[hl1]at W
 have hI:s.heap.get? h2.objs.size=none:=(ex1.push _).fresh_at hh.eok.ns
 refine hq h2.objs.size h3 t1 _ _ _ ex hI ((ex1.push _).high hh) W ⟨by rw[←hl1];exact⟨_,Heap.get?_push_size _ rfl,rfl,rfl⟩,hm2.at' fun o e=>k23 _ _ e⟩ ?_ ?_ ?_ ?_
 ·rintro i v ⟨key,hv⟩
  rw[List.getElem?_map]at hv
  cases hn:X.nodes[i]? with
  |none=>rw[hn]at hv;cases hv
  |some nd=>
   rw[hn]at hv;cases hv
   have hmem:=List.mem_of_getElem? hn
   refine⟨.info nd,by rw[List.getElem?_map,hn];rfl,.info (fun b hb=>⟨?_,fun e=>?_⟩) ((hs.nodes nd hmem).mono fun b hb ob e=>k23 _ _ (k12 _ _ e))⟩
   ·exact .inl (hf b (SState.mem_node hmem hb))
   ·have:=(hs.nodes nd hmem).there b hb
    obtain⟨ob',hob'⟩:=Option.isSome_iff_exists.mp this
    have:=Heap.lt_size (k12 _ _ hob')
    rw[e]at this;exact Nat.lt_irrefl _ this
 ·intro b hb
  rcases List.mem_cons.mp hb with rfl|hb
  ·exact⟨.inl rfl,by rw[Heap.get?_push_size _ rfl];rfl⟩
  ·rcases List.mem_singleton.mp hb with rfl
   exact⟨.inr (.inl (hf _ (by simp[SState.fp]))),by rw[k23 _ _ (k12 _ _ d1)];rfl⟩
 ·rw[List.length_map];unfold lim at hsz;omega
 ·rintro i h ⟨⟨o',ho',hc,_⟩,_⟩
  exact⟨o',_,ho',hc,by decide⟩
end
theorem EvB.none{C:Cx}{env:Env}{Γ:Gam}{e:Expr}{md:Bool}(h:Ev C env Γ e md .none)(hi:∀env whole,isTrue e env whole=(do let v ←whole;standAt e.pos;holding [v] (truthy v)):=by intro _ _;rfl):EvB C env Γ e false:=fun A S U s Q E hr hh hq=>by
 rw[hi]
 refine wpAny_bind (h A S U s _ E hr hh fun v h' t' ex rd=>?_)
 cases rd.none_inv
 exact wpAny_bind (wpAny_standAt (wpAny_holding (PyProof.Rows.truthy_none (hq h' t' ex))))
noncomputable def AS.prep(a:AS):AS:={a with rdy:=some ((a.nodes.filter fun x=>x.np==0).map AN.key)}
noncomputable def prepPost(T:SState)(T':SState)(pv:PV):Prop:=pv= .none∧Grows T T'∧T'.abs=T.abs.prep
noncomputable def noRing(T:SState)(T':SState)(pv:PV):Prop:=T'=T∧pv= .none
section
variable{C:Cx}
theorem prepare_ok(T:TopK C)(hN:C.hd=false)(T0:SState)(hrdy:T0.rdy=none)(hsz:T0.nodes.length≤lim)(hring:∀X:SState,X.abs=T0.abs.prep->Mth C 127 X [] (noRing X)):Mth C.up 92 T0 [] (prepPost T0):=by
 have kse:(fnames (tsS 3)).lookup sf=some .local:=by rfl
 have kc:(fnames (tsS 3)).lookup ("cycle":Str)=some .local:=by rfl
 refine Mth.of (C:=C.up) T.f92 [] rfl (by decide) (fun x hx=>?_) (fun fd v vs h1 h2 h3 h4=>?_) (fun St' pv hp=>hp.2.1) fun A env o s Q E hkd hkf hr hA hret hnext=>?_
 ·simp only[List.mem_cons,List.not_mem_nil,or_false]at hx
  subst hx;exact .inl kse
 ·obtain rfl:=List.length_eq_zero_iff.mp h4
  unfold bindArgs;rw[h1,h2];rfl
 ·have v1:∀x,(fnames (tsS 3)).lookup x=some .local->isVar (env.kindOf x)=true:=fun x hx=>by rw[hkd,hx];rfl
  have v2:∀x,(fnames (tsS 3)).lookup x=some .local->(env.kindOf x=some .local∨env.kindOf x=some .cell):=fun x hx=>.inl (by rw[hkd,hx])
  refine St.ite (b:=false) hr hA (EvB.cmp (y:=.none) (m2:=true) (Ev.self_ (C:=C.up) (i:=1) (St:=T0) (md:=false) T.sk (Ev.name rfl (v1 _ kse)) rfl) Ev.nne (by
   have e:selfPV T0 1= .none:=by show(match T0.rdy with|none=>PV.none|some r=>_)=_;rw[hrdy]
   rw[e]
   exact Cop.isnot_none (b:=true) rfl)) fun s1 hA1=>?_
  refine St.nil ?_
  have hlo:=hA1.n2_lo (x:=sf) (n:=0) (St:=T0) rfl
  let ks:List Key:=(T0.nodes.filter fun x=>x.np==0).map SNode.key
  have hpv:((T0.nodes.filter fun x=>x.np==0).map fun x=>x.key.pv)=Key.pvs ks:=by simp[Key.pvs,ks,List.map_map,Function.comp_def]
  refine St.set_ready (C:=C.up) (ks:=ks) (md:=true) T.sk (x:=sf) (n:=0) (St:=T0) hr hA1 rfl hrdy (EvK.n (by
   rw[←hpv]
   refine EvC.k (EvC.filter (C:=C.up) (dp:=0) (md:=false) (L:=T0.nodes) (g:=.info) (h:=fun x=>x.key.pv) (p:=fun x=>x.np==0) (EvI.n2vals (C:=C.up) (X:=T0) (x:=sf) rfl (v1 _ kse) hlo (Ev.self_ (C:=C.up) (i:=0) (St:=T0) (md:=false) T.sk (Ev.name rfl (v1 _ kse)) rfl) hsz) (ScopeOk.base (by rfl)) (.inl rfl) rfl (fun D cells a ha=>?_) (fun D cells a ha hp=>?_) hsz)
   ·exact EvB.cmp (m1:=false) (m2:=true) (x:=.int a.np) (y:=.int 0) (Ev.infoV (C:=C.up) (nd:=a) (i:=1) T.sk (Ev.name rfl (CE_isVar rfl)) (by decide)) Ev.int Cop.eq_int
   ·exact EvE.of_ev (Ev.imm (md:=false) (Ev.infoV (C:=C.up) (nd:=a) (i:=0) T.sk (Ev.name rfl (CE_isVar rfl)) (by decide)) (by show a.key.pv.imm=true;cases a.key<;>rfl)))) fun s2 l hA2=>?_
  have hab:SState.abs {T0 with rdy:=some (l,ks)}=T0.abs.prep:=by
   unfold SState.abs AS.prep
   simp only[Option.map_some,ks,AS.mk.injEq,true_and,and_true,Option.some.injEq,and_self]
   rw[List.filter_map,List.map_map]
   rfl
  refine St.assignX (C:=C.up) hr hA2 (EvX.meth (C:=C) (x:=sf) (n:=0) (St:={T0 with rdy:=some (l,ks)}) T.sk (MethK.of T.m127) rfl EvL.nil (hring _ hab)) (v2 _ kc) fun s3 Γ3 pv3 hP3 hA3=>?_
  obtain⟨T3,⟨rfl,rfl⟩,rfl⟩:=hP3
  refine St.ite (C:=C.up) (b:=false) hr hA3 (EvB.none (md:=true) (Ev.name rfl (v1 _ kc))) fun s4 hA4=>?_
  exact St.nil (St.nil (hnext s4 _ _ ⟨rfl,Grows.newR T0 hrdy l ks,hab⟩ hA4 rfl))
end
section
variable{C:Cx}
theorem lay_dict(R:Value->Heap->Prop){env:Env}{Γ:SGam}{s₀:Heap}{x dx:Addr}{es:List DictEntry}{n:Nat}{s sh:Shared}{A:Around}{name xs:Str}{e:Expr}{p px pos:Pos}{rest:List Stmt}{Q:Flow->Shared->Prop}{E:Value->Shared->Prop}(k:SortK C.K)(hi:name∈selfNames)
  (l:Laying C A env Γ s₀ dx (dictOf es n) s sh) (hdx:s₀.get? x=some ⟨.ref TSC,some dx,.plain,#[]⟩∧x≠dx∧¬onStack A x) (hx:Γ.lookup xs=some (some (0,.raw (.ref x)))) (hlk:(getL name es).isSome=true) (hlen:∀h key v,(putL name h key v es).length≤1000)
  (hE:∀Q:Value->Shared->Prop,(∀v h' t',Ext A env s.heap h'->R v h'->Q v {s with heap:=h',toks:=t'})->wpAny (model C.prog C.w) A (eval e env) Q E s)
  (kk:∀s' v h' t,R v h'->Laying C A env Γ s₀ dx (dictOf (putL name (PyData.keyHash C.w.params name) (.str name t) v es) (putN name es n)) s' sh->(∀a o,a≠env.locals->a≠dx->h'.get? a=some o->s'.heap.get? a=some o)->(∀a o,¬Fz A env a->a≠dx->s.heap.get? a=some o->s'.heap.get? a=some o)->wpAny (model C.prog C.w) A (execs rest env) Q E s')
  (hs:swapsWith e (some (.Attribute (.Name xs px) name p)) pos.line env=pure false:=by rfl) (hdb:(xs==("__debug__":Str))=false:=by rfl):
  wpAny (model C.prog C.w) A (execs (.Assign [.Attribute (.Name xs px) name p] e pos::rest) env) Q E s:=by
 refine wpAny_execs_cons (plainObj_wpAny_Assign_Attribute (hE _ fun v h' t' ex hR=>?_) hs)
 have l1:=l.ext (t:=t') ex
 obtain⟨hkv,u,hu,r⟩:=l1.at_.vars xs _ _ hx
 cases r.zero.1.raw_inv
 refine wpAny_Name (wpAny_loadVar (s:={s with heap:=h',toks:=t'}) l1.at_.eok hu ?_) hdb
 have hd1:=l1.keep x _ hdx.2.2 hdx.2.1 hdx.1
 obtain⟨m,hm⟩:=l1.at_.eok.ns
 have hne:findIn C.K (.ref TSC) name=some none:=k.none hi
 refine setDict (s:={s with heap:=h',toks:=t'}) (dx:=dx) (es:=es) (n:=n) (ox:=⟨.ref TSC,some dx,.plain,#[]⟩) hm l1.at_.base.kin ⟨hd1,rfl,rfl,l1.inst⟩ rfl (fun e=>l1.off.2.2 (.inl (.inl e))) (classFits_set k.ts) (classFits_over k.ts) (by unfold takerIn;rw[hne];rfl) k.tsd hlk (hlen _ _ _) fun h₁ T ho=>?_
 exact kk _ v h' _ hR (l1.turn T ho) T.1 fun a o hl hd e=>T.1 a o (fun e=>hl (.inl e)) hd (ex.keep a o hl e)
noncomputable def S0(x d n2:Addr):SState:=⟨x,d,n2,[],none,0,0⟩
end
end Ts
namespace Ts
open PySem PySem.Spec PySem.Calls PyProof.Rows PySem.W
end Ts
namespace Ts
open PySem PySem.Spec PySem.Calls PyProof.Rows PySem.W
section
variable{C:Cx}{A:Around}{E:Value->Shared->Prop}{s:Shared}
theorem getMethObj{K:Frag}{prog:Program}{w:World}{a fa:Addr}{ox:Obj}{es:List DictEntry}{n:Nat}{name:Str}{Q:Value->Shared->Prop}(X:K.In s.heap)(I:InstAt s.heap a ox TSC (some (dictOf es n)))(k:SortK K)(mk:MethK K name fa)(hl:getL name es=some none)
  (h:Q (.ref s.heap.objs.size) {s with heap:=s.heap.push (methodObj (.ref fa) (.ref a)),toks:=s.toks+1}):wpAny (model prog w) A (getAttr (.ref a) name true) Q E s:=
 get_bind X I (plainGet_of (classFits_get k.ts name)).1 (findObj_fn k.tsd mk (by rw[lookIn_dict];exact hl)) (plainGet_of (classFits_get k.ts name)).2 (wpAny_call (fn_get (s:={s with toks:=s.toks+1}) X (beq_iff_eq.mp mk.fn) (handed_on rfl h)))
set_option tactic.hygienic true in
theorem callWith_star{M:Model}{K:Frag}{q g:Addr}{self:Value}{pos:Pos}{args:List (Bool×Sem Value)}{Q:Value->Shared->Prop}(hf:fnIn K g=true)(hstar:args.any (·.1)=true)
  (h:wpAny M A (evalArgs (.ref q) true args []) (fun a s₁=>MethP K q g self s₁.heap∧wpAny M A (call (.ref q) a.pos a.kw) Q E s₁) E s):wpAny M A (callWith pos (.ref q) [] args []) Q E s:=by
 unfold callWith
 refine wpAny_bind (wpAny_holding (wpAny_mono h (fun a s₁ h₁=>wpAny_bind (wpAny_standAt ?_)) fun ω ω x=>x))
 have L:Looks M s₁.heap (keeperOf (.ref q)) .boundFrame:=by
  unfold fnIn at hf
  split at hf
  ·rename_i e
   exact(Looks.ld (part:=none) h₁.1.1).andThen ((Looks.ld (part:=none) (h₁.1.2 _ _ e)).andThen .now)
  ·cases hf
 simp only[hstar,Bool.true_or]
 refine wpAny_bind (L.here ?_)
 exact wpAny_bind (wpAny_operateT (wpAny_mono h₁.2 (fun r s₂ hr=>wpAny_bind (wpAny_holding (wpAny_point (wpAny_pure hr)))) fun ω ω x=>x))
theorem notIter_list{M:Model}{l:Addr}{vs:List Value}{n:Nat}{Q:Bool->Shared->Prop}(ho:s.heap.get? l=some (lob vs n))(h:Q false s):wpAny M A (notIterableAtAll (.ref l)) Q E s:=by
 unfold notIterableAtAll
 refine wpAny_bind (wpAny_specialOf (T:="list") ⟨_,ho,rfl⟩ PySem.F.slot_list_iter.lookup ?_)
 exact wpAny_pure h
theorem spliced_star{prog:Program}{w:World}{x:Sem Value}{rest:List (Bool×Sem Value)}{Q:List Value->Shared->Prop}
  (h:wpAny (model prog w) A x (fun v s₁=>∃l vs n,v= .ref l∧s₁.heap.get? l=some (lob vs n)∧vs.length≤2^24∧∀h',(∀b o,s₁.heap.get? b=some o->h'.get? b=some o)->wpAny (model prog w) A (spliced rest) (fun us s₂=>Q (vs++us) s₂) E {s₁ with heap:=h'}) E s):
  wpAny (model prog w) A (spliced ((true,x)::rest)) Q E s:=by
 rw[spliced]
 refine wpAny_bind (wpAny_mono h (fun v s₁ h₁=>?_) fun ω ω x=>x)
 obtain⟨l,vs,n,rfl,ho,hsz,hq⟩:=h₁
 simp only[if_true]
 refine wpAny_bind (m:=notIterableAtAll (.ref l)) (notIter_list ho ?_)
 simp only[Bool.false_eq_true,if_false]
 refine wpAny_bind (m:=collect (.ref l)) ?_
 refine wpAny_collect_seq l (.inl rfl) ho rfl rfl (fun h' hk=>?_) (by rw[List.size_toArray];exact hsz)
 refine wpAny_bind (wpAny_holding (wpAny_mono (hq h' hk) (fun us s₂ h₂=>wpAny_pure (by simpa using h₂)) fun ω ω x=>x))
end
section
variable{C:Cx}{A:Around}{env:Env}{Γ:Gam}{md:Bool}
theorem EvL.consStar{st e:Expr}{es:List Expr}{ys xs:List PV}(h1:Ev C env Γ e md (.list ys))(h2:EvL C env Γ es md xs)(hsz:ys.length≤lim)(hs:∀env,starEach (st::es) env=(true,eval e env)::starEach es env:=by intro _;rfl):
  EvL C env Γ (st::es) md (ys++xs):=fun A S U s p F E hr hh hq=>by
 rw[hs]
 refine spliced_star ?_
 simp only[if_true]
 refine wpAny_bind (h1 A S U s _ E hr hh fun v h' t' ex rd=>wpAny_bind (wpAny_standAt (wpAny_pure ?_)))
 obtain⟨l,vs,n,rfl,hl,ho,ra⟩:=rd.list_inv
 refine⟨l,vs,n,rfl,ho,by rw[ra.length];unfold lim at hsz;omega,fun h2' hk=>?_⟩
 have ex2:Ext A env h' h2':=.of_keeps hk
 refine h2 A S U {s with heap:=h2',toks:=t'} p _ E hr ((hh.ext ex).ext ex2) fun us h3 t3 ex3 rds=>?_
 exact hq (vs++us) h3 t3 ((ex.trans ex2).trans ex3) ((ra.up (ex2.trans ex3) (fun a ha=>Reg.neL hh ha) fun ω z=>z).append (rds.mono (fun a ha=>ha.imp (fun z=>z) ((ex.trans ex2).fresh hh.eok.ns)) fun ω ω ω z=>z))
end
section
variable{C:Cx}{A:Around}{env:Env}{o:Org}{Γ:SGam}{s:Shared}{E:Value->Shared->Prop}
theorem evalArgs_lone{prog:Program}{w:World}{f:Value}{x:Sem Value}{Q:Args->Shared->Prop}
  (h:wpAny (model prog w) A x (fun v s₁=>∃l vs n,v= .ref l∧s₁.heap.get? l=some (lob vs n)∧vs.length≤2^24∧∀h',(∀b o,s₁.heap.get? b=some o->h'.get? b=some o)->Q ⟨vs,[]⟩ {s₁ with heap:=h'}) E s):
  wpAny (model prog w) A (evalArgs f true [(true,x)] []) Q E s:=by
 unfold evalArgs
 refine wpAny_bind (wpAny_mono h (fun v s₁ h₁=>?_) fun ω ω x=>x)
 obtain⟨l,vs,n,rfl,ho,hsz,hq⟩:=h₁
 refine wpAny_bind (wpAny_pure ?_)
 refine wpAny_holding ?_
 refine wpAny_bind (wpAny_pure ?_)
 refine wpAny_bind ?_
 refine wpAny_bind (m:=notIterableAtAll (.ref l)) (notIter_list ho ?_)
 simp only[Bool.false_eq_true,if_false]
 refine wpAny_holding ?_
 exact wpAny_collect_seq l (.inl rfl) ho rfl rfl (fun h' hk=>wpAny_pure (by simpa using hq h' hk)) (by rw[List.size_toArray];exact hsz)
end
section
variable{C:Cx}{A:Around}{env:Env}{o:Org}{Γ:SGam}{s:Shared}{E:Value->Shared->Prop}
noncomputable def ArgsS(C:Cx)(env:Env)(Γ:Gam)(ts:List (Bool×Sem Value))(xs:List PV):Prop:=
 ∀ (A:Around) (S U:Addr->Prop) (s:Shared) (f:Value) (Q:Args->Shared->Prop) (E:Value->Shared->Prop),Room C A->Here C A S U env Γ s.heap->
  (∀vs h' t',Ext A env s.heap h'->RdAll C.prog C.w (Reg true S U s.heap) h' vs xs->Q ⟨vs,[]⟩ {s with heap:=h',toks:=t'})->wpAny (model C.prog C.w) A (evalArgs f true ts []) Q E s
theorem EvX.methS{x name:Str}{p apos pos:Pos}{args:List Expr}{n:Nat}{St:SState}{fa:Addr}{xs:List PV}{post:SState->PV->Prop}(k:SortK C.K)(mk:MethK C.K name fa)(hx:Γ.lookup x=some (some (n+1,.srt St)))(ha:ArgsS C.up env (evG Γ) (backTo pos (starEach args env)) xs)(hM:Mth C fa St xs post)
  (hbase:∀env,attributeBase (.Name x p) name env (eval (.Name x p) env)=eval (.Name x p) env:=by intro _;rfl)
  (hform:∀env,methodCallForm (args.length+([]:List Keyword).length) (backTo pos (starEach args env)) (backToKw pos (keywordEach [] env))=false:=by intro _;rfl)
  (hstar:∀env,(backTo pos (starEach args env)).any (·.1)=true:=by intro _;rfl) (hdb:(x==("__debug__":Str))=false:=by rfl):
  EvX C.up env Γ (.Call (.Attribute (.Name x p) name apos) args [] pos) (fun Γ' pv=>∃St',post St' pv∧Γ'=(x,some (n+1,.srt St'))::Γ):=fun A o s Q E hr hA hq=>by
 rw[arm_eval_Call,hbase]
 obtain⟨S,fp,hA,hst⟩:=hA
 obtain⟨a,hkv,hv,hf,hs,hfo,_⟩:=AtO.srt hA hst (.refl _ _ _) hx
 have hloc:=hs.at_
 subst hloc
 refine wpAny_bind (wpAny_Name (wpAny_loadVar hA.eok hv ?_) hdb)
 refine wpAny_bind (wpAny_standAt ?_)
 unfold methodCall
 rw[hform]
 obtain⟨ks,q1,q2,q,I⟩:=selfInst hs
 refine wpAny_bind (wpAny_holding (wpAny_bind (getMethObj hA.base.kin I k mk (getL_self mk.own) (wpAny_pure ?_))))
 refine wpAny_bind (wpAny_pure ?_)
 let h1:Heap:=s.heap.push (methodObj (.ref fa) (.ref St.loc))
 have ex1:Ext A env s.heap h1:=(Ext.refl _ _ _).push _
 have hq1:h1.get? s.heap.objs.size=some (methodObj (.ref fa) (.ref St.loc)):=Heap.get?_push_size _ rfl
 refine callWith_star (K:=C.K) (self:=.ref St.loc) mk.fnIn (hstar env) ?_
 refine ha A S _ {s with heap:=h1,toks:=s.toks+1} _ _ E hr (hA.here.ext ex1) fun vs h2 t2 ex2 rv=>?_
 have hql: ¬Fz A env s.heap.objs.size:=fun e=>by have:=Fz.there hA.here e;rw[fresh_size]at this;cases this
 have ho2:=ex2.keep _ _ hql hq1
 have ex:=ex1.trans ex2
 refine⟨⟨ho2,(hA.base.ext ex hA.fra hA.eok).kin⟩,wpAny_call (method_call (s:={s with heap:=h2,toks:=t2}) ho2 ?_)⟩
 exact mcallC (C:=C) hr hA hst ex hx hM (rv.mono (fun b hb=>hb.imp (fun z=>z) (ex1.fresh hA.eok.ns)) fun ω ω ω z=>z) fun v h₁ t St' pv S' fp' hp hg hA' hst' rd=>hq v S' fp' _ _ pv ⟨St',hp,rfl⟩ hA' hst' rd
end
section
variable{C:Cx}{A:Around}{env:Env}{Γ:Gam}
theorem ArgsS.of{args:List Expr}{pos:Pos}{xs:List PV}(h:EvL C env Γ args true xs)(hne:∃x r,backTo pos (starEach args env)=(false,x)::r:=by exact⟨_,_,rfl⟩):ArgsS C env Γ (backTo pos (starEach args env)) xs:=fun A S U s f Q E hr hh hq=>by
 obtain⟨x,r,e⟩:=hne
 rw[e]
 refine evalArgs_plain ?_
 rw[←e]
 exact h A S U s pos _ E hr hh hq
theorem ArgsS.lone{st e:Expr}{pos:Pos}{ys:List PV}(h:Ev C env Γ e true (.list ys))(hsz:ys.length≤lim)(hs:backTo pos (starEach [st] env)=[(true,do let v ←eval e env;standAt pos;pure v)]:=by rfl):ArgsS C env Γ (backTo pos (starEach [st] env)) ys:=fun A S U s f Q E hr hh hq=>by
 rw[hs]
 refine evalArgs_lone (wpAny_bind (h A S U s _ E hr hh fun v h' t' ex rd=>wpAny_bind (wpAny_standAt (wpAny_pure ?_))))
 obtain⟨l,vs,n,rfl,hl,ho,ra⟩:=rd.list_inv
 refine⟨l,vs,n,rfl,ho,by rw[ra.length];unfold lim at hsz;omega,fun h2 hk=>?_⟩
 have ex2:Ext A env h' h2:=.of_keeps hk
 exact hq vs h2 t' (ex.trans ex2) (ra.up ex2 (fun a ha=>Reg.neL hh ha) fun ω z=>z)
end
noncomputable def Cx.hot(C:Cx):Cx:={C with hd:=true}
section
variable{C:Cx}{b:Bool}
theorem OwnT.hot{S:Addr->Prop}{h:Heap}{k:Nat}{v:Value}{x:PV}{f:List Addr}(r:OwnT C S h k v x f):OwnT {C with hd:=b} S h k v x f:=(OwnT.gen b (fun ω x ω=>x) fun ω ω ω e=>e).1 k v x f r fun ω ω ω e=>e
theorem EnvOk.hot{h:Heap}{env:Env}(x:EnvOk C h env):EnvOk {C with hd:=b} h env:=⟨x.kind,x.glob,x.bltn,x.ns,x.cell,x.call,x.apart,x.notL,x.below,x.high,x.chigh⟩
theorem At.hot{A:Around}{v:Option Value}{env:Env}{S:Addr->Prop}{fp:Str->List Addr}{Γ:SGam}{h:Heap}(x:At C A env S fp Γ h):At {C with hd:=b} (A.mark v) env S fp Γ h:=
 {cx:=⟨x.cx.g⟩,base:=x.base.of rfl,eok:=x.eok.hot,fra:=(Fra.of (C':={C with hd:=b}) x.fra rfl).frames rfl,sold:=x.sold,disj:=x.disj,ndup:=x.ndup,fold:=x.fold
  vars:=fun y n pv hy=>let⟨h0,v,h1,h2⟩:=x.vars y n pv hy;⟨h0,v,h1,h2.hot⟩}
theorem Step.mark{A:Around}{v:Option Value}{env:Env}{o:Org}{S:Addr->Prop}{fp:Str->List Addr}{s:Shared}(x:Step A env o S fp s):Step (A.mark v) env o S fp s:=⟨x.same,x.grow,x.newS,x.newF,x.keep,x.live,x.fr⟩
theorem Step.unmark{A:Around}{v:Option Value}{env:Env}{o:Org}{S:Addr->Prop}{fp:Str->List Addr}{s:Shared}(x:Step (A.mark v) env o S fp s):Step A env o S fp s:=⟨x.same,x.grow,x.newS,x.newF,x.keep,x.live,x.fr⟩
theorem At.cool{A:Around}{v:Option Value}{env:Env}{S:Addr->Prop}{fp:Str->List Addr}{Γ:SGam}{h:Heap}(x:At C.hot (A.mark v) env S fp Γ h):At C A env S fp Γ h:=
 {cx:=⟨x.cx.g⟩,base:=x.base.of rfl,eok:=(x.eok.hot (b:=C.hd):EnvOk {C with hd:=C.hd} h env),fra:=(Fra.of (C':=C) x.fra rfl).frames rfl,sold:=x.sold,disj:=x.disj,ndup:=x.ndup,fold:=x.fold
  vars:=fun y n pv hy=>let⟨h0,v,h1,h2⟩:=x.vars y n pv hy;⟨h0,v,h1,(h2.hot (b:=C.hd):OwnT {C with hd:=C.hd} _ _ _ _ _ _)⟩}
theorem Room.hot{A:Around}{v:Option Value}(hr:Room C A):Room C.hot (A.mark v):=⟨fun h=>Bool.noConfusion h,hr.2.1,hr.2.2⟩
end
inductive FlewIs(prog:Program)(w:World)(A:Around)(S:Addr->Prop)(h₀:Heap)(cls:Value)(args:List PV)(e:Addr)(h':Heap):Prop
 |mk (l:List Env) (base:Heap) (t:Addr) (us:List Value) (n:Nat):A.frames=some l->Heap.FlyingW base l e cls (.ref t) h'->base.get? t=some (tob us n)->(∀a o,¬onStack A a->h₀.get? a=some o->base.get? a=some o)->
  (∀a o,onStack A a->h₀.get? a=some o->∃sl,h'.get? a=some {o with slots:=sl})->h₀.get? e=none->h₀.get? t=none->RdAll prog w (fun a=>S a∨h₀.get? a=none) base us args->FlewIs prog w A S h₀ cls args e h'
structure Flew(C:Cx)(A:Around)(S:Addr->Prop)(h₀:Heap)(cls:Value)(args:List PV)(e:Addr)(h':Heap):Prop where
 ex:FlewIs C.prog C.w A S h₀ cls args e h'
inductive ThrO(C:Cx)(A:Around)(env:Env)(o:Org)(cls:Value)(args:List PV)(e:Addr)(s':Shared):Prop
 |mk (S:Addr->Prop) (fp:Str->List Addr) (Γ:SGam) (h₁:Heap) (us:List Value):At C A env S fp Γ h₁->Step A env o S fp {s' with heap:=h₁}->RdAll C.prog C.w S h₁ us args->Heap.MadeExcOf h₁ s'.heap e cls us->ThrO C A env o cls args e s'
section
variable{C:Cx}
theorem gone_stays(h:Heap)(l:List Addr):(TI.gone h l).StaysIn h:=fun b o e=>(TI.gone_some e).2
end
end Ts
namespace Ts
open PySem PySem.Spec PySem.Calls PyProof.Rows PySem.W
end Ts
namespace Ts
open PySem PySem.Spec PySem.Calls PyProof.Rows PySem.W
inductive ThrC(C:Cx)(A:Around)(env:Env)(o:Org)(Γ:SGam)(cls:Value)(args:List PV)(e:Addr)(s':Shared):Prop
 |mk (S:Addr->Prop) (fp:Str->List Addr) (h₁:Heap):At C A env S fp Γ h₁->Step A env o S fp {s' with heap:=h₁}->Flew C A (fun ω=>False) h₁ cls args e s'.heap->ThrC C A env o Γ cls args e s'
section
variable{C:Cx}{env:Env}{A:Around}{o:Org}{Γ:SGam}{s:Shared}{Q:Flow->Shared->Prop}{E:Value->Shared->Prop}{rest:List Stmt}{S:Addr->Prop}{fp:Str->List Addr}
theorem Step.ext'{h':Heap}{t:Nat}{s₁:Shared}{h₁:Heap}(hst:Step A env o S fp {s₁ with heap:=h₁})(hn:∃m,h₁.Ns env.locals m)(ex:Ext A env h₁ h')(N:Addr->Prop)(hN:∀a,N a->h₁.get? a=none):Step A env o (fun a=>S a∨N a) fp {s₁ with heap:=h',toks:=t}:=
 hst.trans ⟨⟨h',t,rfl⟩,fun a ha=>.inl ha,fun a ha=>ha.imp id fun h=>.inr (hN a h),fun y a ha=>.inl ⟨y,ha⟩,fun a b hF ω ho=>ex.keep a b (fun e=>hF (.inl e)) ho,fun a ha=>ex.live hn ha,ex.fr⟩
end
end Ts
namespace Ts
open PySem PySem.Spec PySem.Calls PyProof.Rows PySem.W
end Ts
namespace Ts
open PySem PySem.Spec PySem.Calls PyProof.Rows PySem.W
inductive AFlow where
 |next|brk|cont|ret (pv:PV)|retN (xs:List PV)
inductive RetG(C:Cx)(A:Around)(env:Env)(o:Org)(Γ:SGam)(pv:PV)(v:Value)(s:Shared):Prop
 |mk (S:Addr->Prop) (fp:Str->List Addr):At C A env S fp Γ s.heap->Step A env o S fp s->Rd C.prog C.w S s.heap v pv->RetG C A env o Γ pv v s
inductive RetN(C:Cx)(A:Around)(env:Env)(o:Org)(Γ:SGam)(xs:List PV)(v:Value)(s:Shared):Prop
 |mk (S:Addr->Prop) (fp:Str->List Addr) (a:Addr) (vs:List Value) (n:Nat):At C A env S fp Γ s.heap->Step A env o S fp s->v= .ref a->o.s.heap.get? a=none->mainGlobals<a->s.heap.get? a=some (lob vs n)->RdAll C.prog C.w (fun ω=>False) s.heap vs xs->RetN C A env o Γ xs v s
theorem RetG.trans{C:Cx}{A:Around}{env:Env}{o:Org}{Γ:SGam}{S:Addr->Prop}{fp:Str->List Addr}{s s':Shared}{pv:PV}{v:Value}(x:RetG C A env ⟨S,fp,s⟩ Γ pv v s')(hst:Step A env o S fp s):RetG C A env o Γ pv v s':=
 x.casesOn fun S' fp' h1 h2 h3=>⟨S',fp',h1,hst.trans h2,h3⟩
theorem RetN.trans{C:Cx}{A:Around}{env:Env}{o:Org}{Γ:SGam}{S:Addr->Prop}{fp:Str->List Addr}{s s':Shared}{xs:List PV}{v:Value}(x:RetN C A env ⟨S,fp,s⟩ Γ xs v s')(hst:Step A env o S fp s):RetN C A env o Γ xs v s':=by
 obtain⟨S',fp',a,vs,n,h1,h2,h3,h4,h5,h6,h7⟩:=x
 exact⟨S',fp',a,vs,n,h1,hst.trans h2,h3,hst.fresh h4,h5,h6,h7⟩
structure Ends(C:Cx)(A:Around)(env:Env)(o:Org)(P:AFlow->SGam->Prop)(Q:Flow->Shared->Prop):Prop where
 next:∀s' Γ',P .next Γ'->AtO C A env o Γ' s'->Q .next s'
 brk:∀s' Γ',P .brk Γ'->AtO C A env o Γ' s'->Q .brk s'
 cont:∀s' Γ',P .cont Γ'->AtO C A env o Γ' s'->Q .cont s'
 ret:∀v s' pv Γ',P (.ret pv) Γ'->RetG C A env o Γ' pv v s'->Q (.ret v) s'
 retN:∀v s' xs Γ',P (.retN xs) Γ'->RetN C A env o Γ' xs v s'->Q (.ret v) s'
noncomputable def Blk(C:Cx)(env:Env)(Γ:SGam)(ss:List Stmt)(P:AFlow->SGam->Prop):Prop:=
 ∀ (A:Around) (o:Org) (s:Shared) (Q:Flow->Shared->Prop) (E:Value->Shared->Prop),Room C A->TopF A env->AtO C A env o Γ s->Ends C A env o P Q->wpAny (model C.prog C.w) A (execs ss env) Q E s
noncomputable def aft(C:Cx)(env:Env)(rest:List Stmt)(P:AFlow->SGam->Prop):AFlow->SGam->Prop
 | .next,Γ=>Blk C env Γ rest P
 |f,Γ=>P f Γ
section
variable{C:Cx}{env:Env}{Γ:SGam}{ss rest:List Stmt}{P:AFlow->SGam->Prop}
theorem Ends.aft{A:Around}{o:Org}{Q:Flow->Shared->Prop}{E:Value->Shared->Prop}(hr:Room C A)(ht:TopF A env)(h:Ends C A env o P Q):Ends C A env o (aft C env rest P) (Aft C A env rest Q E)where
 next:=fun s' Γ' hB hA=>hB A o s' Q E hr ht hA h
 brk:=fun s' Γ' hp hA=>h.brk s' Γ' hp hA
 cont:=fun s' Γ' hp hA=>h.cont s' Γ' hp hA
 ret:=fun v s' pv Γ' hp hR=>h.ret v s' pv Γ' hp hR
 retN:=fun v s' xs Γ' hp hR=>h.retN v s' xs Γ' hp hR
theorem Blk.weak{Γ':SGam}(h:Blk C env Γ' ss P)(hs:Sle Γ' Γ):Blk C env Γ ss P:=fun A o s Q E hr ht hA he=>h A o s Q E hr ht (hA.weak hs) he
theorem Blk.freeze{x:Str}{n:Nat}{pv:PV}(hx:Γ.lookup x=some (some (n,pv)))(h:Blk C env ((x,some (0,pv))::Γ) ss P):Blk C env Γ ss P:=fun A o s Q E hr ht hA he=>h A o s Q E hr ht (hA.freeze hx) he
theorem Blk.nil(h:P .next Γ):Blk C env Γ [] P:=fun A o s Q E hr ht hA he=>St.nil (he.next s Γ h hA)
theorem Blk.brk{pos:Pos}(h:P .brk Γ):Blk C env Γ (.Break pos::rest) P:=fun A o s Q E hr ht hA he=>St.brk (he.brk s Γ h hA)
theorem Blk.assign{x:Str}{px pos:Pos}{e:Expr}{n:Nat}{pv:PV}(hE:EvK C env (evG Γ) e n pv)(hk:env.kindOf x=some .local∨env.kindOf x=some .cell)
  (k:Blk C env ((x,some (n,pv))::Γ) rest P) (hcd:x≠"__classdict__":=by decide) (hs:swapsWith e (some (.Name x px)) pos.line env=pure false:=by rfl):
  Blk C env Γ (.Assign [.Name x px] e pos::rest) P:=fun A o s Q E hr ht hA he=>St.assign hr hA hE hk (fun s' hA'=>k A o s' Q E hr ht hA' he) hcd hs
theorem Blk.assign_lc{x:Str}{px pos:Pos}{e:Expr}{dp:Nat}{out:List PV}(hE:EvC C env (evG Γ) e dp out)(hk:env.kindOf x=some .local∨env.kindOf x=some .cell)
  (k:Blk C env ((x,some (dp+1,.list out))::Γ) rest P) (hcd:x≠"__classdict__":=by decide):
  Blk C env Γ (.Assign [.Name x px] e pos::rest) P:=fun A o s Q E hr ht hA he=>St.assign_lc hr hA hE hk (fun s' hA'=>k A o s' Q E hr ht hA' he) hcd
theorem Blk.assignX{y:Str}{py pos:Pos}{e:Expr}{R:SGam->PV->Prop}(hE:EvX C env Γ e R)(hk:env.kindOf y=some .local∨env.kindOf y=some .cell)
  (k:∀Γ' pv,R Γ' pv->Blk C env ((y,some (0,pv))::Γ') rest P) (hcd:y≠"__classdict__":=by decide) (hs:swapsWith e (some (.Name y py)) pos.line env=pure false:=by rfl):
  Blk C env Γ (.Assign [.Name y py] e pos::rest) P:=fun A o s Q E hr ht hA he=>St.assignX hr hA hE hk (fun s' Γ' pv hp hA'=>k Γ' pv hp A o s' Q E hr ht hA' he) hcd hs
theorem Blk.exprX{pos:Pos}{e:Expr}{R:SGam->PV->Prop}(hE:EvX C env Γ e R)(k:∀Γ' pv,R Γ' pv->Blk C env Γ' rest P)(hi:interactive env=false)(hs:swapsWith e none pos.line env=pure false:=by rfl):
  Blk C env Γ (.Expr e pos::rest) P:=fun A o s Q E hr ht hA he=>St.exprX hr hA hE (fun s' Γ' pv hp hA'=>k Γ' pv hp A o s' Q E hr ht hA' he) hi hs
theorem Blk.ite{test:Expr}{body orelse:List Stmt}{pos:Pos}{b:Bool}(hB:EvB C env (evG Γ) test b)(k:Blk C env Γ (if b then body else orelse) (aft C env rest P)):
  Blk C env Γ (.If test body orelse pos::rest) P:=fun A o s Q E hr ht hA he=>St.ite hr hA hB fun s' hA'=>k A o s' _ _ hr ht hA' (he.aft hr ht)
theorem Blk.ret{e:Expr}{pos:Pos}{pv:PV}(hE:Ev C env (evG Γ) e true pv)(k:P (.ret pv) Γ):Blk C env Γ (.Return (some e) pos::rest) P:=fun A o s Q E hr ht hA he=>by
 refine wpAny_execs_cons (wpAny_Return_some ?_)
 obtain⟨S,fp,hA,hst⟩:=hA
 refine hE A S _ s _ E hr hA.here fun v h' t' ex rd=>?_
 obtain⟨S',h1,h2,h3,h4⟩:=hA.grow hst ex t'
 exact he.ret v _ pv Γ k ⟨S',fp,h1,h2,Rd.grow rd h3 h4⟩
theorem Blk.setitem{e oe i:Expr}{p pos:Pos}{x:Str}{n₀:Nat}{ys:List PV}{upd:PV->PV}{y:PV}{j:Int}(hE:Ev C env (evG Γ) e true y)(hF:EvF C env Γ oe x n₀ (.list ys) upd)(hi:Ev C env (evG Γ) i true (.int j))
  (h0:0≤j) (hj:j<ys.length) (hsz:ys.length≤lim) (k:Blk C env ((x,some (n₀,upd (.list (ys.set j.toNat y))))::Γ) rest P)
  (hs:swapsWith e (some (.Subscript oe i p)) pos.line env=pure false:=by rfl):
  Blk C env Γ (.Assign [.Subscript oe i p] e pos::rest) P:=fun A o s Q E hr ht hA he=>St.setitem hr hA hE hF hi h0 hj hsz (fun s' hA'=>k A o s' Q E hr ht hA' he) hs
theorem Blk.additem{e oe i:Expr}{p pos:Pos}{x:Str}{n₀:Nat}{ys:List PV}{upd:PV->PV}{y z:Int}{j:Int}(hF:EvF C env Γ oe x n₀ (.list ys) upd)(hi:Ev C env (evG Γ) i true (.int j))(hE:Ev C env (evG Γ) e true (.int y))
  (h0:0≤j) (hz:ys[j.toNat]?=some (.int z)) (hsz:ys.length≤lim) (k:Blk C env ((x,some (n₀,upd (.list (ys.set j.toNat (.int (z+y))))))::Γ) rest P)
  (ha:∀ov iv new,augStore i ov iv new=(do holding [new,ov,iv] (setItem ov iv new);release [new,ov,iv] [];pure .next):=by intro _ _ _;rfl):
  Blk C env Γ (.AugAssign (.Subscript oe i p) .Add e pos::rest) P:=fun A o s Q E hr ht hA he=>St.additem hr hA hF hi hE h0 hz hsz (fun s' hA'=>k A o s' Q E hr ht hA' he) ha
theorem Blk.append{e arg:Expr}{apos pos spos:Pos}{x:Str}{n₀:Nat}{ys:List PV}{upd:PV->PV}{y:PV}(hF:EvF C env Γ e x n₀ (.list ys) upd)(hE:Ev C env (evG Γ) arg true y)(hsz:ys.length≤lim)(hi:interactive env=false)
  (k:Blk C env ((x,some (n₀,upd (.list (ys++[y]))))::Γ) rest P)
  (hbase:attributeBase e "append" env (eval e env)=eval e env:=by rfl)
  (hfew:((backTo pos (starEach [arg] env)).all (fun x=>!x.1)&&(backToKw pos (keywordEach [] env)).all (fun x=>x.1.isSome)
   &&decide (([arg]:List Expr).length+([]:List Keyword).length+(if([]:List Keyword).isEmpty then 0 else 1)<30))=true:=by rfl)
  (hline:(apos.endLine==pos.line)=true:=by rfl) (htrees:backTo pos (starEach [arg] env)=[(false,eval arg env)]:=by rfl)
  (hs:swapsWith (.Call (.Attribute e "append" apos) [arg] [] pos) none spos.line env=pure false:=by rfl):
  Blk C env Γ (.Expr (.Call (.Attribute e "append" apos) [arg] [] pos) spos::rest) P:=fun A o s Q E hr ht hA he=>St.append hr hA hF hE hsz (fun s' hA'=>k A o s' Q E hr ht hA' he) hbase hfew hline htrees hi hs
theorem Blk.extend{e arg:Expr}{apos pos spos:Pos}{x:Str}{n₀:Nat}{ys zs:List PV}{upd:PV->PV}(hF:EvF C env Γ e x n₀ (.list ys) upd)(hE:Ev C env (evG Γ) arg true (.list zs))(hsz:ys.length+zs.length≤lim)(hi:interactive env=false)
  (k:Blk C env ((x,some (n₀,upd (.list (ys++zs))))::Γ) rest P)
  (hbase:attributeBase e "extend" env (eval e env)=eval e env:=by rfl)
  (hfew:((backTo pos (starEach [arg] env)).all (fun x=>!x.1)&&(backToKw pos (keywordEach [] env)).all (fun x=>x.1.isSome)
   &&decide (([arg]:List Expr).length+([]:List Keyword).length+(if([]:List Keyword).isEmpty then 0 else 1)<30))=true:=by rfl)
  (hline:(apos.endLine==pos.line)=true:=by rfl) (htrees:backTo pos (starEach [arg] env)=[(false,eval arg env)]:=by rfl)
  (hs:swapsWith (.Call (.Attribute e "extend" apos) [arg] [] pos) none spos.line env=pure false:=by rfl):
  Blk C env Γ (.Expr (.Call (.Attribute e "extend" apos) [arg] [] pos) spos::rest) P:=fun A o s Q E hr ht hA he=>St.extend hr hA hF hE hsz (fun s' hA'=>k A o s' Q E hr ht hA' he) hbase hfew hline htrees hi hs
theorem Blk.dset{e i:Expr}{p px pos:Pos}{x:Str}{m:Nat}{kvs:List (Key×PV)}{k:Key}{y:PV}(hx:Γ.lookup x=some (some (m+1,.dict kvs)))(hE:EvK C env (evG Γ) e m y)(hi:Ev C env (evG Γ) i true k.pv)
  (hnew:∀kv∈kvs,kv.1≠k) (hsz:kvs.length≤lim) (kk:Blk C env ((x,some (m+1,.dict (kvs++[(k,y)])))::Γ) rest P)
  (hs:swapsWith e (some (.Subscript (.Name x px) i p)) pos.line env=pure false:=by rfl) (hd:(x==("__debug__":Str))=false:=by rfl):
  Blk C env Γ (.Assign [.Subscript (.Name x px) i p] e pos::rest) P:=fun A o s Q E hr ht hA he=>St.dset hr hA hx hE hi hnew hsz (fun s' hA'=>kk A o s' Q E hr ht hA' he) hs hd
theorem Blk.retN{e:Expr}{pos:Pos}{md:Bool}{xs:List PV}(hE:EvN C env (evG Γ) e md xs)(hi:∀x∈xs,x.imm=true)(k:P (.retN xs) Γ):Blk C env Γ (.Return (some e) pos::rest) P:=fun A o s Q E hr ht hA he=>by
 refine wpAny_execs_cons (wpAny_Return_some ?_)
 obtain⟨S,fp,hA,hst⟩:=hA
 refine hE A S _ s _ E hr hA.here fun a vs n h' t' ex ha hlo hoa ra=>?_
 obtain⟨S',h1,h2,h3,h4⟩:=hA.grow hst ex t'
 exact he.retN _ _ xs Γ k ⟨S',fp,a,vs,n,h1,h2,rfl,(by
  cases hq:o.s.heap.get? a with
  |none=>rfl
  |some b=>have:=hst.live a (by rw[hq];rfl);rw[ha]at this;cases this),hlo,hoa,RdAll.imm hi ra⟩
noncomputable def turnP(C:Cx)(env:Env)(rest:List Stmt)(P:AFlow->SGam->Prop)(I:SGam->Prop):AFlow->SGam->Prop
 | .next,Γ=>I Γ
 | .cont,Γ=>I Γ
 | .brk,Γ=>Blk C env Γ rest P
 | .ret pv,Γ=>P (.ret pv) Γ
 | .retN xs,Γ=>P (.retN xs) Γ
theorem Blk.forP{target it:Expr}{body:List Stmt}{pos:Pos}{xs:List PV}(hI:EvI C env (evG Γ) it true xs)(inv:Nat->SGam->Prop)(tg:Nat->PV->SGam->SGam)(h0:inv 0 Γ)
  (htg:∀ (i:Nat) (x:PV) Γi,xs[i]?=some x->inv i Γi->AsgO C env Γi target x (tg i x Γi))
  (step:∀ (i:Nat) (x:PV) Γi,xs[i]?=some x->inv i Γi->Blk C env (tg i x Γi) body (turnP C env rest P (inv (i+1))))
  (k:∀Γ',inv xs.length Γ'->Blk C env Γ' rest P)
  (hs:∀x,foldedSetIterable it env x=pure x:=by intro _;rfl):
  Blk C env Γ (.For target it body [] pos::rest) P:=fun A o s Q E hr ht hA he=>by
 refine Ts.St.forP (hs:=hs) hr hA hI inv tg h0 htg (fun i x Γi hx hi o' s' Q' E' ω htr hA' hn hb hv=>?_) fun s' Γ' hi hA'=>Ts.St.nil (k _ hi A o _ Q E hr ht hA' he)
 have h0:Step A env o o'.S o'.fp o'.s:=htr _ _ _ (Step.refl A env o'.S o'.fp o'.s)
 exact step i x Γi hx hi A o' s' Q' E' hr ht hA' ⟨fun s'' Γ' hp hA''=>(hn Γ' s'' hp hA'').1,fun s'' Γ' hp hA''=>hb s'' (hp A o s'' Q E hr ht (AtO.trans (o':=o') (S:=o'.S) (fp:=o'.fp) (s:=o'.s) hA'' h0) he),fun s'' Γ' hp hA''=>(hn Γ' s'' hp hA'').2,
  fun v s'' pv Γ' hp hR=>hv v s'' (he.ret v s'' pv Γ' hp (RetG.trans (S:=o'.S) (fp:=o'.fp) (s:=o'.s) hR h0)),fun v s'' pv Γ' hp hR=>hv v s'' (he.retN v s'' pv Γ' hp (RetN.trans (S:=o'.S) (fp:=o'.fp) (s:=o'.s) hR h0))⟩
theorem Blk.forT{α:Type}{target it:Expr}{body:List Stmt}{pos:Pos}{L:List α}{g:α->PV}(hI:EvI C env (evG Γ) it true (L.map g))(inv:Nat->SGam->Prop)(tg:α->SGam->SGam)(h0:inv 0 Γ)
  (htg:∀ (a:α) Γi,a∈L->AsgO C env Γi target (g a) (tg a Γi))
  (step:∀ (i:Nat) (a:α) Γi,L[i]?=some a->inv i Γi->Blk C env (tg a Γi) body (turnP C env rest P (inv (i+1))))
  (k:∀Γ',inv L.length Γ'->Blk C env Γ' rest P)
  (hs:∀x,foldedSetIterable it env x=pure x:=by intro _;rfl):
  Blk C env Γ (.For target it body [] pos::rest) P:=by
 classical
 have get:∀ {i:Nat} {x:PV},(L.map g)[i]?=some x->∃a,L[i]?=some a∧g a=x:=fun{i x} hx=>by
  rw[List.getElem?_map]at hx
  cases h:L[i]? with
  |none=>rw[h]at hx;cases hx
  |some a=>rw[h]at hx;exact⟨a,rfl,Option.some.inj hx⟩
 refine Blk.forP hI inv (fun i x Γi=>match L[i]? with|some a=>tg a Γi|none=>Γi) h0 (fun i x Γi hx ω=>?_) (fun i x Γi hx hi=>?_) (fun Γ' hi=>k Γ' (by simpa using hi)) hs
 ·obtain⟨a,ha,rfl⟩:=get hx
  rw[ha];exact htg a Γi (List.mem_of_getElem? ha)
 ·obtain⟨a,ha,rfl⟩:=get hx
  rw[ha];exact step i a Γi ha hi
theorem Sle.nil{Γ:SGam}:Sle [] Γ:=fun y e h=>by simp at h
theorem Sle.cons{Γ L:SGam}{x:Str}{e:Option (Nat×PV)}(h:Γ.lookup x=some e)(hs:Sle L Γ):Sle ((x,e)::L) Γ:=fun y e' hy=>by
 rw[List.lookup_cons]at hy
 cases hb:y==x with
 |true=>
  rw[hb]at hy
  have:y=x:=by simpa using hb
  subst this
  rw[h,Option.some.inj hy]
 |false=>rw[hb]at hy;exact hs y e' hy
theorem Sle.refl(Γ:SGam):Sle Γ Γ:=fun ω ω h=>h
theorem Sle.trans{a b c:SGam}(x:Sle a b)(y:Sle b c):Sle a c:=fun z e h=>y z e (x z e h)
theorem Sle.look{Γ Γ':SGam}(h:Sle Γ Γ'){x:Str}{e:Nat×PV}(hx:Γ.lookup x=some (some e)):Γ'.lookup x=some (some e):=h x e hx
theorem sle_cons_mono(x:Str)(e:Option (Nat×PV)){Γ1 Γ2:SGam}(h:Sle Γ1 Γ2):Sle ((x,e)::Γ1) ((x,e)::Γ2):=fun y e' hy=>by
 rw[List.lookup_cons]at hy⊢
 cases hb:y==x with
 |true=>rw[hb]at hy;simpa using hy
 |false=>rw[hb]at hy;exact h y e' hy
end
structure KOk(env:Env)(names:List (Str×NameKind)):Prop where
 var:∀x,isVar (names.lookup x)=true->isVar (env.kindOf x)=true
 loc:∀x,(names.lookup x=some .local∨names.lookup x=some .cell)->(env.kindOf x=some .local∨env.kindOf x=some .cell)
 glb:∀x,names.lookup x=some .globalImplicit->env.kindOf x=some .globalImplicit
 lcl:∀x,names.lookup x=some .local->env.kindOf x=some .local
 cf:∀x,(names.lookup x=some .cell∨names.lookup x=some .free)->(env.kindOf x=some .cell∨env.kindOf x=some .free)
theorem KOk.of{env:Env}{names:List (Str×NameKind)}(h:∀x,env.kindOf x=names.lookup x):KOk env names:=
 ⟨fun x hx=>by rw[h x];exact hx,fun x hx=>by rw[h x];exact hx,fun x hx=>by rw[h x];exact hx,fun x hx=>by rw[h x];exact hx,fun x hx=>by rw[h x];exact hx⟩
theorem KOk.ce{scope:Scope}{env:Env}{L:Addr}{cells:List (Str×Addr)}:KOk (CE scope env L cells) scope.names where
 var:=fun x hx=>CE_isVar hx
 loc:=fun x hx=>CE_local hx
 glb:=fun x hx=>CE_glob hx
 lcl:=fun x hx=>by rw[CE_kindOf,hx];rfl
 cf:=fun x hx=>by
  rw[CE_kindOf]
  rcases hx with h|h
  ·rw[h];exact .inl rfl
  ·rw[h]
   show some (if(_:Bool)=true then NameKind.cell else NameKind.free)=_∨some (if(_:Bool)=true then NameKind.cell else NameKind.free)=_
   split
   ·exact .inl rfl
   ·exact .inr rfl
noncomputable def scopeFitsN(names:List (Str×NameKind))(inner:Scope):Bool:=
 inner.kind== .function&&decide (inner.names.map (·.1)).Nodup&&inner.names.all (fun x=>x.1 !=("__classdict__":Str))&&
 inner.names.all (fun x=>x.2 != .free||(names.lookup x.1==some .cell||names.lookup x.1==some .free))
theorem ScopeOk.ofK{names:List (Str×NameKind)}{scope:Scope}{env:Env}(K:KOk env names)(h:scopeFitsN names scope=true):ScopeOk scope env:=by
 refine ScopeOk.of (outer:={scope with names:=names}) (scope:=scope) ?_ fun x hx=>K.cf x hx
 exact h
section
variable{C:Cx}{A:Around}{env:Env}{S:Addr->Prop}{fp:Str->List Addr}{Γ Γ₁:SGam}{h:Heap}{o:Org}{s:Shared}
theorem OwnT.sorter_inv{n:Nat}{v:Value}{a:AS}{f:List Addr}(r:OwnT C S h (n+1) v (.sorter a) f):∃St,St.abs=a∧OwnT C S h (n+1) v (.srt St) f:=by
 obtain⟨a,St,rfl,rfl,hs,e⟩:=r.view
 exact⟨St,e,.srt hs⟩
theorem OwnT.srt_abs{n:Nat}{v:Value}{St:SState}{f:List Addr}(r:OwnT C S h (n+1) v (.srt St) f):OwnT C S h (n+1) v (.sorter St.abs) f:=by
 obtain⟨a,rfl,rfl,hs⟩:=r.view
 exact .sorter hs rfl
theorem look_ne{Γ:SGam}{x y:Str}{e:Option (Nat×PV)}(h:y≠x):(((x,e)::Γ:SGam)).lookup y=Γ.lookup y:=by
 rw[List.lookup_cons]
 have:(y==x)=false:=by simpa using h
 rw[this]
theorem look_eq{Γ:SGam}{x:Str}{e:Option (Nat×PV)}:(((x,e)::Γ:SGam)).lookup x=some e:=by
 rw[List.lookup_cons];simp
theorem At.toSrt(hA:At C A env S fp Γ h){x:Str}{n:Nat}{a:AS}(hx:Γ.lookup x=some (some (n+1,.sorter a))):∃St,St.abs=a∧At C A env S fp ((x,some (n+1,.srt St))::Γ) h:=by
 obtain⟨h0,v,h1,h2⟩:=hA.vars x _ _ hx
 obtain⟨St,e,h3⟩:=h2.sorter_inv
 refine⟨St,e,{hA with vars:=fun y k pv hy=>?_}⟩
 by_cases hyx:y=x
 ·subst hyx
  rw[look_eq]at hy;cases hy
  exact⟨h0,v,h1,h3⟩
 ·rw[look_ne hyx]at hy;exact hA.vars y k pv hy
theorem At.toSorter{x:Str}{n:Nat}{St:SState}(hA:At C A env S fp ((x,some (n+1,.srt St))::Γ₁) h)(hg:∀y,y≠x->∀e,Γ.lookup y=some (some e)->Γ₁.lookup y=some (some e)):At C A env S fp ((x,some (n+1,.sorter St.abs))::Γ) h:=by
 refine{hA with vars:=fun y k pv hy=>?_}
 by_cases hyx:y=x
 ·subst hyx
  rw[look_eq]at hy;cases hy
  obtain⟨h0,v,h1,h2⟩:=hA.vars y _ _ look_eq
  exact⟨h0,v,h1,h2.srt_abs⟩
 ·rw[look_ne hyx]at hy
  exact hA.vars y k pv (by rw[look_ne hyx];exact hg y hyx _ hy)
noncomputable def FnM(C:Cx)(fa:Addr)(a:AS)(xs:List PV)(pv:PV)(a':AS):Prop:=∀St:SState,St.abs=a->Mth C fa St xs fun St' q=>q=pv∧St'.abs=a'∧Grows St St'
theorem Mth.mono{fa:Addr}{St:SState}{xs:List PV}{post post':SState->PV->Prop}(h:Mth C fa St xs post)(hp:∀St' q,post St' q->post' St' q):Mth C fa St xs post':=fun A S s vs R h1 h2 h3 h4 h5 h6 h7 h8 h9=>
 h A S s vs R h1 h2 h3 h4 h5 h6 h7 h8 fun v h' t' St' pv p=>h9 v h' t' St' pv (hp _ _ p)
noncomputable def Cx.l(C:Cx)(n:Nat):Cx:={C with lev:=n}
theorem Room.le{A:Around}{n:Nat}(hr:Room C A)(h:n≤C.lev):Room (C.l n) A:=⟨hr.1,by have:=hr.2.1;show A.depth+40+4*n<_;omega,by have:=hr.2.2;show A.units+400+40*n<_;omega⟩
theorem Fra.l{n:Nat}(x:Fra C A h):Fra (C.l n) A h:=x.of rfl
theorem Mth.up{n:Nat}{fa:Addr}{St:SState}{xs:List PV}{post:SState->PV->Prop}(h:Mth (C.l n) fa St xs post)(hn:n≤C.lev):Mth C fa St xs post:=fun A S s vs R h1 h2 h3 h4 h5 h6 h7 h8 h9=>
 h A S s vs R (Room.le (C:=C.up) (n:=n+1) h1 (by show n+1≤C.lev+1;omega)) ⟨h2.g⟩ ⟨h3.kin,h3.nolimit,h3.bns,h3.nodigits⟩ h4.l h5 h6 h7 h8 h9
theorem FnM.up{n:Nat}{fa:Addr}{a a':AS}{xs:List PV}{pv:PV}(h:FnM (C.l n) fa a xs pv a')(hn:n≤C.lev):FnM C fa a xs pv a':=fun St e=>(h St e).up hn
theorem Fn.up{n:Nat}{fa:Addr}{xs:List PV}{pv:PV}(h:Fn (C.l n) fa xs pv)(hn:n≤C.lev):Fn C fa xs pv:=fun A S s vs R h1 h2 h3 h4 h5 h6 h7=>
 h A S s vs R (Room.le (C:=C.up) (n:=n+1) h1 (by show n+1≤C.lev+1;omega)) ⟨h2.g⟩ ⟨h3.kin,h3.nolimit,h3.bns,h3.nodigits⟩ h4.l h5 h6 h7
theorem Cx.down(C:Cx){n:Nat}(hn:n+1≤C.lev):(C.l (C.lev - 1)).up=C:=by
 cases C
 unfold Cx.up Cx.l
 simp only[Cx.mk.injEq,true_and,and_true]
 simp only at hn
 omega
end
section
variable{C:Cx}{env:Env}{Γ:SGam}
theorem EvX.methA0{x name:Str}{p apos pos:Pos}{args:List Expr}{n:Nat}{a a':AS}{fa:Addr}{xs:List PV}{pv:PV}(k:SortK C.K)(mk:MethK C.K name fa)(hx:Γ.lookup x=some (some (n+1,.sorter a)))(ha:EvL C.up env (evG Γ) args true xs)(hM:FnM C fa a xs pv a')
  (hbase:∀env,attributeBase (.Name x p) name env (eval (.Name x p) env)=eval (.Name x p) env:=by intro _;rfl)
  (hform:∀env,methodCallForm (args.length+([]:List Keyword).length) (backTo pos (starEach args env)) (backToKw pos (keywordEach [] env))=true:=by intro _;rfl)
  (hline:(apos.endLine==pos.line)=true:=by rfl) (hne:∀env,backTo pos (starEach args env)=[]∨∃x r,backTo pos (starEach args env)=(false,x)::r:=by intro _;first|exact .inr ⟨_,_,rfl⟩|exact .inl rfl)
  (hplain:∀env,(backTo pos (starEach args env)).any (·.1)=false:=by intro _;rfl) (hdb:(x==("__debug__":Str))=false:=by rfl):
  EvX C.up env Γ (.Call (.Attribute (.Name x p) name apos) args [] pos) (fun Γ' q=>q=pv∧Γ'=(x,some (n+1,.sorter a'))::Γ):=fun A o s Q E hr hA hq=>by
 rw[arm_eval_Call,hbase]
 obtain⟨S,fp,hA0,hst⟩:=hA
 obtain⟨St,eSt,hA⟩:=hA0.toSrt hx
 obtain⟨a0,hkv,hv,hf,hs,hfo,_⟩:=AtO.srt hA hst (.refl _ _ _) look_eq
 have hloc:=hs.at_
 subst hloc
 refine wpAny_bind (wpAny_Name (wpAny_loadVar hA.eok hv ?_) hdb)
 refine wpAny_bind (wpAny_standAt ?_)
 unfold methodCall
 rw[hform]
 obtain⟨ks,q1,q2,q,I⟩:=selfInst hs
 refine wpAny_bind (wpAny_holding (getMeth hA.base.kin I (classFits_get k.ts name) mk.find mk.fn (getL_self mk.own) ?_))
 have hpos:methodCallPos true (.Name x p) env apos pos=pure pos:=by unfold methodCallPos;simp[hline]
 refine wpAny_bind (wpAny_of_eq hpos ?_)
 refine callWith_of (P:=fun h=>C.K.In h) (by show((backTo pos (starEach args env)).any (·.1)||false)=false;rw[hplain];rfl) (keeps_K mk.keep) ?_
 refine evalArgs_any (hne env) ?_
 refine ha A S _ s pos _ E hr hA0.here fun vs h2 t2 ex rv=>?_
 refine⟨(hA.base.ext ex hA.fra hA.eok).kin,?_⟩
 exact mcall (C:=C) hr hA hst ex look_eq (hM St eSt) rv fun v h₁ t St' pv' S' fp' hp hg hA' hst' rd=>by
  obtain⟨rfl,rfl,_⟩:=hp
  exact hq v S' fp' _ _ _ ⟨rfl,rfl⟩ (hA'.toSorter fun y hy e he=>by rw[look_ne hy];exact he) hst' rd
theorem EvX.methSA0{x name:Str}{p apos pos:Pos}{args:List Expr}{n:Nat}{a a':AS}{fa:Addr}{xs:List PV}{pv:PV}(k:SortK C.K)(mk:MethK C.K name fa)(hx:Γ.lookup x=some (some (n+1,.sorter a)))(ha:ArgsS C.up env (evG Γ) (backTo pos (starEach args env)) xs)(hM:FnM C fa a xs pv a')
  (hbase:∀env,attributeBase (.Name x p) name env (eval (.Name x p) env)=eval (.Name x p) env:=by intro _;rfl)
  (hform:∀env,methodCallForm (args.length+([]:List Keyword).length) (backTo pos (starEach args env)) (backToKw pos (keywordEach [] env))=false:=by intro _;rfl)
  (hstar:∀env,(backTo pos (starEach args env)).any (·.1)=true:=by intro _;rfl) (hdb:(x==("__debug__":Str))=false:=by rfl):
  EvX C.up env Γ (.Call (.Attribute (.Name x p) name apos) args [] pos) (fun Γ' q=>q=pv∧Γ'=(x,some (n+1,.sorter a'))::Γ):=fun A o s Q E hr hA hq=>by
 rw[arm_eval_Call,hbase]
 obtain⟨S,fp,hA0,hst⟩:=hA
 obtain⟨St,eSt,hA⟩:=hA0.toSrt hx
 obtain⟨a0,hkv,hv,hf,hs,hfo,_⟩:=AtO.srt hA hst (.refl _ _ _) look_eq
 have hloc:=hs.at_
 subst hloc
 refine wpAny_bind (wpAny_Name (wpAny_loadVar hA.eok hv ?_) hdb)
 refine wpAny_bind (wpAny_standAt ?_)
 unfold methodCall
 rw[hform]
 obtain⟨ks,q1,q2,q,I⟩:=selfInst hs
 refine wpAny_bind (wpAny_holding (wpAny_bind (getMethObj hA.base.kin I k mk (getL_self mk.own) (wpAny_pure ?_))))
 refine wpAny_bind (wpAny_pure ?_)
 let h1:Heap:=s.heap.push (methodObj (.ref fa) (.ref St.loc))
 have ex1:Ext A env s.heap h1:=(Ext.refl _ _ _).push _
 have hq1:h1.get? s.heap.objs.size=some (methodObj (.ref fa) (.ref St.loc)):=Heap.get?_push_size _ rfl
 refine callWith_star (K:=C.K) (self:=.ref St.loc) mk.fnIn (hstar env) ?_
 refine ha A S _ {s with heap:=h1,toks:=s.toks+1} _ _ E hr (hA0.here.ext ex1) fun vs h2 t2 ex2 rv=>?_
 have hql: ¬Fz A env s.heap.objs.size:=fun e=>by have:=Fz.there hA.here e;rw[fresh_size]at this;cases this
 have ho2:=ex2.keep _ _ hql hq1
 have ex:=ex1.trans ex2
 refine⟨⟨ho2,(hA.base.ext ex hA.fra hA.eok).kin⟩,wpAny_call (method_call (s:={s with heap:=h2,toks:=t2}) ho2 ?_)⟩
 exact mcallC (C:=C) hr hA hst ex look_eq (hM St eSt) (rv.mono (fun b hb=>hb.imp (fun z=>z) (ex1.fresh hA.eok.ns)) fun ω ω ω z=>z) fun v h₁ t St' pv' S' fp' hp hg hA' hst' rd=>by
  obtain⟨rfl,rfl,_⟩:=hp
  exact hq v S' fp' _ _ _ ⟨rfl,rfl⟩ (hA'.toSorter fun y hy e he=>by rw[look_ne hy];exact he) hst' rd
theorem Here.sorter{A:Around}{Γ:Gam}{S U:Addr->Prop}{h:Heap}(hh:Here C A S U env Γ h){x:Str}{nx:Nat}{a:AS}(hx:Γ.lookup x=some (some (nx,.sorter a)))(hk:isVar (env.kindOf x)=true):∃b St,SState.abs St=a∧VarAt h env x (.ref b)∧(∀c∈St.fp b,if nx==0 then S c else U c)∧SorterAt C.prog C.w h b St:=by
 obtain⟨v,h1,h2,_⟩:=hh.has x nx _ hx hk
 obtain⟨b,St,rfl,h3,h4,e⟩:=h2.view
 exact⟨b,St,e,h1,h3,h4⟩
end
theorem Fn.ofB{C:Cx}{fa:Addr}{d:Stmt}{dflt:Value}(f:FnAt C.K fa d dflt){xs:List PV}{pv:PV}(ns:List Str)(hlen:ns.length=xs.length)(hnd:ns.Nodup)
  (hloc:∀x∈ns,(fnames d).lookup x=some .local∨(fnames d).lookup x=some .cell)
  (hbind:∀ (fd:FuncData) (vs:List Value),fd.params=fargs d->fd.defaults=dflt->fd.kwdefaults= .none->vs.length=xs.length->bindArgs fd ⟨vs,[]⟩=pure (ns.zip vs))
  (walk:∀env:Env,KOk env (fnames d)->interactive env=false->Blk C env (parG ns xs) (fbody d) (fun fl ω=>fl= .ret pv)):Fn C fa xs pv:=by
 obtain⟨ob,fd,f1,f2,f3,f4,f5,f6,f7,f8,f9⟩:=f.ex
 refine Fn.of ns f1 f2 f3 f4 f5 hlen hnd (fun x hx=>by rw[f6];exact hloc x hx) (fun vs h=>hbind fd vs f7 f8 f9 h) fun A env o s Q E hsc ht hr hA hret=>?_
 have hk:∀x,env.kindOf x=(fnames d).lookup x:=fun x=>by rw[←f6,←hsc];rfl
 refine walk env (KOk.of hk) (by unfold interactive;rw[ht.kind];rfl) A o s Q E hr ht hA ⟨(fun s' Γ' h=>nomatch h),(fun s' Γ' h=>nomatch h),(fun s' Γ' h=>nomatch h),fun v s' pv' Γ' h hR=>?_,(fun v s' xs' Γ' h hR=>nomatch h)⟩
 cases h
 obtain⟨S,fp,h1,h2,h3⟩:=hR
 exact hret v s' ⟨S,fp,Γ',h1,h2,h3⟩
theorem SState.rdy_abs{St:SState}{ks:List Key}(h:St.abs.rdy=some ks):∃l,St.rdy=some (l,ks):=by
 unfold SState.abs at h
 cases hr:St.rdy with
 |none=>simp[hr]at h
 |some r=>simp[hr]at h;exact⟨r.1,by rw[←h]⟩
theorem SState.rdy_none{St:SState}(h:St.abs.rdy=none):St.rdy=none:=by
 unfold SState.abs at h
 cases hr:St.rdy with
 |none=>rfl
 |some r=>simp[hr]at h
theorem TopK.l{C:Cx}(T:TopK C)(n:Nat):TopK (C.l n):=⟨T.sk,T.mkI,T.mkT,T.f36,T.f80,T.f87,T.f92,T.f99,T.f106,T.f120,T.f127,T.m80,T.m87,T.m92,T.m99,T.m106,T.m120,T.m127,T.gNI,T.gTS,T.gOut,T.gDone,T.noB⟩
section
variable{C:Cx}
theorem fnm_add(T:TopK C)(hN:C.hd=false)(hl:3≤C.lev){a:AS}(key:Key)(ps:List Key)(hr:a.rdy=none)(hs:a.small (2*ps.length+4)):FnM C 87 a (key.pv::Key.pvs ps) .none (a.add key ps):=fun St e=>by
 subst e
 have h:=add_ok (C:=C.l 0) (T.l 0) hN St key ps (SState.rdy_none hr) hs
 have h':Mth (C.l 3) 87 St ([key.pv]++Key.pvs ps) (addPost St key ps):=h
 exact((Mth.up h' hl).mono fun St' q hp=>⟨hp.1,hp.2.1,hp.2.2⟩)
theorem fnm_get_ready(T:TopK C)(hN:C.hd=false){a:AS}{ks:List Key}(hr:a.rdy=some ks)(hs:ks.length≤lim)(hin:∀k∈ks,(a.find k).isSome=true):FnM C 99 a [] (.tuple (Key.pvs ks)) {a.out ks with rdy:=some [],npass:=a.npass+ks.length,nfin:=a.nfin}:=fun St e=>by
 subst e
 obtain⟨l,hl⟩:=SState.rdy_abs hr
 exact(get_ready_ok T hN St l ks hl hs hin).mono fun St' q hp=>⟨hp.1,hp.2.2,hp.2.1⟩
theorem fnm_done(T:TopK C)(hN:C.hd=false){a:AS}{rk ks:List Key}(hr:a.rdy=some rk)(hs:ks.length≤lim)(hc:a.canDone ks):FnM C 120 a (Key.pvs ks) .none (ks.foldl AS.done1 a):=fun St e=>by
 subst e
 obtain⟨l,hl⟩:=SState.rdy_abs hr
 exact(done_ok T hN St l rk ks hl hs hc).mono fun St' q hp=>⟨hp.1,hp.2.2,hp.2.1⟩
theorem fnm_prepare0(T:TopK C)(hN:C.hd=false)(hl:1≤C.lev){a:AS}(hr:a.rdy=none)(hs:a.nodes.length≤lim)(hring:∀X:SState,X.abs=a.prep->Mth (C.l 0) 127 X [] (noRing X)):FnM C 92 a [] .none a.prep:=fun St e=>by
 subst e
 have h:=prepare_ok (C:=C.l 0) (T.l 0) hN St (SState.rdy_none hr) (by
  have:St.abs.nodes.length=St.nodes.length:=by unfold SState.abs;simp
  omega) hring
 have h':Mth (C.l 1) 92 St [] (prepPost St):=h
 exact(Mth.up h' hl).mono fun St' q hp=>⟨hp.1,hp.2.2,hp.2.1⟩
noncomputable def AS.active(a:AS):Bool:=match a.rdy with|some ks=>decide (a.nfin<a.npass)|| !ks.isEmpty|none=>false
theorem fn_active(T:TopK C)(hN:C.hd=false){a:AS}{ks:List Key}(hr:a.rdy=some ks)(hs:ks.length≤lim):∀St:SState,St.abs=a->Fn C 106 [.srt St] (.bool a.active):=fun St e=>by
 subst e
 obtain⟨l,hrdy⟩:=SState.rdy_abs hr
 have kse:(fnames (tsS 5)).lookup sf=some .local:=by rfl
 have kb:(fnames (tsS 5)).lookup ("bool":Str)=some .globalImplicit:=by rfl
 refine Fn.ofB (C:=C) T.f106 [sf] rfl (by decide) (fun x hx=>?_) (fun fd vs h1 h2 h3 h4=>?_) fun env K hi=>?_
 ·simp only[List.mem_cons,List.not_mem_nil,or_false]at hx
  subst hx;exact .inl kse
 ·obtain⟨u,rfl⟩:=len_one h4
  unfold bindArgs;rw[h1,h2];rfl
 ·have er:selfPV St 1= .list (Key.pvs ks):=by show(match St.rdy with|none=>PV.none|some r=>_)=_;rw[hrdy]
  have sv:∀ (i:Nat) (nm:Str) (p pos:Pos),selfNames[i]?=some nm->∀Γ:SGam,Γ.lookup sf=some (some (0,.srt St))->Ev C env (evG Γ) (.Attribute (.Name sf p) nm pos) true (selfPV St i):=fun i nm p pos h Γ hl=>Ev.self_ (C:=C) (i:=i) (St:=St) (md:=true) T.sk (Ev.name (evG_look hl) (K.var _ (by rw[kse];rfl))) h
  refine Blk.ite (b:=false) (EvB.cmp (y:=.none) (m2:=true) (sv 1 _ _ _ rfl _ rfl) Ev.nne (by
   rw[er]
   exact Cop.is_none rfl)) (Blk.nil ?_)
  refine Blk.ret (Ev.or_val (Ev.cmp (md:=true) (sv 3 _ _ _ rfl _ rfl) (sv 2 _ _ _ rfl _ rfl) Cop.lt_int) fun ω=>Ev.call (md:=true) (m1:=true) (Ev.builtin (v:=.type "bool") (K.glb _ kb) (T.none (x:="bool") (by decide)) boot_bool) (EvL.cons (by rw[←er];exact sv 1 _ _ _ rfl _ rfl) EvL.nil) (Built.bool_list (by rw[pvs_len];exact hs))) ?_
  show AFlow.ret _=AFlow.ret _
  have:(Key.pvs ks).isEmpty=ks.isEmpty:=by cases ks<;>rfl
  rw[this]
  unfold AS.active
  rw[hr]
  rfl
end
section
variable{C:Cx}{env:Env}{Γ:Gam}
theorem Ev.methP0{x name:Str}{p apos pos:Pos}{args:List Expr}{n:Nat}{a:AS}{fa:Addr}{md:Bool}{xs:List PV}{pv:PV}(k:SortK C.K)(mk:MethK C.K name fa)(hx:Γ.lookup x=some (some (n,.sorter a)))(hkv:isVar (env.kindOf x)=true)(ha:EvL C.up env Γ args md xs)(hM:∀St:SState,St.abs=a->Fn C fa (.srt St::xs) pv)
  (hmd:md=(n==0):=by rfl)
  (hbase:∀env,attributeBase (.Name x p) name env (eval (.Name x p) env)=eval (.Name x p) env:=by intro _;rfl)
  (hform:∀env,methodCallForm (args.length+([]:List Keyword).length) (backTo pos (starEach args env)) (backToKw pos (keywordEach [] env))=true:=by intro _;rfl)
  (hline:(apos.endLine==pos.line)=true:=by rfl) (hne:∀env,backTo pos (starEach args env)=[]∨∃x r,backTo pos (starEach args env)=(false,x)::r:=by intro _;first|exact .inr ⟨_,_,rfl⟩|exact .inl rfl)
  (hplain:∀env,(backTo pos (starEach args env)).any (·.1)=false:=by intro _;rfl) (hdb:(x==("__debug__":Str))=false:=by rfl):
  Ev C.up env Γ (.Call (.Attribute (.Name x p) name apos) args [] pos) md pv:=fun A S U s Q E hr hh hq=>by
 rw[arm_eval_Call,hbase]
 obtain⟨a0,St,eSt,hv,hf,hs⟩:=Here.sorter (C:=C.up) hh hx hkv
 have hloc:=hs.at_
 subst hloc
 refine wpAny_bind (wpAny_Name (wpAny_loadVar hh.eok hv ?_) hdb)
 refine wpAny_bind (wpAny_standAt ?_)
 unfold methodCall
 rw[hform]
 obtain⟨ks,q1,q2,q,I⟩:=selfInst hs
 refine wpAny_bind (wpAny_holding (getMeth hh.base.kin I (classFits_get k.ts name) mk.find mk.fn (getL_self mk.own) ?_))
 have hpos:methodCallPos true (.Name x p) env apos pos=pure pos:=by unfold methodCallPos;simp[hline]
 refine wpAny_bind (wpAny_of_eq hpos ?_)
 refine callWith_of (P:=fun h=>C.K.In h) (by show((backTo pos (starEach args env)).any (·.1)||false)=false;rw[hplain];rfl) (keeps_K mk.keep) ?_
 refine evalArgs_any (hne env) ?_
 refine ha A S U s pos _ E hr hh fun vs h2 t2 ex rv=>?_
 have hh2:=hh.ext ex
 refine⟨hh2.base.kin,wpAny_call ?_⟩
 have hreg:∀b∈St.fp St.loc,Reg md S U s.heap b:=fun b hb=>.inl (by rw[hmd];exact hf b hb)
 have hs2:SorterAt C.prog C.w h2 St.loc St:=hs.mono fun b hb ob e=>ex.keep b ob (Reg.neL hh (hreg b hb)) e
 have rs:Rd C.prog C.w (fun a=>Reg md S U s.heap a∧(h2.get? a).isSome=true) h2 (.ref St.loc) (.srt St):=.srt (fun b hb=>⟨hreg b hb,hs2.there b hb⟩) hs2
 have hns:∀a,Reg md S U s.heap a->¬onStack A a:=fun a ha hs=>Reg.neL hh ha (.inr hs)
 refine hM St eSt A _ {s with heap:=h2,toks:=t2} (.ref St.loc::vs) _ hr ⟨hh.cx.g⟩ ⟨hh2.base.kin,hh2.base.nolimit,hh2.base.bns,hh2.base.nodigits⟩ (Fra.of (C':=C) hh2.fra rfl) (fun a ha=>⟨ha.2,hns a ha.1⟩) (.cons rs rv.there) fun v h3 t3 hk3 rd=>?_
 refine hq v h3 t3 (ex.trans hk3.ext) (rd.mono (fun a ha=>?_) fun ω ω ω e=>e)
 rcases ha with ha|ha
 ·exact ha.1
 ·exact .inr (ex.fresh hh.eok.ns ha)
end
section
variable{C:Cx}{env:Env}{Γ:SGam}{rest:List Stmt}{P:AFlow->SGam->Prop}
noncomputable def AS.zero:AS:=⟨[],none,0,0⟩
end
namespace Nx
theorem ga:Slot "list_iterator" "__getattribute__" "object.__getattribute__":=
 .of (owner:="object") (n:="__getattribute__") (by rw[typeLookup_type,builtinLookup_eq_fast];kernel_rfl) (by decide +kernel) (by decide +kernel) (by decide +kernel)
  (by first|exact .inl (by decide +kernel)|exact .inr (by decide +kernel)) (by rw[isSubtype_type];kernel_rfl)
theorem lkN:typeLookup (.type "list_iterator") "__next__" =pure (some (.builtin "list_iterator.__next__")):=by rw[typeLookup_type,builtinLookup_eq_fast];kernel_rfl
theorem tyN:typeOf (.builtin "list_iterator.__next__")=pure (.type "wrapper_descriptor"):=by show builtinType _=_;rw[builtinType_eq_fast];kernel_rfl
theorem getS:Slot "wrapper_descriptor" "__get__" "wrapper_descriptor.__get__":=
 .of (owner:="wrapper_descriptor") (n:="__get__") (by rw[typeLookup_type,builtinLookup_eq_fast];kernel_rfl) (by decide +kernel) (by decide +kernel) (by decide +kernel)
  (by first|exact .inl (by decide +kernel)|exact .inr (by decide +kernel)) (by rw[isSubtype_type];kernel_rfl)
theorem noSet:typeLookup (.type "wrapper_descriptor") "__set__" =pure none:=by rw[typeLookup_type,builtinLookup_eq_fast];kernel_rfl
theorem noDel:typeLookup (.type "wrapper_descriptor") "__delete__" =pure none:=by rw[typeLookup_type,builtinLookup_eq_fast];kernel_rfl
theorem entryG:entryFor table "wrapper_descriptor.__get__" =some Builtin.«wrapper_descriptor.__get__»:=entryFor_of_fast (by kernel_rfl)
theorem argsG(a b c:Value):argsOk "wrapper_descriptor.__get__" ⟨[a,b,c],[]⟩:=by unfold argsOk;kernel_rfl
theorem sub:isSubtype (.type "list_iterator") (.type "list_iterator")=pure true:=by rw[isSubtype_type];kernel_rfl
theorem owner:(".".intercalate ("list_iterator.__next__".cutAt '.').dropLast)= "list_iterator":=by decide +kernel
theorem entryA:entryFor table "object.__getattribute__" =some Builtin.«object.__getattribute__»:=entryFor_of_fast (by kernel_rfl)
theorem argsA(a b:Value):argsOk "object.__getattribute__" ⟨[a,b],[]⟩:=by unfold argsOk;kernel_rfl
end Nx
section
variable{prog:Program}{w:World}{A:Around}{E:Value->Shared->Prop}{h:Heap}{g:Array GenState}{d:Drawn}{t:Nat}{os:OsState}{a:Addr}{o:Obj}
set_option maxRecDepth 20000 in
theorem next_get{R:Result->Shared->Prop}(ho:h.get? a=some o)(hc:o.cls= .type "list_iterator")(hq:R (.ok (.ret (.ref h.objs.size))) ⟨h.push (nextObj a),g,d,t,os⟩):
  codeAny (model prog w) A (.call (.builtin "wrapper_descriptor.__get__") ⟨[.builtin "list_iterator.__next__",.ref a,.type "list_iterator"],[]⟩) R ⟨h,g,d,t,os⟩:=by
 have hT:(⟨h,g,d,t,os⟩:Shared).TypeIs (.ref a) "list_iterator":=⟨_,ho,hc⟩
 have hT5:(⟨h,g,d,t,os⟩:Shared).TypeIs (.builtin "list_iterator.__next__") "wrapper_descriptor":=Nx.tyN
 have f8:isSubtype (.type "list_iterator") (.type (".".intercalate ("list_iterator.__next__".cutAt '.').dropLast))=pure true:=by rw[Nx.owner];exact Nx.sub
 refine codeAny_call_builtin Nx.getS.plain Nx.entryG (Nx.getS.check _ _ _ _ _ _ _ _ hT5 (Nx.argsG _ _ _) ?_)
 repeat (any_goals (first|assumption|wp_step))
set_option maxRecDepth 20000 in
theorem next_entry{tk:Tok}{Q:Fin->Shared->Prop}{vs:Array Value}{sl:Array (Option Value)}(ho:h.get? a=some {cls:=.type "list_iterator",data:=.fields vs,slots:=sl})(hq:Q (.done (.ret (.ref h.objs.size))) ⟨h.push (nextObj a),g,d,t,os⟩):
  wpAny (model prog w) A (Builtin.«object.__getattribute__» ⟨[.ref a,.str "__next__" tk],[]⟩) Q E ⟨h,g,d,t,os⟩:=by
 have hT:(⟨h,g,d,t,os⟩:Shared).TypeIs (.ref a) "list_iterator":=⟨_,ho,rfl⟩
 have hT5:(⟨h,g,d,t,os⟩:Shared).TypeIs (.builtin "list_iterator.__next__") "wrapper_descriptor":=Nx.tyN
 have f4:=Nx.lkN
 have f5:=Nx.tyN
 have f6:=Nx.getS.lookup
 have f7:=Nx.noSet
 have f8:=Nx.noDel
 repeat (any_goals (first|assumption|with_reducible refine wpAny_loadPart_at ho ?_|wp_step))
 refine next_get ho rfl ?_
 repeat (any_goals (first|assumption|wp_step))
theorem next_call{tk:Tok}{R:Result->Shared->Prop}{vs:Array Value}{sl:Array (Option Value)}(ho:h.get? a=some {cls:=.type "list_iterator",data:=.fields vs,slots:=sl})(hq:R (.ok (.ret (.ref h.objs.size))) ⟨h.push (nextObj a),g,d,t,os⟩):
  codeAny (model prog w) A (.call (.builtin "object.__getattribute__") ⟨[.ref a,.str "__next__" tk],[]⟩) R ⟨h,g,d,t,os⟩:=
 codeAny_call_builtin Nx.ga.plain Nx.entryA (Nx.ga.check _ _ _ _ _ _ _ _ (show(⟨h,g,d,t,os⟩:Shared).TypeIs (.ref a) "list_iterator" from⟨_,ho,rfl⟩) (Nx.argsA _ _) (next_entry ho hq))
set_option maxRecDepth 20000 in
theorem next_by{tk:Tok}{fill expr:Bool}{Q:Value->Shared->Prop}{vs:Array Value}{sl:Array (Option Value)}(ho:h.get? a=some {cls:=.type "list_iterator",data:=.fields vs,slots:=sl})
  (hq:Q (.ref h.objs.size) ⟨h.push (nextObj a),g,d,t,os⟩):wpAny (model prog w) A (getAttrBy (.ref a) (.str "__next__" tk) fill expr) Q E ⟨h,g,d,t,os⟩:=by
 have hT:(⟨h,g,d,t,os⟩:Shared).TypeIs (.ref a) "list_iterator":=⟨_,ho,rfl⟩
 have f2:=Nx.ga.lookup
 have f3:=Nx.ga.bind (.ref a)
 have hx0:(expr&&onTheHeap (Value.builtin "object.__getattribute__"))=false:=by cases expr<;>rfl
 repeat (any_goals (first|assumption|wp_step))
 refine next_call ho ?_
 repeat (any_goals (first|assumption|wp_step))
theorem next_attr{expr:Bool}{Q:Value->Shared->Prop}{vs:Array Value}{sl:Array (Option Value)}(ho:h.get? a=some {cls:=.type "list_iterator",data:=.fields vs,slots:=sl})
  (hq:Q (.ref h.objs.size) ⟨h.push (nextObj a),g,d,t+1,os⟩):wpAny (model prog w) A (getAttr (.ref a) "__next__" expr) Q E ⟨h,g,d,t,os⟩:=by
 unfold getAttr
 repeat (any_goals (first|assumption|with_reducible apply next_by ho|wp_step))
end
namespace Nx
theorem check(a:Value):checkBoundCall "list_iterator.__next__" ⟨[a],[]⟩=pure ():=by first|kernel_rfl|rfl
theorem quiet(a:Value):(Code.builtin "list_iterator.__next__" ⟨[a],[]⟩).quiet=true:=Code.quiet_builtin _ (by decide +kernel)
end Nx
section
variable{prog:Program}{w:World}{A:Around}{E:Value->Shared->Prop}{s:Shared}{b it l:Addr}{i:Nat}
theorem callWith_next{M:Model}{pos:Pos}{Q:Value->Shared->Prop}(ho:s.heap.get? b=some (nextObj it))(h:wpAny M A (call (.ref b) [] []) Q E s):wpAny M A (callWith pos (.ref b) [] [] []) Q E s:=by
 unfold callWith
 have e0:wpAny M A (evalArgs (.ref b) true [] []) (fun a s'=>a=⟨[],[]⟩∧s'=s) E s:=evalArgs_any (.inl rfl) (by
  unfold spliced
  exact wpAny_pure ⟨rfl,rfl⟩)
 refine wpAny_bind (wpAny_holding (wpAny_mono e0 (fun x s₁ h₁=>wpAny_bind (wpAny_standAt ?_)) fun ω ω x=>x))
 obtain⟨rfl,rfl⟩:=h₁
 simp only[List.any_nil,Bool.or_false]
 refine wpAny_bind (m:=keeperOf (.ref b)) ?_
 unfold keeperOf
 refine wpAny_bind (wpAny_load ho ?_)
 simp only[show(Value.type "method-wrapper" !=Value.type "method")=true by decide,show(Value.type "method-wrapper" ==Value.type "builtin_function_or_method" ||Value.type "method-wrapper" ==Value.type "method-wrapper")=true by decide,if_true]
 refine wpAny_pure ?_
 exact wpAny_bind (wpAny_mono h (fun r s₂ hr=>wpAny_bind (wpAny_holding (wpAny_point (wpAny_pure hr)))) fun ω ω x=>x)
theorem call_next_core{Q:Value->Shared->Prop}(ho:s.heap.get? b=some (nextObj it))
  (h:∀A':Around,A'.handled=A.handled->wpAny (model prog w) A' (Builtin.«list_iterator.__next__» ⟨[.ref it],[]⟩) (fun f s'=>∃v,f= .done (.ret v)∧Q v s') E s):wpAny (model prog w) A (call (.ref b) [] []) Q E s:=by
 refine wpAny_call (codeAny_of_tree ?_)
 show wpAny _ A.in1 (callAny (.ref b) ⟨[],[]⟩) _ _ s
 simp only[callAny]
 refine wpAny_bind (wpAny_load ho ?_)
 simp only[show(Value.type "method-wrapper" ==Value.type "method" ||Value.type "method-wrapper" ==Value.type "builtin_function_or_method" ||Value.type "method-wrapper" ==Value.type "method-wrapper")=true by decide,if_true]
 show wpAny _ _ (if(Value.type "method-wrapper" !=Value.type "method")=true then _ else _) _ _ _
 rw[if_pos (show(Value.type "method-wrapper" !=Value.type "method")=true by decide)]
 refine wpAny_bind (wpAny_of_eq (a:=()) (Nx.check _) ?_)
 refine wpAny_bind (wpAny_pure (wpAny_pure ?_))
 refine⟨Nx.quiet _,codeAny_builtin entry_listiter_next (wpAny_mono (h _ rfl) (fun f s' hf=>?_) fun ω ω h'=>h')⟩
 obtain⟨v,rfl,hq⟩:=hf
 exact hq
theorem call_next_item{items:Array Value}{x:Value}{Q:Value->Shared->Prop}(ho:s.heap.get? b=some (nextObj it))(hit:s.heap.IsListIter it l i)(hl:s.heap.IsList l items)(hx:items[i]?=some x)
  (hQ:∀h',h'.IsListIter it l (i+1)->Heap.SameBut it s.heap h'->Q x {s with heap:=h'}):wpAny (model prog w) A (call (.ref b) [] []) Q E s:=by
 refine call_next_core ho fun A' ω=>?_
 obtain⟨o,ho,hc,hd⟩:=id hit
 obtain⟨ol,hol,_,nl,hdl⟩:=hl
 show wpAny _ _ (field (.ref it) 0>>=_) _ _ s
 refine wpAny_bind (wpAny_field ho hd (x:=.ref l) rfl ?_)
 show wpAny _ _ (if(Value.ref l==Value.none)=true then _ else _) _ _ s
 rw[if_neg (show ¬((Value.ref l==Value.none)=true)from Bool.false_ne_true)]
 show wpAny _ _ (field (.ref it) 1>>=_) _ _ s
 refine wpAny_bind (wpAny_field ho hd (x:=.int i 0) rfl ?_)
 show wpAny _ _ (seqItems? (.ref l)>>=_) _ _ s
 refine wpAny_bind (wpAny_seqItems hol hdl ?_)
 simp only[Int.toNat_natCast,hx]
 refine wpAny_bind (wpAny_setField ho hd (by simp) (wpAny_pure ⟨x,rfl,hQ _ ?_ (Heap.SameBut.update ..)⟩))
 exact⟨_,Heap.get?_update_self _ ho (Obj.isFreed_of_fields (Obj.data_mapFields hd _)),(Obj.cls_mapFields ..).trans hc,by
  rw[Obj.data_mapFields hd];simp[rawInt]⟩
theorem call_next_end{items:Array Value}{Q:Value->Shared->Prop}(hh:A.handled=none)(ho:s.heap.get? b=some (nextObj it))(hit:s.heap.IsListIter it l i)(hl:s.heap.IsList l items)(hx:items[i]?=none)
  (hE:∀h1 h' e t vs,Heap.SameBut it s.heap h1->(∀a o,h1.get? a=some o->h'.get? a=some o)->h1.get? e=none->h'.get? e=some {cls:=.type "StopIteration",data:=.fields vs}->vs[0]?=some (.ref t)->vs[1]?=some .none->h1.get? t=none->h'.get? t=some (tob [] 0)->h1.objs.size=s.heap.objs.size->(h1.get? it).isSome=true->E (.ref e) {s with heap:=h'}):
  wpAny (model prog w) A (call (.ref b) [] []) Q E s:=by
 refine call_next_core ho fun A' hA'=>?_
 obtain⟨o,ho,hc,hd⟩:=id hit
 obtain⟨ol,hol,_,nl,hdl⟩:=hl
 show wpAny _ _ (field (.ref it) 0>>=_) _ _ s
 refine wpAny_bind (wpAny_field ho hd (x:=.ref l) rfl ?_)
 show wpAny _ _ (if(Value.ref l==Value.none)=true then _ else _) _ _ s
 rw[if_neg (show ¬((Value.ref l==Value.none)=true)from Bool.false_ne_true)]
 show wpAny _ _ (field (.ref it) 1>>=_) _ _ s
 refine wpAny_bind (wpAny_field ho hd (x:=.int i 0) rfl ?_)
 show wpAny _ _ (seqItems? (.ref l)>>=_) _ _ s
 refine wpAny_bind (wpAny_seqItems hol hdl ?_)
 simp only[Int.toNat_natCast,hx]
 refine wpAny_bind (wpAny_rule (wpAny_bind (wpAny_setField ho hd (by simp) ?_)))
 show wpAny _ _ (newExc (.type "StopIteration") []>>=_) _ _ _
 refine wpAny_bind ?_
 simp only[newExc,newTuple]
 refine wpAny_bind (wpAny_newObj_type ?_ (by size_fits))
 refine wpAny_bind (m:=firstArgMember _ _) (wpAny_of_eq (a:=Value.none) (by first|rfl|(simp only[firstArgMember];rfl)) ?_)
 refine wpAny_newObj_type ?_ (by size_fits)
 simp only[raiseNew]
 refine wpAny_bind (wpAny_handled ?_)
 rw[hA',hh]
 refine wpAny_bind (wpAny_pure (wpAny_throw ?_))
 let h1:=s.heap.update it (Obj.mapFields fun x=>x.setIfInBounds 0 Value.none)
 have n1:h1.get? (h1.push {cls:=.type "tuple",data:=.seq #[]}).objs.size=none:=by
  cases hq:h1.get? (h1.push {cls:=.type "tuple",data:=.seq #[]}).objs.size with
  |none=>rfl
  |some q=>
   have h2:=Heap.lt_size hq
   have h3:(h1.push {cls:=.type "tuple",data:=.seq #[]}).objs.size=h1.objs.size+1:=by simp[Heap.push]
   rw[h3]at h2
   exact absurd h2 (Nat.not_lt.mpr (Nat.le_succ _))
 exact hE h1 _ _ h1.objs.size _ (Heap.SameBut.update ..) (fun a o e=>Heap.get?_push_of_some _ (Heap.get?_push_of_some _ e)) n1 (Heap.get?_push_size _ rfl) rfl rfl fresh_size (Heap.get?_push_of_some _ (Heap.get?_push_size _ rfl)) (by simp[h1,Heap.update]) (by
  have:=Heap.get?_update_self (Obj.mapFields fun x=>x.setIfInBounds 0 Value.none) ho (Obj.isFreed_of_fields (Obj.data_mapFields hd _))
  rw[this];rfl)
end
section
variable{C:Cx}{env:Env}{Γ:Gam}{md m1 m2:Bool}
theorem EvK.nil{p:Pos}{k:Nat}:EvK C env Γ (.List [] p) (k+1) (.list []):=fun A S U s Q E hr hh hq=>
 (EvN.list (md:=true) EvL.nil (by decide)) A S U s Q E hr hh fun a vs n h' t' ex ha hlo ho ra=>by
  cases ra
  exact hq (.ref a) h' t' [a] ex (.list ho .nil) (by simp) (fun b hb=>by simp at hb;subst hb;exact⟨ha,hlo⟩)
theorem EvK.dict0{p:Pos}{k:Nat}:EvK C env Γ (.Dict [] [] p) (k+1) (.dict []):=fun A S U s Q E hr hh hq=>by
 refine wpAny_Dict_empty ?_
 have hlo:mainGlobals<s.heap.objs.size:=(Ext.refl A env s.heap).highN hh
 exact hq (.ref s.heap.objs.size) _ s.toks [s.heap.objs.size] ((Ext.refl _ _ _).push _) (.dict (kvs:=[]) (vs:=[]) hlo (Heap.DictOf.new _) .nil) (by simp) (fun b hb=>by simp at hb;subst hb;exact⟨fresh_size,hlo⟩)
theorem EvK.set0{id:Str}{p pos:Pos}{k:Nat}(hf:Ev C env Γ (.Name id p) true (.raw (.type "set"))):EvK C env Γ (.Call (.Name id p) [] [] pos) (k+1) (.set []):=fun A S U s Q E hr hh hq=>by
 refine wpAny_Call_NameR ?_
 refine hf A S U s _ E hr hh fun v h1 t1 ex rd=>?_
 cases rd.raw_inv
 have e0:backTo pos (starEach [] env)=[]:=rfl
 rw[e0]
 have hc:wpAny (model C.prog C.w) A (call (.type "set") []) Q E {s with heap:=h1,toks:=t1}:=call_set_0 fun led=>by
  have hlo:mainGlobals<h1.objs.size:=ex.highN hh
  refine hq (.ref h1.objs.size) _ t1 [h1.objs.size] (ex.push _) (.set (ks:=[]) ?_ List.nodup_nil) (by simp) (fun b hb=>by simp at hb;subst hb;exact⟨ex.fresh_at hh.eok.ns,hlo⟩)
  have:=(setObjOf_fresh (knd:=mixKind C.prog C.w) led).setOf (h:=h1.push {cls:=.type "set",dict:=none,data:=.set #[] 0 (.fresh 0 0 led)}) (Heap.get?_push_size _ rfl) (by decide)
  simpa using this
 unfold callWith
 have e1:wpAny (model C.prog C.w) A (evalArgs (.type "set") true [] []) (fun a s'=>a=⟨[],[]⟩∧s'={s with heap:=h1,toks:=t1}) E {s with heap:=h1,toks:=t1}:=evalArgs_any (.inl rfl) (by
  unfold spliced
  exact wpAny_pure ⟨rfl,rfl⟩)
 refine wpAny_bind (wpAny_holding (wpAny_mono e1 (fun x s₁ h₁=>wpAny_bind (wpAny_standAt ?_)) fun ω ω x=>x))
 obtain⟨rfl,rfl⟩:=h₁
 simp only[List.any_nil,Bool.or_false]
 refine wpAny_bind (m:=keeperOf (.type "set")) (wpAny_pure ?_)
 exact wpAny_bind (wpAny_mono hc (fun r s₂ hr=>wpAny_bind (wpAny_holding (wpAny_point (wpAny_pure hr)))) fun ω ω x=>x)
theorem Key.scan{k:Key}{v:Value}(h:k.is v=true):v.scannable=true:=by
 rcases Key.shape h with⟨i,t,rfl,rfl⟩|⟨x,t,rfl,rfl⟩<;>rfl
theorem Rd.set_inv{S:Addr->Prop}{h:Heap}{v:Value}{ks:List Key}(r:Rd C.prog C.w S h v (.set ks)):∃a,v= .ref a∧S a∧h.SetOf (mixKind C.prog C.w) a (fun k=>decide (k∈ks)) ks.length∧ks.Nodup:=r.view
theorem Cop.in_set{k:Key}{ks:List Key}:Cop C env Γ .In m1 m2 k.pv (.set ks) (.bool (decide (k∈ks))):=fun A S U s h₀ v u Q E hr hh e hns rv ru hq=>by
 obtain⟨a,rfl,ha,hS,_⟩:=ru.set_inv
 have hk:(mixKind C.prog C.w).is k v=true:=rv.key
 exact wpAny_inSet_of (knd:=mixKind C.prog C.w) hk (Key.scan hk) hS (hq _ s.heap _ (.refl _ _ _) fun ω=>.bool _)
theorem EvB.list{e:Expr}{xs:List PV}(h:Ev C env Γ e md (.list xs))(hsz:xs.length≤lim)(hi:∀env whole,isTrue e env whole=(do let v ←whole;standAt e.pos;holding [v] (truthy v)):=by intro _ _;rfl):EvB C env Γ e (!xs.isEmpty):=fun A S U s Q E hr hh hq=>by
 rw[hi]
 refine wpAny_bind (h A S U s _ E hr hh fun v h' t' ex rd=>wpAny_bind (wpAny_standAt (wpAny_holding ?_)))
 obtain⟨a,vs,n,rfl,ha,ho,ra⟩:=rd.list_inv
 have e:(!vs.toArray.isEmpty)=(!xs.isEmpty):=by
  have:=ra.length
  cases vs<;>cases xs<;>simp_all
 refine wpAny_truthy_list (IsList.of_lob ho) (by have:=ra.length;unfold lim at hsz;simp only[List.size_toArray];omega) ?_
 rw[e]
 exact hq h' _ ex
theorem EvI.n2keys{e:Expr}{X:SState}{x:Str}{nx:Nat}(hx:Γ.lookup x=some (some (nx,.srt X)))(hkv:isVar (env.kindOf x)=true)(hlo:mainGlobals<X.n2)(he:Ev C env Γ e m2 (.raw (.ref X.n2)))(hsz:X.nodes.length≤lim)
  (hmd:md=(nx==0):=by rfl) (hN:C.hd=false:=by assumption):EvI C env Γ e md (Key.pvs (X.nodes.map SNode.key)):=fun A S U s Q E hr hh hq=>by
 refine he A S U s _ E hr hh fun v h1 t1 ex1 rd=>?_
 cases rd.raw_inv
 obtain⟨a,_,hf,hs⟩:=(hh.ext ex1).srt hx hkv
 rw[←hmd]at hf
 obtain⟨ob,es,ep,d1,d2,d3,d4,d5,d6⟩:=hs.map
 have hm1:h1.DictAt (mixKind C.prog C.w) X.n2 (X.nodes.map fun x=>(x.key,Value.ref x.loc)) ep:=⟨ob,es,d1,d2,d3,d4,d5,d6⟩
 refine wpAny_pyIter_dict (s:={s with heap:=h1,toks:=t1}) (noSys hlo) hm1 ?_
 have hne:X.n2≠h1.objs.size:=Nat.ne_of_lt (Heap.lt_size d1)
 let h3:Heap:=h1.push {cls:=.type "dict_keyiterator",data:=.fields #[.ref X.n2,.int 0 0,.int (X.nodes.map fun x=>(x.key,Value.ref x.loc)).length 0,.int ep 0]}
 have k23:∀b ob,h1.get? b=some ob->h3.get? b=some ob:=fun b ob e=>Heap.get?_push_of_some _ e
 have ex:Ext A env s.heap h3:=ex1.push _
 have W:=Walks.dictKeys (prog:=C.prog) (w:=C.w) (knd:=mixKind C.prog C.w) (hr.1 hN) h1.objs.size X.n2 hne (X.nodes.map fun x=>(x.key,Value.ref x.loc)) ep
 have hl1:(X.nodes.map fun x=>(x.key,Value.ref x.loc)).length=(Key.pvs (X.nodes.map SNode.key)).length:=by simp[Key.pvs]
 rw[hl1]at W
 have hI:s.heap.get? h1.objs.size=none:=ex1.fresh_at hh.eok.ns
 refine hq h1.objs.size h3 t1 _ _ _ ex hI (ex1.highN hh) W ⟨by rw[←hl1];exact⟨_,Heap.get?_push_size _ rfl,rfl,rfl⟩,hm1.at' fun o e=>k23 _ _ e⟩ ?_ ?_ ?_ ?_
 ·rintro i v ⟨key,x',hv,hkey⟩
  rw[List.getElem?_map]at hv
  cases hn:X.nodes[i]? with
  |none=>rw[hn]at hv;cases hv
  |some nd=>
   rw[hn]at hv;cases hv
   refine⟨nd.key.pv,by simp[Key.pvs,hn],Key.rd hkey⟩
 ·intro b hb
  rcases List.mem_cons.mp hb with rfl|hb
  ·exact⟨.inl rfl,by rw[Heap.get?_push_size _ rfl];rfl⟩
  ·rcases List.mem_singleton.mp hb with rfl
   exact⟨.inr (.inl (hf _ (by simp[SState.fp]))),by rw[k23 _ _ d1];rfl⟩
 ·rw[←hl1,List.length_map];unfold lim at hsz;omega
 ·rintro i h ⟨⟨o',ho',hc,_⟩,_⟩
  exact⟨o',_,ho',hc,by decide⟩
end
section
variable{C:Cx}{env:Env}{Γ:SGam}{rest:List Stmt}{P:AFlow->SGam->Prop}
noncomputable def whileP(C:Cx)(env:Env)(rest:List Stmt)(P:AFlow->SGam->Prop)(I:SGam->Prop):AFlow->SGam->Prop
 | .next,Γ=>I Γ
 | .cont,Γ=>I Γ
 | .brk,Γ=>Blk C env Γ rest P
 | .ret pv,Γ=>P (.ret pv) Γ
 | .retN xs,Γ=>P (.retN xs) Γ
theorem Blk.while{test:Expr}{body orelse:List Stmt}{pos:Pos}(I:Nat->SGam->Prop)(n₀:Nat)(h0:I n₀ Γ)
  (turn:∀n Γi,I n Γi->∃b,EvB C env (evG Γi) test b∧(b=true->Blk C env Γi body (whileP C env rest P fun Γ'=>∃m,m<n∧I m Γ'))∧(b=false->Blk C env Γi orelse (aft C env rest P))):
  Blk C env Γ (.While test body orelse pos::rest) P:=fun A o s Q E hr ht hA he=>by
 refine wpAny_execs_cons (wpAny_While (codeAny_whileLoop (fun n s'=>∃Γi,I n Γi∧AtO C A env o Γi s') (fun n s' hI=>?_) n₀ ⟨Γ,h0,hA⟩))
 obtain⟨Γi,hi,hAi⟩:=hI
 obtain⟨b,hB,ht1,ht2⟩:=turn n Γi hi
 obtain⟨S,fp,hA1,hst1⟩:=id hAi
 refine hB A S _ s' _ _ hr hA1.here fun h' t' ex=>?_
 have hA2:=hAi.ext ex t'
 cases b with
 |true=>
  simp only[if_true]
  refine ht1 rfl A o _ _ _ hr ht hA2 ⟨fun s2 Γ' hp hA3=>?_,fun s2 Γ' hp hA3=>?_,fun s2 Γ' hp hA3=>?_,fun v s2 pv Γ' hp hR=>?_,fun v s2 pv Γ' hp hR=>he.retN v s2 pv Γ' hp hR⟩
  ·obtain⟨m,hm,hI⟩:=hp;exact⟨m,hm,Γ',hI,hA3⟩
  ·exact hp A o s2 Q E hr ht hA3 he
  ·obtain⟨m,hm,hI⟩:=hp;exact⟨m,hm,Γ',hI,hA3⟩
  ·exact he.ret v s2 pv Γ' hp hR
 |false=>
  simp only[Bool.false_eq_true,if_false]
  refine ht2 rfl A o _ _ _ hr ht hA2 ⟨fun s2 Γ' hp hA3=>?_,fun s2 Γ' hp hA3=>?_,fun s2 Γ' hp hA3=>?_,fun v s2 pv Γ' hp hR=>?_,fun v s2 pv Γ' hp hR=>he.retN v s2 pv Γ' hp hR⟩
  ·exact hp A o s2 Q E hr ht hA3 he
  ·exact he.brk s2 Γ' hp hA3
  ·exact he.cont s2 Γ' hp hA3
  ·exact he.ret v s2 pv Γ' hp hR
theorem Blk.cont{pos:Pos}(h:P .cont Γ):Blk C env Γ (.Continue pos::rest) P:=fun A o s Q E hr ht hA he=>wpAny_execs_cons (wpAny_Continue (he.cont s Γ h hA))
end
theorem call_iter_list{prog:Program}{w:World}{A:Around}{E:Value->Shared->Prop}{s:Shared}{l:Addr}{items:Array Value}{Q:Value->Shared->Prop}(hl:s.heap.IsList l items)
  (h:Q (.ref s.heap.objs.size) {s with heap:=s.heap.push {cls:=.type "list_iterator",data:=.fields #[.ref l,.int 0 0]}}):
  wpAny (model prog w) A (call (.builtin "iter") [.ref l]) Q E s:=by
 refine call_function_entry (by decide +kernel) (by decide +kernel) kdk_entry_iter (kdk_args_iter _) ?_
 unfold Builtin.«iter»
 refine wpAny_bind (m:=someArgs "iter" 1 2 _) (wpAny_of_eq (a:=[Value.ref l]) (by first|rfl|kernel_rfl!) ?_)
 show wpAny _ _ (pyIter (.ref l)>>=_) _ _ _
 exact wpAny_bind (wpAny_pyIter_list hl (wpAny_pure ⟨_,rfl,h⟩))
section
variable{C:Cx}{env:Env}{Γ:Gam}{md m1 m2:Bool}
theorem ev_succ{oe:Expr}{X:SState}{nd:SNode}{sp:Pos}{x:Str}{nx:Nat}(k:SortK C.K)(hx:Γ.lookup x=some (some (nx,.srt X)))(hkv:isVar (env.kindOf x)=true)(hnd:nd∈X.nodes)(ho:Ev C env Γ oe m2 (.raw (.ref nd.loc)))
  (hev:∀env,eval (.Attribute oe "successors" sp) env=(do
   let o ←eval oe env
   standAt sp.atName
   let r ←holding [o] (getAttr o "successors" true)
   letTemporaryGo oe o r
   pure r))
  {A:Around} {S U:Addr->Prop} {s:Shared} {Q:Value->Shared->Prop} {E:Value->Shared->Prop} (hr:Room C A) (hh:Here C A S U env Γ s.heap)
  (hq:∀h' t',Ext A env s.heap h'->NodeAt h' nd->Q (.ref nd.lst) {s with heap:=h',toks:=t'}):wpAny (model C.prog C.w) A (eval (.Attribute oe "successors" sp) env) Q E s:=by
 refine Attribute_any_ ?_ (hev env)
 refine ho A S U s _ E hr hh fun v h' t' ex rd=>?_
 cases rd.raw_inv
 obtain⟨a,_,hf,hs⟩:=(hh.ext ex).srt hx hkv
 have r:=hs.nodes nd hnd
 obtain⟨kv,t,hkk,I⟩:=infoInst r
 obtain⟨p,h1,h2,h3,h4,h5,h6⟩:=k.slots (x:="successors") (i:=2) (by decide)
 have X:=(hh.ext ex).base.kin
 exact getSlot X I (classFits_get k.ni _) (classFits_cls k.ni) h1 h2 h3 h4 (v:=.ref nd.lst) rfl rfl (hq h' _ ex r)
theorem EvK.iterNext{oe:Expr}{X:SState}{nd:SNode}{sp p pos apos:Pos}{x id:Str}{nx kk:Nat}(k:SortK C.K)(hx:Γ.lookup x=some (some (nx,.srt X)))(hkv:isVar (env.kindOf x)=true)(hnd:nd∈X.nodes)(ho:Ev C env Γ oe m2 (.raw (.ref nd.loc)))
  (hf:Ev C env Γ (.Name id p) true (.raw (.builtin "iter")))
  (hev:∀env,eval (.Attribute oe "successors" sp) env=(do
   let o ←eval oe env
   standAt sp.atName
   let r ←holding [o] (getAttr o "successors" true)
   letTemporaryGo oe o r
   pure r):=by intro _;with_unfolding_all rfl)
  (hev2:∀env,eval (.Attribute (.Call (.Name id p) [.Attribute oe "successors" sp] [] pos) "__next__" apos) env=(do
   let o ←eval (.Call (.Name id p) [.Attribute oe "successors" sp] [] pos) env
   standAt apos.atName
   let r ←holding [o] (getAttr o "__next__" true)
   letTemporaryGo (.Call (.Name id p) [.Attribute oe "successors" sp] [] pos) o r
   pure r):=by intro _;with_unfolding_all rfl)
  (hne:∀env,backTo pos (starEach [.Attribute oe "successors" sp] env)=[(false,eval (.Attribute oe "successors" sp) env)]:=by intro _;rfl):
  EvK C env Γ (.Attribute (.Call (.Name id p) [.Attribute oe "successors" sp] [] pos) "__next__" apos) (kk+1) (.nxt (some (nd.lst,0))):=fun A S U s Q E hr hh hq=>by
 refine Attribute_any_ ?_ (hev2 env)
 refine wpAny_Call_NameR ?_
 refine hf A S U s _ E hr hh fun v h1 t1 ex1 rd=>?_
 cases rd.raw_inv
 rw[hne]
 refine callWith_args (.inr ⟨_,rfl⟩) ⟨_,_,rfl⟩ rfl ?_
 refine Calls.spliced_cons (ev_succ (s:={s with heap:=h1,toks:=t1}) k hx hkv hnd ho hev hr (hh.ext ex1) fun h2 t2 ex2 r2=>Calls.spliced_nil ?_)
 obtain⟨vs,n,o2,_⟩:=r2.list
 refine call_iter_list (IsList.of_lob o2) ?_
 let it:Addr:=h2.objs.size
 let h3:Heap:=h2.push {cls:=.type "list_iterator",data:=.fields #[.ref nd.lst,.int 0 0]}
 have hi3:h3.get? it=some {cls:=.type "list_iterator",data:=.fields #[.ref nd.lst,.int 0 0]}:=Heap.get?_push_size _ rfl
 have ex12:=ex1.trans ex2
 have ex3:Ext A env s.heap h3:=ex12.push _
 refine next_attr (h:=h3) hi3 ?_
 let h4:Heap:=h3.push (nextObj it)
 have hb4:h4.get? h3.objs.size=some (nextObj it):=Heap.get?_push_size _ rfl
 have hi4:h4.get? it=some {cls:=.type "list_iterator",data:=.fields #[.ref nd.lst,.int 0 0]}:=Heap.get?_push_of_some _ hi3
 have ex4:Ext A env s.heap h4:=ex3.push _
 have hne':h3.objs.size≠it:=by
  have:=Heap.lt_size hi3
  exact Nat.ne_of_gt this
 refine hq (.ref h3.objs.size) h4 _ [h3.objs.size,it] ex4 (.nxt hb4 (by rw[hi4];rfl) fun l i e=>?_) ?_ fun a ha=>?_
 ·cases e
  exact⟨_,hi4,rfl,rfl⟩
 ·simp[hne']
 ·simp only[List.mem_cons,List.not_mem_nil,or_false]at ha
  rcases ha with rfl|rfl
  ·exact⟨ex3.fresh_at hh.eok.ns,ex3.highN hh⟩
  ·exact⟨ex12.fresh_at hh.eok.ns,ex12.highN hh⟩
end
section
variable{C:Cx}{S:Addr->Prop}{h:Heap}{v:Value}{f:List Addr}
theorem OwnT.set1{n:Nat}{ks:List Key}(r:OwnT C S h (n+1) v (.set ks) f):∃a,v= .ref a∧f=[a]∧h.SetOf (mixKind C.prog C.w) a (fun k=>decide (k∈ks)) ks.length∧ks.Nodup:=r.view
theorem OwnT.listS{n:Nat}{xs:List PV}(r:OwnT C S h (n+1) v (.list xs) f):∃a vs m fps,v= .ref a∧f=a::fps∧h.get? a=some (lob vs m)∧OwnTs C S h n vs xs fps:=r.view
theorem OwnT.nxt1{n:Nat}{p:Option (Addr×Nat)}(r:OwnT C S h (n+1) v (.nxt p) f):∃b it,v= .ref b∧f=[b,it]∧h.get? b=some (nextObj it)∧(h.get? it).isSome=true∧∀l i,p=some (l,i)->h.IsListIter it l i:=r.view
theorem OwnTs.fp_nil{k:Nat}{vs:List Value}{f:List Addr}(r:OwnTs C S h k vs [] f):f=[]:=OwnTs.ind (P:=fun ω xs f=>xs=[]->f=[]) (fun ω=>rfl) (fun ω ω ω ω ω ω ω ω ω e=>nomatch e) r rfl
theorem OwnTs.snoc_inv{k:Nat}{vs:List Value}{xs:List PV}{x:PV}{f:List Addr}(r:OwnTs C S h k vs (xs++[x]) f):∃us u g e,vs=us++[u]∧f=g++e∧OwnTs C S h k us xs g∧OwnT C S h k u x e:=
 OwnTs.ind (P:=fun vs zs f=>∀xs,zs=xs++[x]->∃us u g e,vs=us++[u]∧f=g++e∧OwnTs C S h k us xs g∧OwnT C S h k u x e) (fun xs e=>by cases xs<;>cases e) (fun v vs y ys f fs a b ih xs e=>by
  cases xs with
  |nil=>
   obtain⟨rfl,rfl⟩:=List.cons.inj e
   refine⟨[],v,[],f,?_,?_,.nil,a⟩
   ·rw[List.length_eq_zero_iff.mp b.length];rfl
   ·rw[OwnTs.fp_nil b];exact List.append_nil _
  |cons z zs=>
   obtain⟨rfl,rfl⟩:=List.cons.inj e
   obtain⟨us,u,g,e,rfl,rfl,h1,h2⟩:=ih zs rfl
   exact⟨v::us,u,f++g,e,rfl,(List.append_assoc f g e).symm,.cons a h1,h2⟩) r xs rfl
end
section
variable{C:Cx}{env:Env}{Γ:SGam}{rest:List Stmt}{P:AFlow->SGam->Prop}
theorem Blk.setadd{x:Str}{arg:Expr}{px apos pos spos:Pos}{n:Nat}{ks:List Key}{key:Key}(hx:Γ.lookup x=some (some (n+1,.set ks)))(hE:Ev C env (evG Γ) arg true key.pv)(hk:key∉ks)(hsz:ks.length≤4000)(hi:interactive env=false)
  (k:Blk C env ((x,some (n+1,.set (ks++[key])))::Γ) rest P)
  (hfew:((backTo pos (starEach [arg] env)).all (fun x=>!x.1)&&(backToKw pos (keywordEach [] env)).all (fun x=>x.1.isSome)
   &&decide (([arg]:List Expr).length+([]:List Keyword).length+(if([]:List Keyword).isEmpty then 0 else 1)<30))=true:=by rfl)
  (hline:(apos.endLine==pos.line)=true:=by rfl) (htrees:backTo pos (starEach [arg] env)=[(false,eval arg env)]:=by rfl)
  (hs:swapsWith (.Call (.Attribute (.Name x px) "add" apos) [arg] [] pos) none spos.line env=pure false:=by rfl) (hd:(x==("__debug__":Str))=false:=by rfl):
  Blk C env Γ (.Expr (.Call (.Attribute (.Name x px) "add" apos) [arg] [] pos) spos::rest) P:=fun A o s Q E hr ht hA he=>by
 refine wpAny_execs_cons (wpAny_Expr_any ?_ hi hs)
 refine wpAny_Call_method rfl hfew hline PySem.F.plainAttrs_set PySem.F.slot_set_add PySem.F.type_set_add ?_
 obtain⟨S,fp,hA,hst⟩:=hA
 obtain⟨hkv,v,hv,ro⟩:=hA.vars x _ _ hx
 obtain⟨a,rfl,hf,hS,hnd⟩:=ro.set1
 refine wpAny_Name (wpAny_loadVar hA.eok hv ?_) hd
 refine⟨hS.typeIs,hS.noDict,?_⟩
 rw[htrees]
 refine Calls.callWith_builtin rfl (evalArgs_plain (Calls.spliced_cons ?_))
 refine hE A S _ s _ E hr hA.here fun u h1 t1 ex rd=>Calls.spliced_nil ?_
 have ha:a∈fp x:=by rw[hf];simp
 have hnl: ¬Fz A env a:=frame_neL hA ha
 have hS1:h1.SetOf (mixKind C.prog C.w) a (fun k=>decide (k∈ks)) ks.length:=SetOf.at hS fun ob e=>ex.keep a ob hnl e
 have hku:(mixKind C.prog C.w).is key u=true:=rd.key
 refine call_set_add (s:={s with heap:=h1,toks:=t1}) hku (Key.scan hku) hS1 (by show _<4096;omega) fun h2 hsb hS2=>?_
 refine k A o _ Q E hr ht (AtO.upd hA hst ex hkv hv (fun b=>b=a) (h₁:=h2) (f':=[a]) (n:=n+1) (pv:=.set (ks++[key])) (fun b ob hb e=>(hsb.2 b hb).trans e) (fun b hb=>by rw[hb];exact ha) (fun b hb=>?_) (fun b hb=>.inl (by rw[List.mem_singleton.mp hb];exact ha)) (by simp) (.set ?_ ?_) _) he
 ·subst hb
  obtain⟨ob,_,_,_,ho,_⟩:=hS2;rw[ho];rfl
 ·have e1:(fun k'=>decide (k'∈ks)||decide (k'=key))=fun k'=>decide (k'∈ks++[key]):=by
   funext k';simp
  have e2:(if decide (key∈ks)=true then ks.length else ks.length+1)=(ks++[key]).length:=by simp[hk]
  rw[e1,e2]at hS2
  exact hS2
 ·rw[List.nodup_append];exact⟨hnd,by simp,fun b hb c hc=>by simp at hc;subst hc;rintro rfl;exact hk hb⟩
theorem Blk.appendK{x:Str}{arg:Expr}{px apos pos spos:Pos}{n:Nat}{ys:List PV}{y:PV}(hx:Γ.lookup x=some (some (n+1,.list ys)))(hE:EvK C env (evG Γ) arg n y)(hsz:ys.length≤lim)(hi:interactive env=false)
  (k:Blk C env ((x,some (n+1,.list (ys++[y])))::Γ) rest P)
  (hfew:((backTo pos (starEach [arg] env)).all (fun x=>!x.1)&&(backToKw pos (keywordEach [] env)).all (fun x=>x.1.isSome)
   &&decide (([arg]:List Expr).length+([]:List Keyword).length+(if([]:List Keyword).isEmpty then 0 else 1)<30))=true:=by rfl)
  (hline:(apos.endLine==pos.line)=true:=by rfl) (htrees:backTo pos (starEach [arg] env)=[(false,eval arg env)]:=by rfl)
  (hs:swapsWith (.Call (.Attribute (.Name x px) "append" apos) [arg] [] pos) none spos.line env=pure false:=by rfl) (hd:(x==("__debug__":Str))=false:=by rfl):
  Blk C env Γ (.Expr (.Call (.Attribute (.Name x px) "append" apos) [arg] [] pos) spos::rest) P:=fun A o s Q E hr ht hA he=>by
 refine wpAny_execs_cons (wpAny_Expr_any ?_ hi hs)
 refine wpAny_Call_method rfl hfew hline PySem.F.plainAttrs_list PySem.F.slot_list_append PySem.F.type_list_append ?_
 obtain⟨S,fp,hA,hst⟩:=hA
 obtain⟨hkv,v,hv,ro⟩:=hA.vars x _ _ hx
 obtain⟨a,vs,m,fps,rfl,hf,ho,rs⟩:=ro.listS
 refine wpAny_Name (wpAny_loadVar hA.eok hv ?_) hd
 refine⟨⟨_,ho,rfl⟩,fun b e=>by cases e;exact⟨_,ho,rfl⟩,?_⟩
 rw[htrees]
 have ha:a∈fp x:=by rw[hf];simp
 have hnd:=hA.ndup x
 rw[hf]at hnd
 have hnd':a∉fps∧fps.Nodup:=by simpa using hnd
 refine PySem.P.append_list ?_
 refine hE A S _ s _ E hr hA.here fun u h1 t1 g ex rg hgn hg=>?_
 have hnl: ¬Fz A env a:=frame_neL hA ha
 have ho1:=ex.keep a _ hnl ho
 obtain⟨q,h2g,hsb⟩:=seq_upd ho1 (fun xs=>xs.push u) (us:=vs++[u]) (by simp)
 refine⟨vs.toArray,m,?_,ho1,?_⟩
 ·have:=rs.length
  unfold lim at hsz
  simp only[List.size_toArray,this];show _≤2^24;omega
 let h2:Heap:=h1.update a (Obj.mapSeq fun xs=>xs.push u)
 have hfold:∀b∈fps,¬Fz A env b:=fun b hb=>frame_neL hA (by rw[hf];exact List.mem_cons_of_mem _ hb)
 have hag:a∉g:=fun hm=>by have:=(hg a hm).1;rw[ho]at this;cases this
 have hgf:∀b∈fps,b∉g:=fun b hb hm=>by
  have h1:=(hg b hm).1
  have h2:=rs.there b hb
  rw[h1]at h2;cases h2
 let R:Addr->Prop:=fun b=>S b∨(s.heap.get? b=none∧(h1.get? b).isSome=true∧b∉a::(fps++g))
 have hSa:∀b,S b->b≠a:=fun b hb e=>(hA.sold b hb).2.2 x (by rw[hf,e];simp)
 have hSf:∀b,S b->∀o,s.heap.get? b=some o->h2.get? b=some o:=fun b hb o e=>(hsb.2 b (hSa b hb)).trans (ex.keep b o (fun hz=>(hA.sold b hb).2.1 (.inl hz)) e)
 have r1:OwnTs C R h2 n vs ys fps:=rs.mono (fun b hb=>.inl hb) (fun b o hb e=>hSf b hb o e) fun b hb o e=>(hsb.2 b (fun e'=>hnd'.1 (e'▸hb))).trans (ex.keep b o (hfold b hb) e)
 have r2:OwnT C R h2 n u y g:=rg.strong.mono (fun b hb=>by
   obtain⟨⟨hb1,hb2⟩,hb3⟩:=hb
   rcases hb1 with hb1|hb1
   ·exact .inl hb1
   ·refine .inr ⟨hb1,hb3,fun hm=>?_⟩
    rcases List.mem_cons.mp hm with rfl|hm
    ·rw[ho]at hb1;cases hb1
    ·rcases List.mem_append.mp hm with hm|hm
     ·have:=rs.there b hm;rw[hb1]at this;cases this
     ·exact hb2 hm)
  (fun b o hb e=>(hsb.2 b (fun e'=>by
   obtain⟨⟨hb1,_⟩,_⟩:=hb
   rcases hb1 with hb1|hb1
   ·exact hSa b hb1 e'
   ·rw[e',ho]at hb1;cases hb1)).trans e)
  (fun b hb o e=>(hsb.2 b (fun e'=>hag (e'▸hb))).trans e)
 have r3:OwnT C R h2 (n+1) (.ref a) (.list (ys++[y])) (a::(fps++g)):=.list h2g (r1.append (OwnTs.one r2))
 refine k A o _ Q E hr ht (AtO.upd hA hst ex hkv hv (fun b=>b=a) (h₁:=h2) (f':=a::(fps++g)) (n:=n+1) (pv:=.list (ys++[y])) (fun b ob hb e=>(hsb.2 b hb).trans e) (fun b hb=>by rw[hb];exact ha) (fun b hb=>by rw[hb,h2g];rfl) (fun b hb=>?_) ?_ r3 _) he
 ·rcases List.mem_cons.mp hb with rfl|hb
  ·exact .inl ha
  ·rcases List.mem_append.mp hb with hb|hb
   ·exact .inl (by rw[hf];exact List.mem_cons_of_mem _ hb)
   ·exact .inr (hg b hb)
 ·rw[List.nodup_cons,List.nodup_append]
  refine⟨fun hm=>?_,hnd'.2,hgn,fun b hb c hc e=>hgf b hb (e▸hc)⟩
  rcases List.mem_append.mp hm with hm|hm
  ·exact hnd'.1 hm
  ·exact hag hm
end
theorem VarAt.unique{h:Heap}{env:Env}{x:Str}{u v:Value}(a:VarAt h env x u)(b:VarAt h env x v):u=v:=by
 rcases a with⟨h1,m,h2,h3⟩|⟨h1,h0,c,h2,o,h3,h4⟩<;>rcases b with⟨g1,m',g2,g3⟩|⟨g1,g0,c',g2,o',g3,g4⟩
 ·have:=h2.agree g2 x
  rw[h3,g3]at this;exact Option.some.inj this
 ·rcases g1 with g1|g1<;>rw[h1]at g1<;>cases g1
 ·rcases h1 with h1|h1<;>rw[g1]at h1<;>cases h1
 ·rw[h2]at g2;cases g2
  rw[h3]at g3;cases g3
  rw[h4]at g4;simp at g4;exact g4
theorem delItem_dict{prog:Program}{w:World}{A:Around}{E:Value->Shared->Prop}{s:Shared}{d:Addr}{kvs:List (Key×Value)}{k:Key}{key:Value}{Q:Unit->Shared->Prop}(hkey:(mixKind prog w).is k key=true)
  (hD:s.heap.DictOf (mixKind prog w) d kvs) (hsz:kvs.length≤sizeLine) (hl:(valueAt kvs k).isSome=true)
  (h:∀h',h'.DictOf (mixKind prog w) d (without kvs k)->Heap.SameBut d s.heap h'->Q () {s with heap:=h',toks:=s.toks+1}):
  wpAny (model prog w) A (delItem (.ref d) key) Q E s:=by
 unfold delItem
 try with_reducible refine wpAny_holding ?_
 refine wpAny_bind (wpAny_sequenceKey hD.typeIs (by decide) ?_)
 refine wpAny_bind (wpAny_callSpecial?_slot (name:=Str.ofString "__delitem__") hD.typeIs PySem.F.slot_dict_delitem
  (call_meetsIn PySem.F.slot_dict_delitem hD.typeIs PySem.F.entry_dict_delitem (PySem.F.args_dict_delitem_2 _ _) (meets_dict_delitem_pairs (mixKind prog w) d hkey) ⟨kvs,hD,hsz,hl,fun h' hmm hs=>?_⟩))
 exact wpAny_pure (h h' hmm hs)
section
variable{C:Cx}{S:Addr->Prop}{h:Heap}
theorem without_zip(k:Key):∀ {vs:List Value} {kvs:List (Key×PV)},RdAll C.prog C.w S h vs (kvs.map (·.2))->
  ∃us,without ((kvs.map (·.1)).zip vs) k=(((kvs.filter fun p=>decide (p.1≠k)).map (·.1)).zip us)∧RdAll C.prog C.w S h us ((kvs.filter fun p=>decide (p.1≠k)).map (·.2))
 |[],[],_=>⟨[],rfl,.nil⟩
 |v::vs,(a,x)::kvs,.cons r1 r2=>by
  obtain⟨us,e,r⟩:=without_zip k r2
  unfold without at e⊢
  simp only[List.map_cons,List.zip_cons_cons,List.filter_cons]
  by_cases hk:a=k
  ·simp only[hk,ne_eq,not_true_eq_false,decide_false,Bool.false_eq_true,if_false]
   exact⟨us,e,r⟩
  ·simp only[ne_eq,hk,not_false_eq_true,decide_true,if_true,List.map_cons]
   exact⟨v::us,by rw[List.zip_cons_cons,←e],.cons r1 r⟩
theorem erase_last(us:List Value)(u:Value):(us++[u]).toArray.eraseIdxIfInBounds ((us++[u]).toArray.size - 1)=us.toArray:=by
 have:(us++[u]).toArray.size - 1=us.length:=by simp
 rw[this]
 apply Array.ext'
 simp[Array.eraseIdxIfInBounds,List.eraseIdx_append_of_length_le]
end
section
variable{C:Cx}{A:Around}{env:Env}{o:Org}{Γ:SGam}{s:Shared}{E:Value->Shared->Prop}{rest:List Stmt}{P:AFlow->SGam->Prop}
theorem evPop{x:Str}{px apos pos:Pos}{n:Nat}{ys:List PV}{y:PV}{Q:Value->Shared->Prop}(hA:AtO C A env o Γ s)(hx:Γ.lookup x=some (some (n+1,.list (ys++[y]))))(hsz:ys.length+1≤lim)
  (k:∀u h' t' R e,AtO C A env o ((x,some (n+1,.list ys))::Γ) {s with heap:=h',toks:=t'}->OwnT C R s.heap n u y e->(∀z v,VarAt s.heap env z v->VarAt h' env z v)->Q u {s with heap:=h',toks:=t'})
  (hfew:((backTo pos (starEach [] env)).all (fun x=>!x.1)&&(backToKw pos (keywordEach [] env)).all (fun x=>x.1.isSome)
   &&decide (([]:List Expr).length+([]:List Keyword).length+(if([]:List Keyword).isEmpty then 0 else 1)<30))=true:=by rfl)
  (hline:(apos.endLine==pos.line)=true:=by rfl) (hd:(x==("__debug__":Str))=false:=by rfl):
  wpAny (model C.prog C.w) A (eval (.Call (.Attribute (.Name x px) "pop" apos) [] [] pos) env) Q E s:=by
 refine wpAny_Call_method rfl hfew hline PySem.F.plainAttrs_list PySem.F.slot_list_pop PySem.F.type_list_pop ?_
 obtain⟨S,fp,hA,hst⟩:=hA
 obtain⟨hkv,v,hv,ro⟩:=hA.vars x _ _ hx
 obtain⟨a,vs,m,fps,rfl,hf,ho,rs⟩:=ro.listS
 obtain⟨us,u,g,e,rfl,rfl,r1,r2⟩:=rs.snoc_inv
 refine wpAny_Name (wpAny_loadVar hA.eok hv ?_) hd
 refine⟨⟨_,ho,rfl⟩,fun b e=>by cases e;exact⟨_,ho,rfl⟩,?_⟩
 have e0:backTo pos (starEach [] env)=[]:=rfl
 rw[e0]
 have hlen:=r1.length
 have ha:a∈fp x:=by rw[hf];simp
 have hnd:=hA.ndup x
 rw[hf]at hnd
 have hnd':a∉g++e∧(g++e).Nodup:=by simpa only[List.nodup_cons]using hnd
 refine PySem.P.pop_list (items:=(us++[u]).toArray) (n:=m) ho (y:=u) (by simp) ?_ (by simp only[List.size_toArray,List.length_append,List.length_singleton,hlen];unfold lim at hsz;show _≤2^24;omega)
 obtain⟨q,h2g,hsb⟩:=seq_upd ho (fun xs=>xs.eraseIdxIfInBounds ((us++[u]).toArray.size - 1)) (us:=us) (erase_last us u)
 let h2:Heap:=s.heap.update a (Obj.mapSeq fun xs=>xs.eraseIdxIfInBounds ((us++[u]).toArray.size - 1))
 have hSa:∀b,S b->b≠a:=fun b hb e=>(hA.sold b hb).2.2 x (by rw[hf,e];simp)
 have hnl: ¬frameAt A env a:=(hA.fold x a ha).2.1
 refine k u h2 s.toks S e (AtO.upd (h':=s.heap) hA hst (.refl _ _ _) hkv hv (fun b=>b=a) (h₁:=h2) (f':=a::g) (n:=n+1) (pv:=.list ys) (fun b ob hb e=>(hsb.2 b hb).trans e) (fun b hb=>by rw[hb];exact ha) (fun b hb=>by rw[hb,h2g];rfl) (fun b hb=>?_) ?_ ?_ _) r2 fun z v hz=>?_
 ·rcases List.mem_cons.mp hb with rfl|hb
  ·exact .inl ha
  ·exact .inl (by rw[hf];exact List.mem_cons_of_mem _ (List.mem_append_left _ hb))
 ·rw[List.nodup_cons]
  exact⟨fun hm=>hnd'.1 (List.mem_append_left _ hm),(List.nodup_append.mp hnd'.2).1⟩
 ·refine .list h2g (r1.mono (fun b hb=>.inl hb) (fun b o hb e=>(hsb.2 b (hSa b hb)).trans e) fun b hb o e=>(hsb.2 b (fun e'=>hnd'.1 (e'▸List.mem_append_left _ hb))).trans e)
 ·have hl:env.locals≠a:=fun e=>hnl (.inl (.inl e.symm))
  rcases hz with⟨h1,m',g2,g3⟩|⟨h1,h0,c,g2,o',g3,g4⟩
  ·exact .inl ⟨h1,m',g2.sameBut hsb hl,g3⟩
  ·exact .inr ⟨h1,h0,c,g2,o',(hsb.2 c (fun e=>hnl (.inr ⟨z,by rw[←e];exact g2⟩))).trans g3,g4⟩
theorem Blk.pop{x:Str}{px apos pos spos:Pos}{n:Nat}{ys:List PV}{y:PV}(hx:Γ.lookup x=some (some (n+1,.list (ys++[y]))))(hsz:ys.length+1≤lim)(hi:interactive env=false)(k:Blk C env ((x,some (n+1,.list ys))::Γ) rest P)
  (hfew:((backTo pos (starEach [] env)).all (fun x=>!x.1)&&(backToKw pos (keywordEach [] env)).all (fun x=>x.1.isSome)
   &&decide (([]:List Expr).length+([]:List Keyword).length+(if([]:List Keyword).isEmpty then 0 else 1)<30))=true:=by rfl)
  (hline:(apos.endLine==pos.line)=true:=by rfl) (hs:swapsWith (.Call (.Attribute (.Name x px) "pop" apos) [] [] pos) none spos.line env=pure false:=by rfl) (hd:(x==("__debug__":Str))=false:=by rfl):
  Blk C env Γ (.Expr (.Call (.Attribute (.Name x px) "pop" apos) [] [] pos) spos::rest) P:=fun A o s Q E hr ht hA he=>
 wpAny_execs_cons (wpAny_Expr_any (evPop hA hx hsz (fun u h' t' R e hA' ω ω=>k A o _ Q E hr ht hA' he) hfew hline hd) hi hs)
theorem OwnT.dictS{C:Cx}{S:Addr->Prop}{h:Heap}{v:Value}{f:List Addr}{kvs:List (Key×PV)}(r:OwnT C S h 1 v (.dict kvs) f):∃a vs,v= .ref a∧f=[a]∧mainGlobals<a∧h.DictOf (mixKind C.prog C.w) a ((kvs.map (·.1)).zip vs)∧RdAll C.prog C.w S h vs (kvs.map (·.2)):=r.dict1
theorem Blk.delpop{d x:Str}{pd px apos pos sp dpos:Pos}{ys:List PV}{key:Key}{kvs:List (Key×PV)}(hd:Γ.lookup d=some (some (1,.dict kvs)))(hx:Γ.lookup x=some (some (1,.list (ys++[key.pv]))))(hne:d≠x)(hsz:ys.length+1≤lim)(hsk:kvs.length≤lim)(hin:(kvGet kvs key).isSome=true)
  (k:Blk C env ((d,some (1,.dict (kvs.filter fun p=>decide (p.1≠key))))::(x,some (1,.list ys))::Γ) rest P)
  (hfew:((backTo pos (starEach [] env)).all (fun x=>!x.1)&&(backToKw pos (keywordEach [] env)).all (fun x=>x.1.isSome)
   &&decide (([]:List Expr).length+([]:List Keyword).length+(if([]:List Keyword).isEmpty then 0 else 1)<30))=true:=by rfl)
  (hline:(apos.endLine==pos.line)=true:=by rfl) (hxd:(x==("__debug__":Str))=false:=by rfl) (hdd:(d==("__debug__":Str))=false:=by rfl):
  Blk C env Γ (.Delete [.Subscript (.Name d pd) (.Call (.Attribute (.Name x px) "pop" apos) [] [] pos) sp] dpos::rest) P:=fun A o s Q E hr ht hA he=>by
 refine wpAny_execs_cons (wpAny_Delete ?_)
 have e1:deleteEach [Expr.Subscript (.Name d pd) (.Call (.Attribute (.Name x px) "pop" apos) [] [] pos) sp] env=(do delete (.Subscript (.Name d pd) (.Call (.Attribute (.Name x px) "pop" apos) [] [] pos) sp) env;deleteEach [] env):=rfl
 rw[e1]
 refine wpAny_bind (delete_Subscript ?_)
 obtain⟨S0,fp0,hA0,hst0⟩:=id hA
 obtain⟨hkv,v,hv,ro⟩:=hA0.vars d _ _ hd
 refine wpAny_Name (wpAny_loadVar hA0.eok hv ?_) hdd
 refine evPop hA hx hsz (fun u h' t' R e hA1 ru hvk=>?_) hfew hline hxd
 obtain⟨S,fp,hA1,hst⟩:=hA1
 have hd':((x,some (1,PV.list ys))::Γ:SGam).lookup d=some (some (1,.dict kvs)):=by rw[look_ne hne];exact hd
 obtain⟨_,v',hv',ro'⟩:=hA1.vars d _ _ hd'
 have:=(hvk d v hv).unique hv'
 subst this
 obtain⟨a,vs,rfl,hf,hlo,hD,ra⟩:=ro'.dictS
 have hku:(mixKind C.prog C.w).is key u=true:=by
  obtain⟨r,_⟩:=ru.zero;exact r.key
 have hvl:=valueAt_zip key ra
 have hin':(valueAt ((kvs.map (·.1)).zip vs) key).isSome=true:=by
  cases hg:kvGet kvs key with
  |none=>rw[hg]at hin;cases hin
  |some y=>rw[hg]at hvl;obtain⟨w',e',_⟩:=hvl;rw[e'];rfl
 have ha:a∈fp d:=by rw[hf];simp
 refine delItem_dict (s:={s with heap:=h',toks:=t'}) hku hD (by rw[List.length_zip,List.length_map];unfold lim at hsk;show _≤2^24;omega) hin' fun h2 hD2 hsb=>?_
 obtain⟨us,eu,rus⟩:=without_zip key ra
 rw[eu]at hD2
 have hSa:∀b,S b->b≠a:=fun b hb e=>(hA1.sold b hb).2.2 d (by rw[hf,e];simp)
 refine wpAny_deleteEach_nil ?_
 refine k A o _ Q E hr ht (AtO.upd (s:={s with heap:=h',toks:=t'}) (h':=h') hA1 hst (.refl _ _ _) hkv hv' (fun b=>b=a) (h₁:=h2) (f':=[a]) (n:=1) (pv:=.dict (kvs.filter fun p=>decide (p.1≠key))) (fun b ob hb e=>(hsb.2 b hb).trans e) (fun b hb=>by rw[hb];exact ha) (fun b hb=>?_) (fun b hb=>.inl (by rw[List.mem_singleton.mp hb];exact ha)) (by simp) ?_ _) he
 ·subst hb
  obtain⟨ob,_,_,ho,_⟩:=hD2;rw[ho];rfl
 ·exact .dict hlo hD2 (OwnTs.of_rd (rus.mono (fun b hb=>.inl hb) fun b ob hb e=>(hsb.2 b (hSa b hb)).trans e))
end
section
variable{M:Model}{A:Around}{E:Value->Shared->Prop}{s:Shared}
theorem looks_first{base:Heap}{env:Env}{outer:List Env}{L e:Addr}{oe:Obj}{vs:Array Value}{a0:Value}{Q:Unit->Shared->Prop}
  (hfr:A.frames=some (env::outer)) (hl:s.heap.FunFrames base (env::outer)) (hf:env.frame=some L)
  (he:s.heap.get? e=some oe) (hkb:base.StaysIn s.heap) (hen:base.get? e=none) (hd:oe.data= .fields vs) (h1:vs[1]?=some .none) (h0:vs[0]?=some a0)
  (h:∀h',Heap.HeldW base (env::outer) e oe.cls a0 L h'->s.heap.UpToSlots h'->Q () {s with heap:=h'}):wpAny M A (noteFrame (.ref e) env) Q E s:=by
 unfold noteFrame
 simp only[hf]
 refine wpAny_bind (wpAny_field he hd h1 ?_)
 rw[if_neg (by decide)]
 refine wpAny_entryW hfr hl hf he hkb hen hd (Array.getElem?_eq_some_iff.mp h1).1 h0 fun h' hN=>?_
 obtain⟨k1,k2,k3,k4⟩:=hN
 exact h h' ⟨k1,hen,k2,k3⟩ k4
end
section
variable{C:Cx}{A:Around}{env:Env}{S:Addr->Prop}{fp:Str->List Addr}{Γ:SGam}{h₁:Heap}{E:Value->Shared->Prop}{s₁:Shared}
theorem caught_here{X T:String}{tn:Str}{tp hpos:Pos}{b₀:Stmt}{suite:List Stmt}{more:List ExceptHandler}{e t:Addr}{vs:Array Value}{Q:Flow->Shared->Prop}(htop:TopF A env)(hA:At C A env S fp Γ h₁)
  (hkeep:∀a b,h₁.get? a=some b->s₁.heap.get? a=some b) (hen:h₁.get? e=none) (he:s₁.heap.get? e=some {cls:=.type X,data:=.fields vs}) (h0:vs[0]?=some (.ref t)) (h1:vs[1]?=some .none)
  (hk:env.kindOf tn=some .globalImplicit) (hg:C.glob tn=none) (hb:bootBuiltins tn=some (.type T))
  (hexc:isSubtype (.type T) (.type "BaseException")=pure true) (hnt:isSubtype (.type ((Manifest.find? T).elim "type" fun x=>x.metatype)) (.type "tuple")=pure false) (hsub:isSubtype (.type X) (.type T)=pure true)
  (hsuite:∀h4 E',KeepS A h₁ h4->wpAny (model C.prog C.w) (A.mark (some (.ref e))) (execs (b₀::suite) env) Q E' {s₁ with heap:=h4})
  (hn1:tn≠"__name__":=by decide) (hdb:(tn==("__debug__":Str))=false:=by rfl):
  wpAny (model C.prog C.w) A (noteFrame (.ref e) env) (fun ω s₂=>wpAny (model C.prog C.w) A (setFlight (.ref e) none) (fun ω s₃=>wpAny (model C.prog C.w) A (handleBy (.ref e) env (.ExceptHandler (some (.Name tn tp)) none (b₀::suite) hpos::more)) Q E s₃) E s₂) E s₁:=by
 obtain⟨l,hfr⟩:=htop.fr
 have fr1:Fra C A s₁.heap:=hA.fra.move fun a o ω ho hd=>⟨o,hkeep a o ho,hd⟩
 have memfr:∀a,a∈(env::l).filterMap (·.frame)↔onStack A a:=fun a=>by
  unfold onStack;rw[hfr]
  simp only[List.mem_filterMap,Option.some.injEq]
  exact⟨fun⟨e,h1,h2⟩=>⟨_,rfl,e,h1,h2⟩,fun⟨_,h0,e,h1,h2⟩=>⟨e,by rw[h0];exact h1,h2⟩⟩
 let gl:List Addr:=e::(env::l).filterMap (·.frame)
 let base:=TI.gone s₁.heap gl
 have hbase:∀a ob,a∉gl->s₁.heap.get? a=some ob->base.get? a=some ob:=fun a ob hn ho=>(TI.gone_get hn).trans ho
 have hF:s₁.heap.FunFrames base (env::l):=by
  obtain⟨l',hl',hx'⟩:=fr1.ex
  rw[hfr]at hl';cases hl'
  have key:∀l'':List Env,(∀e'∈l'',e'∈env::l)->s₁.heap.FunFrames base l'':=by
   intro l''
   induction l'' with
   |nil=>intro _;trivial
   |cons e' r ih=>
    intro hm
    obtain⟨g0,L,ob,es,ep,g1,_,_,g4,g5⟩:=hx' e' (hm e' List.mem_cons_self)
    refine⟨g0,⟨L,ob,g1,TI.gone_none ?_,g4,fun vs q=>by rw[g5]at q;cases q⟩,ih fun x hx=>hm x (List.mem_cons_of_mem _ hx)⟩
    exact List.mem_cons_of_mem _ (List.mem_filterMap.mpr ⟨e',hm e' List.mem_cons_self,g1⟩)
  exact key _ fun ω h=>h
 have dictNF:∀ {b:Obj},(∃es ep,b.data= .dict es ep)->∀vs,b.data≠.fields vs:=fun{b} ⟨es,ep,h⟩ vs q=>by rw[h]at q;cases q
 refine looks_first (base:=base) (outer:=l) (L:=env.locals) (a0:=.ref t) hfr hF htop.own he (gone_stays _ _) (TI.gone_none List.mem_cons_self) rfl h1 h0 fun ha hheld hu1=>?_
 refine wpAny_landsW (s:={s₁ with heap:=ha}) hheld fun hb' hfly2 hu2=>?_
 have keep2:∀ {h':Heap},base.StaysIn h'->(∀a b,onStack A a->s₁.heap.get? a=some b->(∃es ep,b.data= .dict es ep)->∃sl,h'.get? a=some {b with slots:=sl})->KeepS A h₁ h':=fun{h'} k1 k2=>by
  refine⟨fun a b hs hb=>k1 a b (hbase a b (fun hm=>?_) (hkeep a b hb)),fun a b hs hb=>?_⟩
  ·rcases List.mem_cons.mp hm with hm|hm
   ·rw[hm,hen]at hb;cases hb
   ·exact hs ((memfr a).mp hm)
  ·obtain⟨_,_,ob,es,ep,h4,h5⟩:=hA.fra.high hs
   rw[hb]at h4;cases h4
   exact k2 a b hs (hkeep a b hb) ⟨es,ep,h5⟩
 have u12:∀a b,onStack A a->s₁.heap.get? a=some b->(∃es ep,b.data= .dict es ep)->∃sl,hb'.get? a=some {b with slots:=sl}:=fun a b ω hb hd=>by
  obtain⟨sl,h1⟩:=hu1 a b hb (dictNF hd)
  obtain⟨sl',h2⟩:=hu2 a _ h1 (dictNF hd)
  exact⟨sl',h2⟩
 have k2:KeepS A h₁ hb':=keep2 hfly2.1 u12
 have hA2:=hA.ext (k2.ext (env:=env)) (fun ω=>False) fun a ha=>ha.elim
 refine wpAny_handleBy_builtin (b:=true) hexc hnt hsub ?_
 refine wpAny_Name (wpAny_loadGlob (C:=C) hA2.cx hA2.base hA2.eok hk (.inr ⟨hg,hn1,hb⟩) ?_) hdb
 refine⟨rfl,hfly2.there,?_⟩
 simp only[if_true]
 refine wpAny_setFlight_noneW (s:={s₁ with heap:=hb'}) hfly2.1 hfly2.2.2.1 hfly2.2.2.2.at fun h4 b1 b2 b3 b4=>?_
 have k4:KeepS A h₁ h4:=keep2 b1 fun a b hs hb hd=>by
  obtain⟨sl,h1⟩:=u12 a b hs hb hd
  exact⟨sl,b4 a _ h1 (dictNF hd)⟩
 exact hsuite h4 _ k4
end
section
variable{C:Cx}{env:Env}{Γ:SGam}{rest:List Stmt}{P:AFlow->SGam->Prop}
theorem Blk.tryNext{y xs tn sv:Str}{pn px sp cpos apos bp tp hpos pos:Pos}{ie:Expr}{b₀:Stmt}{suite:List Stmt}{ps:List PV}{i n:Nat}{X:SState}{nd:SNode}(hN:C.hd=false)(hx:Γ.lookup xs=some (some (n+2,.list (ps++[.nxt (some (nd.lst,i))]))))(hs:Γ.lookup sv=some (some (0,.srt X)))(hnd:nd∈X.nodes)
  (hi:Ev C env (evG Γ) ie true (.int (-1))) (hsz:ps.length+1≤lim) (hy:env.kindOf y=some .local∨env.kindOf y=some .cell)
  (hk:env.kindOf tn=some .globalImplicit) (hg:C.glob tn=none) (hb:bootBuiltins tn=some (.type "StopIteration"))
  (item:∀k,nd.succ[i]?=some k->P .brk ((y,some (0,k.pv))::(xs,some (n+2,.list (ps++[.nxt (some (nd.lst,i+1))])))::Γ))
  (last:nd.succ[i]?=none->Blk C.hot env ((xs,some (n+2,.list (ps++[.nxt none])))::Γ) (b₀::suite) (fun fl Γ'=>fl= .next∧Blk C env Γ' rest P))
  (hcd:y≠"__classdict__":=by decide) (hn1:tn≠"__name__":=by decide) (hdb:(tn==("__debug__":Str))=false:=by rfl) (hdx:(xs==("__debug__":Str))=false:=by rfl)
  (hsw:∀env,swapsWith (.Call (.Subscript (.Name xs px) ie sp) [] [] cpos) (some (.Name y pn)) apos.line env=pure false:=by intro _;rfl)
  (hcall:∀env,eval (.Call (.Subscript (.Name xs px) ie sp) [] [] cpos) env=(do callWith cpos (←eval (.Subscript (.Name xs px) ie sp) env) [] [] []):=by intro _;rfl)
  (hpl:∀o iv,∃ops,subscripted ie false o iv=operate ops (getItem o iv):=by intro _ _;exact⟨_,rfl⟩):
  Blk C env Γ (.Try [.Assign [.Name y pn] (.Call (.Subscript (.Name xs px) ie sp) [] [] cpos) apos,.Break bp] [.ExceptHandler (some (.Name tn tp)) none (b₀::suite) hpos] [] [] pos::rest) P:=fun A o s Q E hr ht hA he=>by
 refine wpAny_execs_cons (wpAny_Try_except (wpAny_execs_cons (wpAny_Assign_Name ?_ (hsw env))))
 rw[hcall]
 refine hid fun Q1 E1 hQ hE=>?_
 obtain⟨S,fp,hA,hst⟩:=hA
 obtain⟨hkv,v,hv,ro⟩:=hA.vars xs _ _ hx
 obtain⟨a,vs,m,fps,rfl,hf,ho,rs⟩:=ro.listS
 obtain⟨us,u,g,ee,rfl,rfl,r1,r2⟩:=rs.snoc_inv
 obtain⟨b,it,rfl,rfl,hob,hit,hli⟩:=r2.nxt1
 have hlen:=r1.length
 refine wpAny_bind (Subscript_ (wpAny_Name (wpAny_loadVar hA.eok hv ?_) hdx))
 refine hi A S _ s _ _ hr hA.here fun iv h1 t1 ex1 ri=>?_
 obtain⟨ti,rfl⟩:=ri.int_inv
 have ha:a∈fp xs:=by rw[hf];simp
 have hbm:b∈fp xs:=by rw[hf];simp
 have him:it∈fp xs:=by rw[hf];simp
 have k1:∀c∈fp xs,∀ob,s.heap.get? c=some ob->h1.get? c=some ob:=fun c hc ob e=>ex1.keep c ob (frame_neL hA hc) e
 have ho1:=k1 a ha _ ho
 have hob1:=k1 b hbm _ hob
 obtain⟨ops,hops⟩:=hpl (.ref a) (.int (-1) ti)
 refine tail_any (T:="list") ⟨_,ho1,rfl⟩ slot_list_getitem.lookup ?_ hops
 refine wpAny_getItem_list_neg (IsList.of_lob ho1) (by decide) ?_ (by decide) (x:=.ref b) ?_ ?_
 ·simp only[List.size_toArray,List.length_append,List.length_singleton];omega
 ·have:((-1:Int)+((us++[Value.ref b]).toArray.size:Int)).toNat=us.length:=by simp only[List.size_toArray,List.length_append,List.length_singleton];omega
  rw[this];simp
 refine callWith_next (s:={s with heap:=h1,toks:=t1}) hob1 ?_
 have hit1:h1.IsListIter it nd.lst i:=(hli _ _ rfl).at fun ob e=>k1 it him ob e
 have hkvs:isVar (env.kindOf sv)=true:=(hA.vars sv _ _ hs).1
 obtain⟨sa,_,_,hsr⟩:=(hA.here.ext ex1).srt hs hkvs
 obtain⟨ls,ln,hl1,hka⟩:=(hsr.nodes nd hnd).list
 have hnd0:=hA.ndup xs
 rw[hf]at hnd0
 have hnd1:a∉g++[b,it]∧(g++[b,it]).Nodup:=by simpa only[List.nodup_cons]using hnd0
 have hnd2:=List.nodup_append.mp hnd1.2
 have hbi:b≠it:=by have:=hnd2.2.1;simp at this;exact this
 have hgi:∀c∈g,c≠it:=fun c hc e=>hnd2.2.2 c hc it (by simp) e
 have hai:a≠it:=fun e=>hnd1.1 (by rw[e];simp)
 have hiF: ¬frameAt A env it:=(hA.fold xs it him).2.1
 have hSi:∀c,S c->c≠it:=fun c hc e=>(hA.sold c hc).2.2 xs (e▸him)
 cases hq:nd.succ[i]? with
 |some k=>
  obtain⟨kv,hkv1,hkv2⟩:=hka.get hq
  refine call_next_item (s:={s with heap:=h1,toks:=t1}) hob1 hit1 (IsList.of_lob hl1) (x:=kv) (by simpa using hkv1) fun h2 hit2 hsb=>hQ _ _ ?_
  have k2:∀c ob,c≠it->h1.get? c=some ob->h2.get? c=some ob:=fun c ob hc e=>(hsb.2 c hc).trans e
  have r3:OwnT C (fun b'=>S b'∨(s.heap.get? b'=none∧(h2.get? b').isSome=true∧b'∉fp xs)) h2 (n+2) (.ref a) (.list (ps++[.nxt (some (nd.lst,i+1))])) (fp xs):=by
   rw[hf]
   refine .list (k2 a _ hai ho1) ((r1.mono (fun c hc=>.inl hc) (fun c ob hc e=>k2 c ob (hSi c hc) (ex1.keep c ob (fun hz=>(hA.sold c hc).2.1 (.inl hz)) e)) fun c hc ob e=>k2 c ob (hgi c hc) (k1 c (by rw[hf];exact List.mem_cons_of_mem _ (List.mem_append_left _ hc)) ob e)).append (OwnTs.one (.nxt (k2 b _ hbi hob1) ?_ fun l j e=>?_)))
   ·exact hit2.elim fun ob h=>so h.1
   ·cases e;exact hit2
  have hup:=AtO.upd (h':=h1) hA hst ex1 hkv hv (fun b'=>b'=it) (h₁:=h2) (f':=fp xs) (n:=n+2) (pv:=.list (ps++[.nxt (some (nd.lst,i+1))])) (fun c ob hc e=>k2 c ob hc e) (fun c hc=>by rw[hc];exact him) (fun c hc=>hc▸hit2.elim fun ob h=>so h.1) (fun c hc=>.inl hc) (hA.ndup xs) (r3.mono (fun c hc=>hc.imp id fun h=>⟨h.1,(by
     by_cases hci:c=it
     ·exact absurd (hci▸him) h.2.2
     ·exact(hsb.2 c hci)▸h.2.1),h.2.2⟩) (fun ω ω ω e=>e) (fun ω ω ω e=>e)) t1
  obtain⟨S5,fp5,hA5,hst5⟩:=hup
  refine store_plain (s:={s with heap:=h2,toks:=t1}) (v:=kv) (pv:=k.pv) hy hcd hA5 hst5 (Key.rd hkv2) fun h6 t6 hA6=>?_
  refine wpAny_execs_cons (wpAny_Break ?_)
  exact he.brk _ _ (item k hq) hA6
 |none=>
  have hnone:ls.toArray[i]?=none:=by
   have hl:=hka.rd (prog:=C.prog) (w:=C.w) (S:=fun ω=>True) (h:=h1)
   have h2:=hl.length
   rw[List.getElem?_eq_none_iff]at hq
   simp only[List.getElem?_toArray,List.getElem?_eq_none_iff]
   rw[h2,pvs_len];exact hq
  refine call_next_end (s:={s with heap:=h1,toks:=t1}) (hr.1 hN) hob1 hit1 (IsList.of_lob hl1) hnone fun h2 h3 e t vs' hsb hk3 hen he3 hv0 hv1 htn ht3 hsz2 hit2=>hE _ _ ?_
  have k2:∀c ob,c≠it->h1.get? c=some ob->h2.get? c=some ob:=fun c ob hc e=>(hsb.2 c hc).trans e
  have r3:OwnT C (fun b'=>S b'∨(s.heap.get? b'=none∧(h1.get? b').isSome=true∧b'∉fp xs)) h2 (n+2) (.ref a) (.list (ps++[.nxt none])) (fp xs):=by
   rw[hf]
   refine .list (k2 a _ hai ho1) ((r1.mono (fun c hc=>.inl hc) (fun c ob hc e=>k2 c ob (hSi c hc) (ex1.keep c ob (fun hz=>(hA.sold c hc).2.1 (.inl hz)) e)) fun c hc ob e=>k2 c ob (hgi c hc) (k1 c (by rw[hf];exact List.mem_cons_of_mem _ (List.mem_append_left _ hc)) ob e)).append (OwnTs.one (.nxt (k2 b _ hbi hob1) hit2 fun l j e=>by cases e)))
  have hup:=AtO.upd (h':=h1) hA hst ex1 hkv hv (fun b'=>b'=it) (h₁:=h2) (f':=fp xs) (n:=n+2) (pv:=.list (ps++[.nxt none])) (fun c ob hc e=>k2 c ob hc e) (fun c hc=>by rw[hc];exact him) (fun c hc=>by rw[hc];exact hit2) (fun c hc=>.inl hc) (hA.ndup xs) r3 t1
  obtain⟨S5,fp5,hA5,hst5⟩:=hup
  refine caught_here (C:=C) (s₁:={s with heap:=h3,toks:=t1}) ht hA5 hk3 hen he3 hv0 hv1 hk hg hb (by rw[isSubtype_type];kernel_rfl) (by kernel_rfl) (by rw[isSubtype_type];kernel_rfl) (fun h4 E' k4=>?_) hn1 hdb
  have ex4:Ext A env h2 h4:=k4.ext
  let N:Addr->Prop:=fun a=>h2.get? a=none∧(h4.get? a).isSome=true
  have hA6:=hA5.ext ex4 N fun a ha=>ha
  have hst6:=Step.ext' (t:=t1) (s₁:={s with heap:=h2,toks:=t1}) hst5 hA5.eok.ns ex4 N fun a ha=>ha.1
  have htm:TopF (A.mark (some (.ref e))) env:=⟨ht.kind,ht.fr,ht.own⟩
  refine last hq (A.mark (some (.ref e))) o _ _ _ hr.hot htm ⟨_,fp5,hA6.hot,hst6.mark⟩ ⟨fun s' Γ' hp hA7=>?_,fun s' Γ' hp hA7=>?_,fun s' Γ' hp hA7=>?_,fun v s' pv Γ' hp hR=>?_,fun v s' pv Γ' hp hR=>?_⟩
  ·obtain⟨_,hB⟩:=hp
   obtain⟨S7,fp7,h7,h8⟩:=hA7
   exact hB A o s' Q E hr ht ⟨S7,fp7,h7.cool,h8.unmark⟩ he
  ·exact nomatch hp.1
  ·exact nomatch hp.1
  ·exact nomatch hp.1
  ·exact nomatch hp.1
end
noncomputable def FnR(C:Cx)(fa:Addr)(xs:List PV)(P:AFlow->Prop):Prop:=
 ∀ (A:Around) (S:Addr->Prop) (s:Shared) (vs:List Value) (R:Result->Shared->Prop),Room C.up A->C.Ok->Base C s.heap->Fra C A s.heap->(∀a,S a->(s.heap.get? a).isSome=true∧¬onStack A a)->RdAll C.prog C.w S s.heap vs xs->
  (∀v h' t' pv,P (.ret pv)->KeepS A s.heap h'->Rd C.prog C.w (fun a=>S a∨s.heap.get? a=none) h' v pv->R (.ok (.ret v)) {s with heap:=h',toks:=t'})->
  (∀a us n h' t' ys,P (.retN ys)->KeepS A s.heap h'->s.heap.get? a=none->mainGlobals<a->h'.get? a=some (lob us n)->RdAll C.prog C.w (fun ω=>False) h' us ys->R (.ok (.ret (.ref a))) {s with heap:=h',toks:=t'})->
  codeAny (model C.prog C.w) A (.call (.ref fa) ⟨vs,[]⟩) R s
theorem FnR.ofB{C:Cx}{fa:Addr}{d:Stmt}{dflt:Value}(f:FnAt C.K fa d dflt){xs:List PV}{P:AFlow->Prop}(ns:List Str)(hlen:ns.length=xs.length)(hnd:ns.Nodup)
  (hloc:∀x∈ns,(fnames d).lookup x=some .local∨(fnames d).lookup x=some .cell)
  (hbind:∀ (fd:FuncData) (vs:List Value),fd.params=fargs d->fd.defaults=dflt->fd.kwdefaults= .none->vs.length=xs.length->bindArgs fd ⟨vs,[]⟩=pure (ns.zip vs))
  (hP:∀fl,P fl->(∃pv,fl= .ret pv)∨∃ys,fl= .retN ys)
  (walk:∀env:Env,KOk env (fnames d)->interactive env=false->Blk C env (parG ns xs) (fbody d) (fun fl ω=>P fl)):FnR C fa xs P:=fun A S s vs R hr cx B fx hS rv hR hR2=>by
 obtain⟨ob,fd,f1,f2,f3,f4,f5,f6,f7,f8,f9⟩:=f.ex
 have hlv:=rv.length
 refine code_enter (S:=S) (fp:=fun ω=>[]) (Γ:=parG ns xs) (fun binds h1=>binds=ns.zip vs∧h1=s.heap) hr cx B fx f1 f2 (.of f3) f4 f5 (fun Q E hq=>?_) (fun binds h1 hp=>?_) (fun ω ω ω h=>nomatch h) (fun ω=>List.nodup_nil) fun env h2 t2 hsc hk hfr hA hkd hr' hon htop=>?_
 ·rw[hbind fd vs f7 f8 f9 hlv]
  exact wpAny_pure (hq _ s.heap s.toks ⟨rfl,rfl⟩)
 ·obtain rfl:=hp.1.symm;obtain rfl:=hp.2.symm
  have hz:(ns.zip vs).map (·.1)=ns:=zip_fst ns vs (by rw[hlen,hlv])
  refine⟨fun ω ω e=>e,by rw[hz];exact hnd,fun x hx=>by rw[f6];exact hloc _ (by rw[←hz];exact List.mem_map.mpr ⟨x,hx,rfl⟩),hS,(fun ω ω ω h=>nomatch h),(fun ω ω h=>nomatch h),fun x n pv hl=>?_⟩
  obtain⟨rfl,v,h1,h2⟩:=parG_zip ns xs vs x n pv rv hl
  exact⟨v,h1,.val h2⟩
 ·have hkd':∀x,env.kindOf x=(fnames d).lookup x:=fun x=>by rw[hkd x,f6]
  have own:∀a b,s.heap.get? a=some b->¬ownFr env a:=fun a b hb hf=>by rw[hfr a hf]at hb;cases hb
  have keep:∀ {S' fp' s'},Step (A.deeper env) env ⟨S,fun ω=>[],{s with heap:=h2,toks:=t2}⟩ S' fp' s'->KeepS A s.heap s'.heap:=fun{S' fp' s'} hst=>by
   refine⟨fun a b hs hb=>?_,fun a b hs hb=>?_⟩
   ·refine hst.keep a b (fun hf=>?_) (fun ω h=>nomatch h) (hk a b hb)
    rcases hf with(hf|hf)|hf
    ·exact own a b hb (.inl hf)
    ·exact((hon a).mp hf).elim (fun h=>own a b hb (.inl h)) hs
    ·exact own a b hb (.inr hf)
   ·exact hst.fr a b ((hon a).mpr (.inr hs)) (fun e=>own a b hb (.inl e)) (hk a b hb)
  have fresh:∀a,h2.get? a=none->s.heap.get? a=none:=fun a ha=>by
   cases hq:s.heap.get? a with
   |none=>rfl
   |some b=>rw[hk a b hq]at ha;cases ha
  refine walk env (KOk.of hkd') (by unfold interactive;rw[htop.kind];rfl) _ ⟨S,fun ω=>[],{s with heap:=h2,toks:=t2}⟩ _ _ _ hr' htop ⟨S,fun ω=>[],hA,Step.refl _ _ _ _ _⟩ ⟨fun s' Γ' h=>?_,fun s' Γ' h=>?_,fun s' Γ' h=>?_,fun v s' pv' Γ' h hret=>?_,fun v s' ys Γ' h hret=>?_⟩
  ·rcases hP _ h with⟨_,h⟩|⟨_,h⟩<;>cases h
  ·rcases hP _ h with⟨_,h⟩|⟨_,h⟩<;>cases h
  ·rcases hP _ h with⟨_,h⟩|⟨_,h⟩<;>cases h
  ·obtain⟨S',fp',hA',hst,rd⟩:=hret
   have hks:=keep hst
   obtain⟨h3,t3,e⟩:=hst.same
   subst e
   refine hR v h3 t3 pv' h hks (rd.mono (fun a ha=>?_) fun ω ω ω e=>e)
   rcases hst.newS a ha with h|⟨_,h⟩|h
   ·exact .inl h
   ·exact nomatch h
   ·exact .inr (fresh a h)
  ·obtain⟨S',fp',a,us,n,hA',hst,rfl,ha,hlo,hoa,ra⟩:=hret
   have hks:=keep hst
   obtain⟨h3,t3,e⟩:=hst.same
   subst e
   exact hR2 a us n h3 t3 ys h hks (fresh a ha) hlo hoa ra
theorem FnR.mth{C:Cx}{fa:Addr}{St:SState}{P:AFlow->Prop}(h:FnR C fa [.srt St] P)(hi:∀pv,P (.ret pv)->pv.imm=true):Mth C fa St [] (fun St' pv=>St'=St∧(P (.ret pv)∨∃ys,pv= .list ys∧P (.retN ys))):=fun A S s vs R hr cx B fx hS hs hfp rv hR=>by
 cases rv
 refine h A (fun b=>b∈St.fp St.loc) s [.ref St.loc] R hr cx B fx (fun a ha=>⟨hs.there a ha,(hfp a ha).1⟩) (.cons (.srt (fun b hb=>hb) hs) .nil) (fun v h' t' pv hp hk rd=>?_) fun a us n h' t' ys hp hk ha hlo hoa ra=>?_
 ·exact hR v h' t' St pv ⟨rfl,.inl hp⟩ (Grows.refl _) (hs.mono fun b hb o e=>hk.keep b o (hfp b hb).1 e) hk.b (fun b hb=>.inl hb) (Rd.imm (hi pv hp) rd)
 ·refine hR _ h' t' St (.list ys) ⟨rfl,.inr ⟨ys,rfl,hp⟩⟩ (Grows.refl _) (hs.mono fun b hb o e=>hk.keep b o (hfp b hb).1 e) hk.b (fun b hb=>.inl hb) (.list ⟨.inr ha,fun hm=>?_⟩ hoa (ra.mono (fun ω h=>h.elim) fun ω ω ω e=>e))
  have:=hs.there a hm;rw[ha]at this;cases this
noncomputable abbrev Fr1:=SNode×Nat
noncomputable def fkeys(fs:List Fr1):List Key:=fs.map (·.1.key)
noncomputable def fdict(fs:List Fr1):List (Key×PV):=(fkeys fs).zipIdx.map fun p=>(p.1,PV.int p.2)
noncomputable def fits(fs:List Fr1):List PV:=fs.map fun f=>PV.nxt (some (f.1.lst,f.2))
theorem fkeys_snoc(fs:List Fr1)(f:Fr1):fkeys (fs++[f])=fkeys fs++[f.1.key]:=by simp[fkeys]
theorem fdict_snoc(fs:List Fr1)(f:Fr1):fdict (fs++[f])=fdict fs++[(f.1.key,.int fs.length)]:=by
 unfold fdict
 rw[fkeys_snoc,List.zipIdx_append,List.map_append]
 simp[fkeys]
theorem fits_snoc(fs:List Fr1)(f:Fr1):fits (fs++[f])=fits fs++[PV.nxt (some (f.1.lst,f.2))]:=by simp[fits]
theorem fdict_keys(fs:List Fr1):(fdict fs).map (·.1)=fkeys fs:=by
 unfold fdict
 rw[List.map_map]
 show((fkeys fs).zipIdx.map fun p=>p.1)=_
 exact List.zipIdx_map_fst 0 (fkeys fs)
theorem fdict_pop(fs:List Fr1)(f:Fr1)(h:f.1.key∉fkeys fs):(fdict (fs++[f])).filter (fun p=>decide (p.1≠f.1.key))=fdict fs:=by
 rw[fdict_snoc,List.filter_append]
 have h1:(fdict fs).filter (fun p=>decide (p.1≠f.1.key))=fdict fs:=by
  rw[List.filter_eq_self]
  intro p hp
  have:p.1∈fkeys fs:=by rw[←fdict_keys];exact List.mem_map_of_mem hp
  simp only[decide_eq_true_eq]
  rintro e;exact h (e▸this)
 rw[h1];simp
theorem kvGet_isSome{kvs:List (Key×PV)}{k:Key}:(kvGet kvs k).isSome=decide (k∈kvs.map (·.1)):=by
 unfold kvGet
 rw[Option.isSome_map,Bool.eq_iff_iff]
 simp only[List.find?_isSome,decide_eq_true_eq,List.mem_map]
theorem fdict_get{fs:List Fr1}{k:Key}(h:k∈fkeys fs):∃j:Nat,kvGet (fdict fs) k=some (.int j)∧(fkeys fs)[j]?=some k:=by
 have hs:(kvGet (fdict fs) k).isSome=true:=by rw[kvGet_isSome,fdict_keys];simpa using h
 unfold kvGet at hs⊢
 cases hq:(fdict fs).find? fun kv=>decide (kv.1=k)with
 |none=>rw[hq]at hs;cases hs
 |some p=>
  have h1:=List.mem_of_find?_eq_some hq
  have h2:=List.find?_some hq
  simp only[decide_eq_true_eq]at h2
  unfold fdict at h1
  obtain⟨q,hq1,rfl⟩:=List.mem_map.mp h1
  refine⟨q.2,rfl,?_⟩
  have:=List.mem_zipIdx' hq1
  simp only at h2
  rw[←h2,this.2]
  exact List.getElem?_eq_getElem this.1
noncomputable def SState.succ(X:SState)(k:Key):List Key:=match X.find k with|some nd=>nd.succ|none=>[]
noncomputable def TopoFin(X:SState)(fin:List Key):Prop:=∀a k b,fin=a++k::b->∀s∈X.succ k,s∈a
theorem TopoFin.snoc{X:SState}{fin:List Key}{k:Key}(h:TopoFin X fin)(hk:∀s∈X.succ k,s∈fin):TopoFin X (fin++[k]):=by
 intro a j b e s hs
 rcases List.eq_nil_or_concat b with rfl|⟨b',x,rfl⟩
 ·have:=List.append_inj' (s₁:=fin) (t₁:=[k]) (s₂:=a) (t₂:=[j]) e rfl
  obtain⟨rfl,h2⟩:=this
  cases h2
  exact hk s hs
 ·have e':fin++[k]=(a++j::b')++[x]:=by rw[e];simp
  have:=List.append_inj' e' rfl
  exact h a j b' this.1 s hs
noncomputable def IsRing(X:SState)(r:List Key):Prop:=∃k mid,r=k::mid++[k]∧(k::mid).Nodup∧(∀i a b,r[i]?=some a->r[i+1]?=some b->b∈X.succ a)∧∀x∈r,(X.find x).isSome=true
noncomputable def Links:List Fr1->Key->Prop
 |[],_=>True
 |[f],k=>1≤f.2∧f.1.succ[f.2 - 1]?=some k
 |f::g::r,k=>(1≤f.2∧f.1.succ[f.2 - 1]?=some g.1.key)∧Links (g::r) k
theorem Links.snoc:∀ {fs:List Fr1} {f:Fr1} {k:Key},Links (fs++[f]) k↔Links fs f.1.key∧1≤f.2∧f.1.succ[f.2 - 1]?=some k
 |[],f,k=>by simp[Links]
 |[g],f,k=>by simp[Links]
 |g::h::r,f,k=>by
  have ih:=Links.snoc (fs:=h::r) (f:=f) (k:=k)
  simp only[List.cons_append]at ih⊢
  simp only[Links]
  rw[ih]
  simp only[and_assoc]
theorem Links.drop:∀ {fs:List Fr1} {k:Key} (j:Nat),Links fs k->Links (fs.drop j) k
 |fs,k,0,h=>h
 |[],k,j+1,h=>by simpa using h
 |[f],k,j+1,h=>by simp[Links]
 |f::g::r,k,j+1,h=>by
  simp only[List.drop_succ_cons]
  exact Links.drop j h.2
theorem Links.step:∀ {fs:List Fr1} {k:Key},Links fs k->∀i (f:Fr1) b,fs[i]?=some f->(fkeys fs++[k])[i+1]?=some b->b∈f.1.succ
 |[],k,h,i,f,b,h1,_=>by simp at h1
 |[g],k,h,0,f,b,h1,h2=>by
  simp[fkeys]at h1 h2;subst h1;subst h2
  exact List.mem_of_getElem? h.2
 |[g],k,h,i+1,f,b,h1,h2=>by simp at h1
 |g::e::r,k,h,0,f,b,h1,h2=>by
  simp[fkeys]at h1 h2;subst h1;subst h2
  exact List.mem_of_getElem? h.1.2
 |g::e::r,k,h,i+1,f,b,h1,h2=>by
  simp only[List.getElem?_cons_succ]at h1
  have h2':(fkeys (e::r)++[k])[i+1]?=some b:=by simpa [fkeys]using h2
  exact Links.step h.2 i f b h1 h2'
structure Srch(X:SState)(fs:List Fr1)(seen fin:List Key):Prop where
 mem:∀f∈fs,f.1∈X.nodes
 nd:(fkeys fs).Nodup
 sn:seen.Nodup
 seen_:∀k,k∈seen↔k∈fin∨k∈fkeys fs
 disj:∀k∈fin,k∉fkeys fs
 topo:TopoFin X fin
 known:∀k∈seen,(X.find k).isSome=true
theorem find_self{X:SState}(u:∀y∈X.nodes,∀z∈X.nodes,y.key=z.key->y=z){nd:SNode}(h:nd∈X.nodes):X.find nd.key=some nd:=by
 cases hq:X.find nd.key with
 |none=>
  unfold SState.find at hq
  rw[List.find?_eq_none]at hq
  exact absurd (by simp) (hq nd h)
 |some e=>
  obtain⟨h1,h2⟩:=find_key hq
  rw[u e h1 nd h h2]
theorem succ_self{X:SState}(u:∀y∈X.nodes,∀z∈X.nodes,y.key=z.key->y=z){nd:SNode}(h:nd∈X.nodes):X.succ nd.key=nd.succ:=by
 unfold SState.succ;rw[find_self u h]
noncomputable def weight(X:SState)(fs:List Fr1)(seen:List Key):Nat:=((X.nodes.filter fun nd=>decide (nd.key∉seen)).map fun nd=>nd.succ.length+1).sum+(fs.map fun f=>f.1.succ.length - f.2).sum
theorem weight_snoc(X:SState)(fs:List Fr1)(f:Fr1)(seen:List Key):weight X (fs++[f]) seen=weight X fs seen+(f.1.succ.length - f.2):=by
 unfold weight
 simp only[List.map_append,List.map_cons,List.map_nil,List.sum_append,List.sum_cons,List.sum_nil]
 omega
theorem filter_seen{X:SState}(u:∀y∈X.nodes,∀z∈X.nodes,y.key=z.key->y=z)(hnd:X.nodes.Nodup){nd:SNode}(h:nd∈X.nodes){seen:List Key}(hs:nd.key∉seen):
  ((X.nodes.filter fun x=>decide (x.key∉seen)).map fun x=>x.succ.length+1).sum=((X.nodes.filter fun x=>decide (x.key∉seen++[nd.key])).map fun x=>x.succ.length+1).sum+(nd.succ.length+1):=by
 have key:∀ (l:List SNode),(∀x∈l,x∈X.nodes)->l.Nodup->nd∈l->((l.filter fun x=>decide (x.key∉seen)).map fun x=>x.succ.length+1).sum=((l.filter fun x=>decide (x.key∉seen++[nd.key])).map fun x=>x.succ.length+1).sum+(nd.succ.length+1):=by
  intro l
  induction l with
  |nil=>intro _ _ h;cases h
  |cons x r ih=>
   intro hl hn hm
   have hn':=List.nodup_cons.mp hn
   by_cases hx:x=nd
   ·subst hx
    have hr:∀y∈r,y.key≠x.key:=fun y hy e=>hn'.1 (u y (hl y (List.mem_cons_of_mem _ hy)) x (hl x List.mem_cons_self) e▸hy)
    have e1:r.filter (fun y=>decide (y.key∉seen++[x.key]))=r.filter (fun y=>decide (y.key∉seen)):=by
     apply List.filter_congr
     intro y hy
     have:=hr y hy
     simp[this]
    rw[List.filter_cons,List.filter_cons,e1]
    simp[hs]
    omega
   ·have hm':nd∈r:=by
     rcases List.mem_cons.mp hm with h|h
     ·exact absurd h.symm hx
     ·exact h
    have hxk:x.key≠nd.key:=fun e=>hx (u x (hl x List.mem_cons_self) nd h e)
    have ih':=ih (fun y hy=>hl y (List.mem_cons_of_mem _ hy)) hn'.2 hm'
    rw[List.filter_cons,List.filter_cons]
    by_cases hxs:x.key∈seen
    ·have h1:decide (x.key∉seen)=false:=by simpa using hxs
     have h2:decide (x.key∉seen++[nd.key])=false:=by simp[hxs]
     rw[h1,h2];exact ih'
    ·have h1:decide (x.key∉seen)=true:=by simpa using hxs
     have h2:decide (x.key∉seen++[nd.key])=true:=by simp[hxs,hxk]
     rw[h1,h2]
     simp only[if_true,List.map_cons,List.sum_cons]
     omega
 exact key X.nodes (fun ω h=>h) hnd h
noncomputable def fcG(X:SState)(fs:List Fr1)(seen:List Key):SGam:=
 [("self",some (0,.srt X)),("n2i",some (0,.raw (.ref X.n2))),("stack",some (1,.list (Key.pvs (fkeys fs)))),("itstack",some (2,.list (fits fs))),("seen",some (1,.set seen)),("node2stacki",some (1,.dict (fdict fs)))]
noncomputable def fcGn(X:SState)(fs:List Fr1)(seen:List Key)(node:Key):SGam:=("node",some (0,node.pv))::fcG X fs seen
structure InS(X:SState)(fs:List Fr1)(seen fin:List Key):Prop where
 s:Srch X fs seen fin
 top:∀f,fs.getLast?=some f->Links (fs.dropLast) f.1.key∧∀j a,j<f.2->f.1.succ[j]?=some a->a∈fin
 low:∀f∈fs.dropLast,∀j a,j+1<f.2->f.1.succ[j]?=some a->a∈fin
structure OutS(X:SState)(fs:List Fr1)(seen fin:List Key)(node:Key):Prop where
 s:Srch X fs seen fin
 links:Links fs node
 low:∀f∈fs,∀j a,j+1<f.2->f.1.succ[j]?=some a->a∈fin
 there:(X.find node).isSome=true
section
variable{X:SState}{fs:List Fr1}{seen fin:List Key}{node:Key}
theorem InS.next(u:∀y∈X.nodes,∀z∈X.nodes,y.key=z.key->y=z)(hcl:∀nd∈X.nodes,∀s∈nd.succ,(X.find s).isSome=true){f:Fr1}(h:InS X (fs++[f]) seen fin)(hk:f.1.succ[f.2]?=some node):OutS X (fs++[(f.1,f.2+1)]) seen fin node:=by
 have hk':fkeys (fs++[(f.1,f.2+1)])=fkeys (fs++[f]):=by simp[fkeys]
 have ht:=h.top f (by simp)
 rw[List.dropLast_concat]at ht
 refine⟨⟨fun g hg=>?_,by rw[hk'];exact h.s.nd,h.s.sn,fun k=>by rw[hk'];exact h.s.seen_ k,fun k hkf=>by rw[hk'];exact h.s.disj k hkf,h.s.topo,h.s.known⟩,?_,fun g hg j a hj ha=>?_,?_⟩
 ·rcases List.mem_append.mp hg with hg|hg
  ·exact h.s.mem g (List.mem_append_left _ hg)
  ·rw[List.mem_singleton.mp hg];exact h.s.mem f (by simp)
 ·rw[Links.snoc];exact⟨ht.1,by simp,by simpa using hk⟩
 ·rcases List.mem_append.mp hg with hg|hg
  ·exact h.low g (by rw[List.dropLast_concat];exact hg) j a hj ha
  ·rw[List.mem_singleton.mp hg]at hj ha
   exact ht.2 j a (by simpa using hj) ha
 ·exact hcl f.1 (h.s.mem f (by simp)) node (List.mem_of_getElem? hk)
theorem InS.pop(u:∀y∈X.nodes,∀z∈X.nodes,y.key=z.key->y=z){f:Fr1}(h:InS X (fs++[f]) seen fin)(hk:f.1.succ[f.2]?=none):InS X fs seen (fin++[f.1.key]):=by
 have ht:=h.top f (by simp)
 rw[List.dropLast_concat]at ht
 have hlow:=h.low
 rw[List.dropLast_concat]at hlow
 have hall:∀s∈f.1.succ,s∈fin:=fun s hs=>by
  obtain⟨j,hj,e⟩:=List.getElem_of_mem hs
  rw[List.getElem?_eq_none_iff]at hk
  exact ht.2 j s (by omega) (by rw[List.getElem?_eq_getElem hj,e])
 have hnd:=h.s.nd
 rw[fkeys_snoc,List.nodup_append]at hnd
 refine⟨⟨fun g hg=>h.s.mem g (List.mem_append_left _ hg),hnd.1,h.s.sn,fun k=>?_,fun k hkf=>?_,?_,h.s.known⟩,fun g hg=>?_,fun g hg j a hj ha=>?_⟩
 ·rw[h.s.seen_ k,fkeys_snoc]
  simp only[List.mem_append,List.mem_singleton]
  constructor
  ·rintro(a|a|a)
   ·exact .inl (.inl a)
   ·exact .inr a
   ·exact .inl (.inr a)
  ·rintro((a|a)|a)
   ·exact .inl a
   ·exact .inr (.inr a)
   ·exact .inr (.inl a)
 ·rcases List.mem_append.mp hkf with a|a
  ·have:=h.s.disj k a
   rw[fkeys_snoc]at this
   exact fun hm=>this (List.mem_append_left _ hm)
  ·rw[List.mem_singleton.mp a]
   exact fun hm=>hnd.2.2 _ hm _ (by simp) rfl
 ·exact h.s.topo.snoc (by rw[succ_self u (h.s.mem f (by simp))];exact hall)
 ·obtain⟨fs',rfl⟩:∃fs',fs=fs'++[g]:=by
   rcases List.eq_nil_or_concat fs with rfl|⟨fs',x,rfl⟩
   ·simp at hg
   ·simp at hg;subst hg;exact⟨fs',by simp⟩
  rw[Links.snoc]at ht
  rw[List.dropLast_concat]
  refine⟨ht.1.1,fun j a hj ha=>?_⟩
  rcases Nat.lt_or_ge (j+1) g.2 with hlt|hge
  ·exact List.mem_append_left _ (hlow g (by simp) j a hlt ha)
  ·have:j=g.2 - 1:=by omega
   rw[this,ht.1.2.2]at ha
   cases ha
   exact List.mem_append_right _ (List.mem_singleton.mpr rfl)
 ·have hg':g∈fs:=List.dropLast_subset _ hg
  exact List.mem_append_left _ (hlow g hg' j a hj ha)
theorem OutS.inFin(h:OutS X fs seen fin node)(hf:node∈fin):InS X fs seen fin:=by
 refine⟨h.s,fun f hf'=>?_,fun g hg=>h.low g (List.dropLast_subset _ hg)⟩
 obtain⟨fs',rfl⟩:∃fs',fs=fs'++[f]:=by
  rcases List.eq_nil_or_concat fs with rfl|⟨fs',x,rfl⟩
  ·simp at hf'
  ·simp at hf';subst hf';exact⟨fs',by simp⟩
 have hl:=h.links
 rw[Links.snoc]at hl
 rw[List.dropLast_concat]
 refine⟨hl.1,fun j a hj ha=>?_⟩
 rcases Nat.lt_or_ge (j+1) f.2 with hlt|hge
 ·exact h.low f (by simp) j a hlt ha
 ·have:j=f.2 - 1:=by omega
  rw[this,hl.2.2]at ha
  cases ha;exact hf
theorem OutS.push(u:∀y∈X.nodes,∀z∈X.nodes,y.key=z.key->y=z){nd:SNode}(h:OutS X fs seen fin node)(hs:node∉seen)(hn:X.find node=some nd):InS X (fs++[(nd,0)]) (seen++[node]) fin:=by
 obtain⟨hm,hk⟩:=find_key hn
 have hns:node∉fin∧node∉fkeys fs:=by
  rw[h.s.seen_]at hs
  exact⟨fun a=>hs (.inl a),fun a=>hs (.inr a)⟩
 refine⟨⟨fun g hg=>?_,?_,?_,fun k=>?_,fun k hkf=>?_,h.s.topo,fun k hkf=>?_⟩,fun g hg=>?_,fun g hg=>?_⟩
 ·rcases List.mem_append.mp hg with hg|hg
  ·exact h.s.mem g hg
  ·rw[List.mem_singleton.mp hg];exact hm
 ·rw[fkeys_snoc,List.nodup_append]
  refine⟨h.s.nd,by simp,fun a ha b hb e=>?_⟩
  rw[List.mem_singleton.mp hb]at e
  exact hns.2 (by rw[←hk,←e];exact ha)
 ·rw[List.nodup_append]
  exact⟨h.s.sn,by simp,fun a ha b hb e=>hs (by rw[List.mem_singleton.mp hb]at e;exact e▸ha)⟩
 ·rw[fkeys_snoc,List.mem_append,h.s.seen_ k]
  simp only[List.mem_append,List.mem_singleton,hk,or_assoc]
 ·rw[fkeys_snoc,List.mem_append]
  rintro(a|a)
  ·exact h.s.disj k hkf a
  ·rw[List.mem_singleton.mp a,hk]at hkf;exact hns.1 hkf
 ·rcases List.mem_append.mp hkf with a|a
  ·exact h.s.known k a
  ·rw[List.mem_singleton.mp a];exact h.there
 ·simp at hg;subst hg
  rw[List.dropLast_concat]
  exact⟨hk▸h.links,fun j a hj=>absurd hj (Nat.not_lt_zero _)⟩
 ·rw[List.dropLast_concat]at hg;exact h.low g hg
theorem OutS.ring(u:∀y∈X.nodes,∀z∈X.nodes,y.key=z.key->y=z)(h:OutS X fs seen fin node){j:Nat}(hj:(fkeys fs)[j]?=some node):IsRing X ((fkeys fs).drop j++[node]):=by
 have hlt:j<(fkeys fs).length:=(List.getElem?_eq_some_iff.mp hj).1
 have e0:(fkeys fs).drop j=node::(fkeys fs).drop (j+1):=by
  rw[List.drop_eq_getElem_cons hlt]
  congr 1
  rw[List.getElem?_eq_getElem hlt]at hj
  exact Option.some.inj hj
 have e1:(fkeys fs).drop j=fkeys (fs.drop j):=by simp[fkeys]
 refine⟨node,(fkeys fs).drop (j+1),by rw[e0],by rw[←e0];exact h.s.nd.sublist (List.drop_sublist _ _),fun i a b ha hb=>?_,fun x hx=>?_⟩
 ·rw[e1]at ha hb
  have hl:=Links.drop j h.links
  have hi:i<(fkeys (fs.drop j)).length:=by
   have:=(List.getElem?_eq_some_iff.mp hb).1
   simp only[List.length_append,List.length_singleton]at this
   omega
  rw[List.getElem?_append_left hi]at ha
  unfold fkeys at ha
  rw[List.getElem?_map]at ha
  cases hf:(fs.drop j)[i]? with
  |none=>rw[hf]at ha;cases ha
  |some f=>
   rw[hf]at ha
   have ha':f.1.key=a:=Option.some.inj ha
   have:=Links.step hl i f b hf hb
   rw[←ha',succ_self u (h.s.mem f (List.mem_of_mem_drop (List.mem_of_getElem? hf)))]
   exact this
 ·rcases List.mem_append.mp hx with hx|hx
  ·exact h.s.known x ((h.s.seen_ x).mpr (.inr (List.mem_of_mem_drop hx)))
  ·rw[List.mem_singleton.mp hx];exact h.there
end
noncomputable def RingOr(X:SState)(fl:AFlow):Prop:=(fl= .ret .none∧∃fin,TopoFin X fin∧∀nd∈X.nodes,nd.key∈fin)∨∃r,fl= .retN (Key.pvs r)∧IsRing X r
theorem pvs_app(a b:List Key):Key.pvs (a++b)=Key.pvs a++Key.pvs b:=by simp[Key.pvs]
theorem fits_len(fs:List Fr1):(fits fs).length=fs.length:=by simp[fits]
theorem fkeys_len(fs:List Fr1):(fkeys fs).length=fs.length:=by simp[fkeys]
theorem fdict_len(fs:List Fr1):(fdict fs).length=fs.length:=by simp[fdict,fkeys]
theorem nodup_len_le{α:Type}[DecidableEq α]:∀ (l m:List α),l.Nodup->(∀x∈l,x∈m)->l.length≤m.length
 |[],m,_,_=>Nat.zero_le _
 |x::l,m,hn,hs=>by
  have hn':=List.nodup_cons.mp hn
  have hx:=hs x List.mem_cons_self
  have ih:=nodup_len_le l (m.erase x) hn'.2 fun y hy=>by
   have hne:y≠x:=fun e=>hn'.1 (e▸hy)
   exact(List.mem_erase_of_ne hne).mpr (hs y (List.mem_cons_of_mem _ hy))
  have hl:=List.length_erase_of_mem hx
  have hp:0<m.length:=List.length_pos_of_mem hx
  rw[List.length_cons];omega
theorem Srch.le{X:SState}{fs:List Fr1}{seen fin:List Key}(h:Srch X fs seen fin):fs.length≤X.nodes.length∧seen.length≤X.nodes.length:=by
 have sub:∀l:List Key,l.Nodup->(∀k∈l,k∈X.nodes.map SNode.key)->l.length≤X.nodes.length:=fun l hn hs=>by
  have:=nodup_len_le l (X.nodes.map SNode.key) hn hs
  simpa using this
 refine⟨?_,sub _ h.sn fun k hk=>?_⟩
 ·have:=sub _ h.nd fun k hk=>by
   obtain⟨f,hf,rfl⟩:=List.mem_map.mp hk
   exact List.mem_map_of_mem (h.mem f hf)
  rwa[fkeys_len]at this
 ·have:=h.known k hk
  obtain⟨nd,hnd⟩:=Option.isSome_iff_exists.mp this
  obtain⟨h1,h2⟩:=find_key hnd
  rw[←h2];exact List.mem_map_of_mem h1
noncomputable def sub1:Stmt->List Stmt
 | .For _ _ b _ _=>b
 | .While _ b _ _=>b
 | .If _ b _ _=>b
 |_=>[]
noncomputable def fcInner:Stmt:=nthS (sub1 (nthS (sub1 (nthS (fbody (tsS 8)) 5)) 1)) 1
section
variable{C:Cx}
theorem fc_inner(T:TopK C)(hN:C.hd=false)(X:SState)(hsz:X.nodes.length≤3000)(hcl:∀nd∈X.nodes,∀s∈nd.succ,(X.find s).isSome=true)(u:∀y∈X.nodes,∀z∈X.nodes,y.key=z.key->y=z)
  {env:Env} (K:KOk env (fnames (tsS 8))) (hi:interactive env=false) (W:AFlow->SGam->Prop) (seen:List Key):
  ∀ (fs:List Fr1) (fin:List Key) (Γ:SGam),InS X fs seen fin->Sle (fcG X fs seen) Γ->
   (hW1:∀Γ' fs2 fin2 node2,OutS X fs2 seen fin2 node2->weight X fs2 seen<weight X fs seen->Sle (fcGn X fs2 seen node2) Γ'->W .next Γ')->
   (hW2:∀Γ' fin2,Srch X [] seen fin2->Sle (fcG X [] seen) Γ'->W .brk Γ')->Blk C env Γ [fcInner] W:=fun fs fin Γ hI hsle hW1 hW2=>by
 have v1:∀x,(fnames (tsS 8)).lookup x=some .local->isVar (env.kindOf x)=true:=fun x hx=>K.var x (by rw[hx];rfl)
 have v2:∀x,(fnames (tsS 8)).lookup x=some .local->(env.kindOf x=some .local∨env.kindOf x=some .cell):=fun x hx=>K.loc x (.inl hx)
 have hlim:(3000:Nat)+1≤lim:=by decide
 refine Blk.weak (Γ':=fcG X fs seen) ?_ hsle
 refine Blk.while (C:=C) (fun n Γi=>∃fs1 fin1,InS X fs1 seen fin1∧weight X fs1 seen≤weight X fs seen∧Sle (fcG X fs1 seen) Γi∧n=fs1.length) fs.length ⟨fs,fin,hI,Nat.le_refl _,.refl _,rfl⟩ fun n Γi hJ=>?_
 obtain⟨fs1,fin1,h1,hw,hsle1,rfl⟩:=hJ
 obtain⟨hl1,_⟩:=h1.s.le
 refine⟨!(Key.pvs (fkeys fs1)).isEmpty,EvB.list (md:=false) (Ev.name (hsle1.look rfl) (v1 "stack" rfl)) (by rw[pvs_len,fkeys_len];omega),fun hb=>?_,fun hb=>?_⟩
 ·rcases List.eq_nil_or_concat fs1 with rfl|⟨fs2,f,e⟩
  ·simp[fkeys,Key.pvs]at hb
  ·rw[List.concat_eq_append]at e
   subst e
   refine Blk.weak (Γ':=fcG X (fs2++[f]) seen) ?_ hsle1
   have hm:f.1∈X.nodes:=h1.s.mem f (by simp)
   have hl2:fs2.length+1≤X.nodes.length:=by simpa using hl1
   refine Blk.tryNext (C:=C) (sv:=sf) (xs:="itstack") (y:="node") (n:=0) (ps:=fits fs2) (i:=f.2) (X:=X) (nd:=f.1) hN (by rw[←fits_snoc];rfl) rfl hm (Ev.neg (m1:=true) Ev.int) (by rw[fits_len];omega) (v2 "node" rfl) (K.glb _ rfl) (T.none (x:="StopIteration") (by decide)) (by decide +kernel) (fun k hk=>?_) (fun hk=>?_)
   ·refine Blk.nil ?_
    have hO:=h1.next u hcl hk
    have hlt:f.2<f.1.succ.length:=(List.getElem?_eq_some_iff.mp hk).1
    refine hW1 _ (fs2++[(f.1,f.2+1)]) fin1 k hO ?_ ?_
    ·rw[weight_snoc]at hw⊢
     simp only
     omega
    ·refine .cons rfl (.cons rfl (.cons rfl (.cons ?_ (.cons ?_ (.cons rfl (.cons ?_ .nil))))))
     ·show some (some (1,PV.list (Key.pvs (fkeys (fs2++[f])))))=_
      simp[fkeys]
     ·rw[fits_snoc];rfl
     ·show some (some (1,PV.dict (fdict (fs2++[f]))))=_
      have:fkeys (fs2++[f])=fkeys (fs2++[(f.1,f.2+1)]):=by simp[fkeys]
      unfold fdict;rw[this]
   ·have hP:=h1.pop u hk
    have hnd:f.1.key∉fkeys fs2:=by
     have:=h1.s.nd
     rw[fkeys_snoc,List.nodup_append]at this
     exact fun hm=>this.2.2 _ hm _ (by simp) rfl
    refine Blk.delpop (C:=C.hot) (d:="node2stacki") (x:="stack") (ys:=Key.pvs (fkeys fs2)) (key:=f.1.key) (kvs:=fdict (fs2++[f])) rfl (by rw[look_ne (by decide)];show some (some (1,PV.list (Key.pvs (fkeys (fs2++[f])))))=_;rw[fkeys_snoc,pvs_app];rfl) (by decide) (by rw[pvs_len,fkeys_len];omega) (by rw[fdict_len];simp;omega) (by rw[kvGet_isSome,fdict_keys,fkeys_snoc];simp) ?_
    rw[fdict_pop fs2 f hnd]
    refine Blk.pop (C:=C.hot) (x:="itstack") (n:=1) (ys:=fits fs2) (y:=.nxt none) (by rw[look_ne (by decide),look_ne (by decide)];rfl) (by rw[fits_len];omega) hi ?_
    refine Blk.nil ⟨rfl,Blk.nil ⟨fs2.length,by simp,fs2,_,hP,?_,.cons rfl (.cons rfl (.cons rfl (.cons rfl (.cons rfl (.cons rfl .nil))))),rfl⟩⟩
    rw[weight_snoc]at hw
    omega
 ·have:fs1=[]:=by
   cases fs1 with
   |nil=>rfl
   |cons f r=>simp[fkeys,Key.pvs]at hb
  subst this
  exact Blk.brk (hW2 _ fin1 h1.s hsle1)
theorem find_cycle(T:TopK C)(hN:C.hd=false)(X:SState)(hsz:X.nodes.length≤3000)(hlo:mainGlobals<X.n2)(hcl:∀nd∈X.nodes,∀s∈nd.succ,(X.find s).isSome=true)(u:∀y∈X.nodes,∀z∈X.nodes,y.key=z.key->y=z)(hndp:X.nodes.Nodup):
  FnR C 127 [.srt X] (RingOr X):=by
 refine FnR.ofB (C:=C) T.f127 [sf] rfl (by decide) (fun x hx=>?_) (fun fd vs h1 h2 h3 h4=>?_) (fun fl h=>?_) fun env K hi=>?_
 ·simp only[List.mem_cons,List.not_mem_nil,or_false]at hx
  subst hx;exact .inl rfl
 ·obtain⟨u,rfl⟩:=len_one h4
  unfold bindArgs;rw[h1,h2];rfl
 ·rcases h with⟨h,_⟩|⟨r,h,_⟩
  ·exact .inl ⟨_,h⟩
  ·exact .inr ⟨_,h⟩
 have v1:∀x,(fnames (tsS 8)).lookup x=some .local->isVar (env.kindOf x)=true:=fun x hx=>K.var x (by rw[hx];rfl)
 have v2:∀x,(fnames (tsS 8)).lookup x=some .local->(env.kindOf x=some .local∨env.kindOf x=some .cell):=fun x hx=>K.loc x (.inl hx)
 have hlim:(3000:Nat)+1≤lim:=by decide
 refine Blk.assign (n:=0) (pv:=.raw (.ref X.n2)) (EvK.of_ev (Ev.imm (Ev.self_ (C:=C) (i:=0) (St:=X) (md:=true) T.sk (Ev.name rfl (v1 sf rfl)) rfl) rfl)) (v2 "n2i" rfl) ?_
 refine Blk.assign (n:=1) (pv:=.list []) EvK.nil (v2 "stack" rfl) ?_
 refine Blk.assign (n:=2) (pv:=.list []) EvK.nil (v2 "itstack" rfl) ?_
 refine Blk.assign (n:=1) (pv:=.set []) (EvK.set0 (Ev.builtin (v:=.type "set") (K.glb _ rfl) (T.none (x:="set") (by decide)) (by decide +kernel))) (v2 "seen" rfl) ?_
 refine Blk.assign (n:=1) (pv:=.dict []) EvK.dict0 (v2 "node2stacki" rfl) ?_
 refine Blk.weak (Γ':=fcG X [] []) ?_ (.cons rfl (.cons rfl (.cons rfl (.cons rfl (.cons rfl (.cons rfl .nil))))))
 refine Blk.forT (C:=C) (L:=X.nodes.map SNode.key) (g:=Key.pv) (EvI.n2keys (C:=C) (X:=X) (x:=sf) (md:=true) (m2:=true) rfl (v1 sf rfl) hlo (Ev.name rfl (v1 "n2i" rfl)) (by omega))
  (fun i Γi=>∃seen fin,Srch X [] seen fin∧(∀j nd,j<i->X.nodes[j]?=some nd->nd.key∈seen)∧Sle (fcG X [] seen) Γi)
  (fun k Γi=>("node",some (0,k.pv))::Γi) ⟨[],[],⟨(fun ω h=>nomatch h),List.nodup_nil,List.nodup_nil,(fun k=>by simp[fkeys]),(fun ω h=>nomatch h),(fun a k b e=>by simp at e),(fun ω h=>nomatch h)⟩,(fun j nd h=>absurd h (Nat.not_lt_zero _)),.refl _⟩
  (fun k Γi ω=>AsgO.name (v2 "node" rfl)) (fun i k0 Γi hk0 hinv=>?_) fun Γ' hinv=>?_
 ·obtain⟨seen,fin,hS,hdone,hsle⟩:=hinv
  have hk0':∃nd0,X.nodes[i]?=some nd0∧nd0.key=k0:=by
   rw[List.getElem?_map]at hk0
   cases hq:X.nodes[i]? with
   |none=>rw[hq]at hk0;cases hk0
   |some nd0=>rw[hq]at hk0;exact⟨nd0,rfl,Option.some.inj hk0⟩
  obtain⟨nd0,hnd0,rfl⟩:=hk0'
  have hm0:nd0∈X.nodes:=List.mem_of_getElem? hnd0
  refine Blk.weak (Γ':=fcGn X [] seen nd0.key) ?_ (sle_cons_mono _ _ hsle)
  refine Blk.ite (b:=decide (nd0.key∈seen)) (EvB.cmp (m1:=true) (m2:=false) (Ev.name rfl (v1 "node" rfl)) (Ev.name rfl (v1 "seen" rfl)) Cop.in_set) ?_
  have next_:∀seen' fin',Srch X [] seen' fin'->(∀k∈seen,k∈seen')->nd0.key∈seen'->∀Γ',Sle (fcG X [] seen') Γ'->∃seen fin,Srch X [] seen fin∧(∀j nd,j<i+1->X.nodes[j]?=some nd->nd.key∈seen)∧Sle (fcG X [] seen) Γ':=fun seen' fin' h1 h2 h3 Γ' h4=>⟨seen',fin',h1,fun j nd hj hnd=>by
   rcases Nat.lt_or_ge j i with hlt|hge
   ·exact h2 _ (hdone j nd hlt hnd)
   ·have:j=i:=by omega
    subst this
    rw[hnd0]at hnd;cases hnd;exact h3,h4⟩
  cases hd:decide (nd0.key∈seen)with
  |true=>
   simp only[if_true]
   refine Blk.cont ?_
   exact next_ seen fin hS (fun ω h=>h) (of_decide_eq_true hd) _ (.cons rfl (.cons rfl (.cons rfl (.cons rfl (.cons rfl (.cons rfl .nil))))))
  |false=>
   have hns:nd0.key∉seen:=of_decide_eq_false hd
   simp only[Bool.false_eq_true,if_false]
   refine Blk.nil ?_
   show Blk C env _ _ _
   refine Blk.while (C:=C) (fun n Γi=>∃fs seen' fin' node,OutS X fs seen' fin' node∧(∀k∈seen,k∈seen')∧(nd0.key∈seen'∨node=nd0.key)∧Sle (fcGn X fs seen' node) Γi∧n=weight X fs seen') (weight X [] seen) ⟨[],seen,fin,nd0.key,⟨hS,trivial,(fun ω h=>nomatch h),by rw[find_self u hm0];rfl⟩,fun ω h=>h,.inr rfl,.refl _,rfl⟩ fun n Γi hI=>?_
   obtain⟨fs,seen',fin',node,hO,hsub,hroot,hsle',rfl⟩:=hI
   refine⟨true,EvB.val (md:=true) Ev.bool,fun ω=>?_,fun h=>nomatch h⟩
   refine Blk.weak (Γ':=fcGn X fs seen' node) ?_ hsle'
   obtain⟨hl1,hl2⟩:=hO.s.le
   refine Blk.ite (b:=decide (node∈seen')) (EvB.cmp (m1:=true) (m2:=false) (Ev.name rfl (v1 "node" rfl)) (Ev.name rfl (v1 "seen" rfl)) Cop.in_set) ?_
   cases hd':decide (node∈seen')with
   |true=>
    have hns':node∈seen':=of_decide_eq_true hd'
    have hroot':nd0.key∈seen':=hroot.elim id fun e=>e▸hns'
    simp only[if_true]
    refine Blk.ite (b:=(kvGet (fdict fs) node).isSome) (EvB.cmp (m1:=true) (m2:=false) (Ev.name rfl (v1 "node" rfl)) (Ev.name rfl (v1 "node2stacki" rfl)) Cop.in_dict) ?_
    rw[kvGet_isSome,fdict_keys]
    by_cases hst:node∈fkeys fs
    ·obtain⟨j,hj1,hj2⟩:=fdict_get hst
     simp only[hst,decide_true,if_true]
     refine Blk.retN (md:=false) (xs:=((Key.pvs (fkeys fs)).drop (j:Int).toNat)++[node.pv]) (EvN.add (md:=false) (EvN.ev (EvN.slice_from (md:=false) (m2:=false) (k:=(j:Int)) (Ev.name rfl (v1 "stack" rfl)) (Ev.item_dict (m2:=true) (k:=node) (Ev.name rfl (v1 "node2stacki" rfl)) (Ev.name rfl (v1 "node" rfl)) hj1) (by omega) (by rw[pvs_len,fkeys_len];omega)))
       (EvN.ev (EvN.list (EvL.cons (Ev.imm (md:=true) (Ev.name rfl (v1 "node" rfl)) (pvs_imm [node] _ (by simp[Key.pvs]))) EvL.nil) (by show 1≤lim;decide))) (by
        rw[List.length_drop,pvs_len,fkeys_len];simp;omega)) (fun x hx=>?_) (.inr ⟨(fkeys fs).drop j++[node],?_,hO.ring u hj2⟩)
     ·rcases List.mem_append.mp hx with h|h
      ·exact pvs_imm _ x (List.mem_of_mem_drop h)
      ·rw[List.mem_singleton.mp h];exact pvs_imm [node] _ (by simp[Key.pvs])
     ·simp[Key.pvs,List.map_drop]
    ·simp only[hst,decide_false,Bool.false_eq_true,if_false]
     have hfin:node∈fin':=by
      rcases(hO.s.seen_ node).mp hns' with h|h
      ·exact h
      ·exact absurd h hst
     refine Blk.nil (Blk.nil ?_)
     refine fc_inner T hN X hsz hcl u K hi _ seen' fs fin' _ (hO.inFin hfin) (.cons rfl (.cons rfl (.cons rfl (.cons rfl (.cons rfl (.cons rfl .nil)))))) (fun Γ' fs2 fin2 node2 h1 h2 h3=>?_) fun Γ' fin2 h1 h2=>?_
     ·exact⟨_,h2,fs2,seen',fin2,node2,h1,hsub,.inl hroot',h3,rfl⟩
     ·exact Blk.nil (next_ seen' fin2 h1 hsub hroot' _ h2)
   |false=>
    have hns':node∉seen':=of_decide_eq_false hd'
    simp only[Bool.false_eq_true,if_false]
    obtain⟨nd,hnd⟩:=Option.isSome_iff_exists.mp hO.there
    obtain⟨hm,hke⟩:=find_key hnd
    have hroot':nd0.key∈seen'++[node]:=by
     rcases hroot with h|h
     ·exact List.mem_append_left _ h
     ·rw[h];simp
    refine Blk.setadd (C:=C) (x:="seen") (n:=0) (ks:=seen') (key:=node) rfl (Ev.name rfl (v1 "node" rfl)) hns' (by omega) hi ?_
    refine Blk.appendK (C:=C) (x:="itstack") (n:=1) (ys:=fits fs) (y:=.nxt (some (nd.lst,0))) rfl (EvK.iterNext (C:=C) (x:=sf) (X:=X) (nd:=nd) (m2:=true) T.sk rfl (v1 sf rfl) hm (Ev.n2_item (C:=C) (x:=sf) (m2:=true) (m3:=true) rfl (v1 sf rfl) (Ev.name rfl (v1 "n2i" rfl)) (Ev.name rfl (v1 "node" rfl)) hnd) (Ev.builtin (v:=.builtin "iter") (K.glb _ rfl) (T.none (x:="iter") (by decide)) (by decide +kernel))) (by rw[fits_len];omega) hi ?_
    refine Blk.dset (C:=C) (x:="node2stacki") (m:=0) (kvs:=fdict fs) (k:=node) (y:=.int (fkeys fs).length) rfl (EvK.of_ev (Ev.call (m1:=false) (Ev.builtin (v:=.builtin "len") (K.glb _ rfl) (T.none (x:="len") (by decide)) (by decide +kernel)) (EvL.cons (Ev.name rfl (v1 "stack" rfl)) EvL.nil) (by
      have:=Built.len_list (C:=C) (env:=env) (Γ:=evG (("itstack",some (2,PV.list (fits fs++[PV.nxt (some (nd.lst,0))])))::("seen",some (1,PV.set (seen'++[node])))::fcGn X fs seen' node)) (m1:=false) (md:=true) (xs:=Key.pvs (fkeys fs)) (by rw[pvs_len,fkeys_len];omega)
      rwa[pvs_len]at this))) (Ev.name rfl (v1 "node" rfl)) (fun kv hkv e=>?_) (by rw[fdict_len];omega) ?_
    ·have:kv.1∈fkeys fs:=by rw[←fdict_keys];exact List.mem_map_of_mem hkv
     exact hns' ((hO.s.seen_ node).mpr (.inr (e▸this)))
    refine Blk.append (C:=C) (x:="stack") (n₀:=1) (ys:=Key.pvs (fkeys fs)) (upd:=id) (y:=node.pv) (EvF.list rfl) (Ev.name rfl (v1 "node" rfl)) (by rw[pvs_len,fkeys_len];omega) hi ?_
    refine Blk.nil ?_
    have hI:=hO.push u hns' hnd
    have hfk:fkeys (fs++[(nd,0)])=fkeys fs++[node]:=by rw[fkeys_snoc];simp[hke]
    refine fc_inner T hN X hsz hcl u K hi _ (seen'++[node]) (fs++[(nd,0)]) fin' _ hI (.cons rfl (.cons rfl (.cons ?_ (.cons ?_ (.cons rfl (.cons ?_ .nil)))))) (fun Γ' fs2 fin2 node2 h1 h2 h3=>?_) fun Γ' fin2 h1 h2=>?_
    ·rw[hfk,pvs_app];rfl
    ·rw[fits_snoc];rfl
    ·rw[fdict_snoc,fkeys_len];simp only[hke];rfl
    ·refine⟨_,?_,fs2,seen'++[node],fin2,node2,h1,(fun k hk=>List.mem_append_left _ (hsub k hk)),.inl hroot',h3,rfl⟩
     have e1:=weight_snoc X fs (nd,0) (seen'++[node])
     have e2:=filter_seen (X:=X) u hndp hm (seen:=seen') (by rw[hke];exact hns')
     rw[hke]at e2
     have e3:weight X fs seen'=weight X fs (seen'++[node])+(nd.succ.length+1):=by unfold weight;omega
     simp only[Nat.sub_zero]at e1
     omega
    ·exact Blk.nil (next_ _ fin2 h1 (fun k hk=>List.mem_append_left _ (hsub k hk)) hroot' _ h2)
 ·obtain⟨seen,fin,hS,hdone,hsle⟩:=hinv
  refine Blk.ret (Ev.nne (md:=true)) (.inl ⟨rfl,fin,hS.topo,fun nd hnd=>?_⟩)
  obtain⟨j,hj,e⟩:=List.getElem_of_mem hnd
  have:=hdone j nd (by simpa using hj) (by rw[List.getElem?_eq_getElem hj,e])
  rcases(hS.seen_ _).mp this with h|h
  ·exact h
  ·simp[fkeys]at h
end
noncomputable def AS.closed(a:AS):Prop:=∀nd∈a.nodes,∀s∈nd.succ,(a.find s).isSome=true
noncomputable def AS.acyc(a:AS):Prop:=∃f:Key->Nat,∀nd∈a.nodes,∀s∈nd.succ,f nd.key<f s
theorem isRing_up{X:SState}{f:Key->Nat}(hf:∀k,∀s∈X.succ k,f k<f s){r:List Key}(h:IsRing X r):False:=by
 obtain⟨k,mid,rfl,_,hs,_⟩:=h
 have key:∀i a,(k::mid++[k])[i]?=some a->f k+i≤f a:=by
  intro i
  induction i with
  |zero=>intro a ha;simp at ha;subst ha;omega
  |succ i ih=>
   intro a ha
   have hlt:i<(k::mid++[k]).length:=by
    have:=(List.getElem?_eq_some_iff.mp ha).1;omega
   have hb:(k::mid++[k])[i]?=some ((k::mid++[k])[i]):=List.getElem?_eq_getElem hlt
   have h1:=ih _ hb
   have h2:=hf _ a (hs i _ a hb ha)
   omega
 have:=key (mid.length+1) k (by simp)
 omega
theorem Mth.lift{C:Cx}{fa:Addr}{St:SState}{xs:List PV}{post:SState->PV->Prop}(h:∀A:Around,∀s:Shared,SorterAt C.prog C.w s.heap St.loc St->Mth C fa St xs post):Mth C fa St xs post:=fun A S s vs R h1 h2 h3 h4 h5 h6 h7 h8 h9=>
 h A s h6 A S s vs R h1 h2 h3 h4 h5 h6 h7 h8 h9
section
variable{C:Cx}
theorem sorter_uniq{prog:Program}{w:World}{h:Heap}{a:Addr}{St:SState}(hs:SorterAt prog w h a St):(∀y∈St.nodes,∀z∈St.nodes,y.key=z.key->y=z)∧St.nodes.Nodup:=
 ⟨fun y hy z hz e=>nodup_key hs.keysNd hy hz e,by
  have:=hs.keysNd
  unfold List.Nodup at this⊢
  rw[List.pairwise_map]at this
  exact this.imp fun h e=>h (by rw[e])⟩
theorem mth_noRing(T:TopK C)(hN:C.hd=false)(X:SState)(hsz:X.abs.nodes.length≤3000)(hcl:X.abs.closed)(hac:X.abs.acyc):Mth C 127 X [] (noRing X):=Mth.lift fun A s hs=>by
 obtain⟨u,hnd⟩:=sorter_uniq hs
 have hcl':∀nd∈X.nodes,∀s∈nd.succ,(X.find s).isSome=true:=fun nd h s hm=>by
  have:=hcl nd.abs (List.mem_map_of_mem h) s hm
  rw[abs_find,Option.isSome_map]at this;exact this
 have hsz':X.nodes.length≤3000:=by
  have:X.abs.nodes.length=X.nodes.length:=by unfold SState.abs;simp
  omega
 refine((find_cycle T hN X hsz' hs.lo hcl' u hnd).mth fun pv hp=>?_).mono fun St' pv hp=>?_
 ·rcases hp with⟨h,_⟩|⟨r,h,_⟩
  ·cases h;rfl
  ·cases h
 ·obtain⟨rfl,h⟩:=hp
  have no:∀r,¬IsRing St' r:=fun r hr=>by
   obtain⟨f,hf⟩:=hac
   refine isRing_up (f:=f) (fun k s hs=>?_) hr
   unfold SState.succ at hs
   cases hq:St'.find k with
   |none=>rw[hq]at hs;cases hs
   |some nd=>
    rw[hq]at hs
    obtain⟨h1,h2⟩:=find_key hq
    have:=hf nd.abs (List.mem_map_of_mem h1) s hs
    rw[←h2];exact this
  rcases h with h|⟨ys,rfl,h⟩
  ·rcases h with⟨h,_⟩|⟨r,h,_⟩
   ·cases h;exact⟨rfl,rfl⟩
   ·cases h
  ·rcases h with⟨h,_⟩|⟨r,h,hr⟩
   ·cases h
   ·exact absurd hr (no r)
theorem fnm_prepare(T:TopK C)(hN:C.hd=false)(hl:1≤C.lev){a:AS}(hr:a.rdy=none)(hsz:a.nodes.length≤3000)(hcl:a.closed)(hac:a.acyc):FnM C 92 a [] .none a.prep:=
 fnm_prepare0 T hN hl hr (Nat.le_trans hsz (by decide)) fun X e=>mth_noRing (C:=C.l 0) (T.l 0) hN X (by rw[e];exact hsz) (by
  rw[e]
  intro nd h s hm
  exact hcl nd h s hm) (by
  rw[e];exact hac)
end
namespace AS
noncomputable def has(a:AS)(k:Key):Bool:=(a.find k).isSome
noncomputable def npOf(a:AS)(k:Key):Int:=match a.find k with|some x=>x.np|none=>0
noncomputable def scOf(a:AS)(k:Key):List Key:=match a.find k with|some x=>x.succ|none=>[]
noncomputable def keys(a:AS):List Key:=a.nodes.map AN.key
theorem find_mem{a:AS}{k:Key}{x:AN}(h:a.find k=some x):x∈a.nodes∧x.key=k:=by
 unfold AS.find at h
 exact⟨List.mem_of_find?_eq_some h,by simpa using List.find?_some h⟩
theorem has_keys{a:AS}{k:Key}:a.has k=true↔k∈a.keys:=by
 unfold has keys
 constructor
 ·intro h
  obtain⟨x,hx⟩:=Option.isSome_iff_exists.mp h
  obtain⟨h1,h2⟩:=find_mem hx
  rw[←h2];exact List.mem_map_of_mem h1
 ·intro h
  obtain⟨x,hx,rfl⟩:=List.mem_map.mp h
  unfold AS.find
  rw[List.find?_isSome]
  exact⟨x,hx,by simp⟩
theorem find_of_mem{a:AS}(hn:a.keys.Nodup){x:AN}(h:x∈a.nodes):a.find x.key=some x:=by
 have hs:(a.find x.key).isSome=true:=has_keys.mpr (List.mem_map_of_mem h)
 obtain⟨y,hy⟩:=Option.isSome_iff_exists.mp hs
 obtain⟨h1,h2⟩:=find_mem hy
 rw[hy]
 congr 1
 unfold keys at hn
 have key:∀ (l:List AN),(l.map AN.key).Nodup->∀y z,y∈l->z∈l->y.key=z.key->y=z:=by
  intro l
  induction l with
  |nil=>intro _ y z hy;cases hy
  |cons w r ih=>
   intro hn y z hy hz e
   have hn':w.key∉r.map AN.key∧(r.map AN.key).Nodup:=by simpa only[List.map_cons,List.nodup_cons]using hn
   rcases List.mem_cons.mp hy with hy|hy<;>rcases List.mem_cons.mp hz with hz|hz
   ·rw[hy,hz]
   ·exact absurd (List.mem_map.mpr ⟨z,hz,by rw[←e,hy]⟩) hn'.1
   ·exact absurd (List.mem_map.mpr ⟨y,hy,by rw[e,hz]⟩) hn'.1
   ·exact ih hn'.2 y z hy hz e
 exact key a.nodes hn y x h1 h h2
theorem find_get(a:AS)(k j:Key):(a.get k).find j=if j=k∧a.find k=none then some ⟨k,0,[]⟩else a.find j:=by
 unfold AS.get
 cases hq:a.find k with
 |some x=>simp
 |none=>
  by_cases hj:j=k
  ·subst hj
   simp only[and_self,if_true]
   unfold AS.find at hq⊢
   rw[List.find?_append,hq];simp
  ·simp only[hj,false_and,if_false]
   unfold AS.find
   have: ¬k=j:=fun e=>hj e.symm
   rw[List.find?_append];simp[this]
theorem has_get(a:AS)(k j:Key):(a.get k).has j=(a.has j||decide (j=k)):=by
 unfold has
 rw[find_get]
 by_cases hj:j=k
 ·subst hj
  cases hq:a.find j<;>simp[hq]
 ·simp[hj]
theorem npOf_get(a:AS)(k j:Key):(a.get k).npOf j=a.npOf j:=by
 unfold npOf
 rw[find_get]
 by_cases h:j=k∧a.find k=none
 ·rw[if_pos h,h.1,h.2]
 ·rw[if_neg h]
theorem scOf_get(a:AS)(k j:Key):(a.get k).scOf j=a.scOf j:=by
 unfold scOf
 rw[find_get]
 by_cases h:j=k∧a.find k=none
 ·rw[if_pos h,h.1,h.2]
 ·rw[if_neg h]
theorem keys_upd(a:AS)(k:Key){f:AN->AN}(hf:∀x,(f x).key=x.key):(a.upd k f).keys=a.keys:=by
 unfold keys AS.upd
 rw[List.map_map]
 apply List.map_congr_left
 intro x _
 show(if x.key=k then f x else x).key=x.key
 split<;>simp[hf]
theorem keys_get(a:AS)(k:Key)(h:a.keys.Nodup):(a.get k).keys.Nodup:=by
 unfold AS.get
 cases hq:a.find k with
 |some x=>exact h
 |none=>
  show((a.nodes++[(⟨k,0,[]⟩:AN)]).map AN.key).Nodup
  rw[List.map_append,List.nodup_append]
  refine⟨h,by simp,fun x hx y hy e=>?_⟩
  simp at hy
  rw[hy]at e
  have hk:k∈a.keys:=by rw[←e];exact hx
  have:a.has k=true:=has_keys.mpr hk
  unfold has at this;rw[hq]at this;cases this
theorem has_upd(a:AS)(k j:Key){f:AN->AN}(hf:∀x,(f x).key=x.key):(a.upd k f).has j=a.has j:=by
 unfold has;rw[find_upd hf,Option.isSome_map]
set_option tactic.hygienic true in
theorem npOf_upd(a:AS)(k j:Key)(v:Int):(a.upd k (AN.addNp v)).npOf j=if j=k∧a.has k=true then a.npOf j+v else a.npOf j:=by
 unfold npOf has
 rw[find_upd (f:=AN.addNp v) (fun ω=>rfl)]
 cases hq:a.find j with
 |none=>
  simp only[Option.map_none]
  split
  ·rename_i h;rw[←h.1,hq]at h;simp at h
  ·rfl
 |some x=>
  obtain⟨_,hk⟩:=find_mem hq
  simp only[Option.map_some,hk]
  by_cases hj:j=k
  ·subst hj
   simp[hq,AN.addNp]
  ·simp[hj]
set_option tactic.hygienic true in
theorem npOf_set(a:AS)(k j:Key)(v:Int):(a.upd k (AN.setNp v)).npOf j=if j=k∧a.has k=true then v else a.npOf j:=by
 unfold npOf has
 rw[find_upd (f:=AN.setNp v) (fun ω=>rfl)]
 cases hq:a.find j with
 |none=>
  simp only[Option.map_none]
  split
  ·rename_i h;rw[←h.1,hq]at h;simp at h
  ·rfl
 |some x=>
  obtain⟨_,hk⟩:=find_mem hq
  simp only[Option.map_some,hk]
  by_cases hj:j=k
  ·subst hj
   simp[hq,AN.setNp]
  ·simp[hj]
theorem scOf_updN(a:AS)(k j:Key){f:AN->AN}(hf:∀x,(f x).key=x.key)(hs:∀x,(f x).succ=x.succ):(a.upd k f).scOf j=a.scOf j:=by
 unfold scOf
 rw[find_upd hf]
 cases hq:a.find j with
 |none=>rfl
 |some x=>simp only[Option.map_some];split<;>simp[hs]
theorem npOf_updS(a:AS)(k j:Key){f:AN->AN}(hf:∀x,(f x).key=x.key)(hs:∀x,(f x).np=x.np):(a.upd k f).npOf j=a.npOf j:=by
 unfold npOf
 rw[find_upd hf]
 cases hq:a.find j with
 |none=>rfl
 |some x=>simp only[Option.map_some];split<;>simp[hs]
set_option tactic.hygienic true in
theorem scOf_upd(a:AS)(k j s:Key):(a.upd k (AN.addSucc s)).scOf j=if j=k∧a.has k=true then a.scOf j++[s]else a.scOf j:=by
 unfold scOf has
 rw[find_upd (f:=AN.addSucc s) (fun ω=>rfl)]
 cases hq:a.find j with
 |none=>
  simp only[Option.map_none]
  split
  ·rename_i h;rw[←h.1,hq]at h;simp at h
  ·rfl
 |some x=>
  obtain⟨_,hk⟩:=find_mem hq
  simp only[Option.map_some,hk]
  by_cases hj:j=k
  ·subst hj
   simp[hq,AN.addSucc]
  ·simp[hj]
structure Pre(a:AS)(pr:Key->List Key):Prop where
 nd:a.keys.Nodup
 np:∀k,a.npOf k=(pr k).length
 sc:∀p k,(a.scOf p).count k=(pr k).count p
 hs:∀k p,p∈pr k->a.has p=true∧a.has k=true
 rdy:a.rdy=none
 np0:a.npass=0
 nf0:a.nfin=0
theorem Pre.zero:Pre AS.zero (fun ω=>[]):=⟨List.nodup_nil,fun ω=>rfl,fun ω ω=>rfl,(fun ω ω h=>nomatch h),rfl,rfl,rfl⟩
theorem addPred_view(a:AS)(k p:Key):(a.addPred k p).rdy=a.rdy∧(a.addPred k p).npass=a.npass∧(a.addPred k p).nfin=a.nfin∧(∀j,(a.addPred k p).npOf j=a.npOf j)∧(∀j,(a.addPred k p).has j=(a.has j||decide (j=p)))∧
  (∀j,(a.addPred k p).scOf j=if j=p then a.scOf j++[k]else a.scOf j)∧(a.keys.Nodup->(a.addPred k p).keys.Nodup):=by
 have hr:(a.get p).rdy=a.rdy∧(a.get p).npass=a.npass∧(a.get p).nfin=a.nfin:=by
  unfold AS.get;cases a.find p<;>exact⟨rfl,rfl,rfl⟩
 refine⟨hr.1,hr.2.1,hr.2.2,fun j=>?_,fun j=>?_,fun j=>?_,fun h=>?_⟩
 ·unfold AS.addPred;rw[npOf_updS _ _ _ (f:=AN.addSucc k) (fun ω=>rfl) (fun ω=>rfl),npOf_get]
 ·unfold AS.addPred;rw[has_upd _ _ _ (f:=AN.addSucc k) (fun ω=>rfl),has_get]
 ·unfold AS.addPred;rw[scOf_upd,scOf_get,has_get];simp
 ·unfold AS.addPred;rw[keys_upd _ _ (f:=AN.addSucc k) (fun ω=>rfl)];exact keys_get a p h
structure AddR(k:Key)(ps:List Key)(a c:AS):Prop where
 rdy:c.rdy=a.rdy
 npass:c.npass=a.npass
 nfin:c.nfin=a.nfin
 nd:c.keys.Nodup
 np:∀j,c.npOf j=a.npOf j
 has:∀j,c.has j=(a.has j||decide (j∈ps))
 sc:∀j s,(c.scOf j).count s=(a.scOf j).count s+if s=k then ps.count j else 0
theorem foldAdd(k:Key)(ps:List Key):∀a:AS,a.keys.Nodup->AddR k ps a (ps.foldl (fun a p=>a.addPred k p) a):=by
 induction ps with
 |nil=>exact fun a h=>⟨rfl,rfl,rfl,h,fun ω=>rfl,fun ω=>by simp,fun ω ω=>by simp⟩
 |cons p ps ih=>
  intro a h
  obtain⟨v1,v2,v3,v4,v5,v6,v7⟩:=addPred_view a k p
  have w:=ih (a.addPred k p) (v7 h)
  refine⟨w.rdy.trans v1,w.npass.trans v2,w.nfin.trans v3,w.nd,fun j=>(w.np j).trans (v4 j),fun j=>(w.has j).trans ?_,fun j s=>(w.sc j s).trans ?_⟩
  ·rw[v5];simp[Bool.or_assoc]
  ·rw[v6,List.count_cons]
   by_cases hj:j=p
   ·rw[if_pos hj,List.count_append,List.count_cons]
    by_cases hs:s=k
    ·simp[hj,hs];omega
    ·have: ¬k=s:=fun e=>hs e.symm
     simp[hs,this]
   ·have: ¬p=j:=fun e=>hj e.symm
    rw[if_neg hj]
    simp[this]
theorem Pre.add{a:AS}{pr:Key->List Key}(h:Pre a pr)(k:Key)(ps:List Key):Pre (a.add k ps) (fun j=>if j=k then pr j++ps else pr j)∧∀j,(a.add k ps).has j=(a.has j||decide (j=k)||decide (j∈ps)):=by
 have hn0:=keys_get a k h.nd
 have hk1:((a.get k).upd k (AN.addNp ps.length)).keys.Nodup:=by rw[keys_upd _ _ (f:=AN.addNp ps.length) (fun ω=>rfl)];exact hn0
 obtain⟨w1,w2,w3,w4,w5,w6,w7⟩:=foldAdd k ps _ hk1
 have hr:(a.get k).rdy=a.rdy∧(a.get k).npass=a.npass∧(a.get k).nfin=a.nfin:=by
  unfold AS.get;cases a.find k<;>exact⟨rfl,rfl,rfl⟩
 have hhas:∀j,(a.add k ps).has j=(a.has j||decide (j=k)||decide (j∈ps)):=fun j=>by
  have:=w6 j
  rw[has_upd _ _ _ (f:=AN.addNp ps.length) (fun ω=>rfl),has_get]at this
  exact this
 refine⟨⟨w4,fun j=>?_,fun p j=>?_,fun j p hp=>?_,w1.trans (hr.1.trans h.rdy),w2.trans (hr.2.1.trans h.np0),w3.trans (hr.2.2.trans h.nf0)⟩,hhas⟩
 ·have:=w5 j
  rw[npOf_upd,npOf_get,has_get,h.np]at this
  refine this.trans ?_
  by_cases hj:j=k
  ·subst hj;simp
  ·simp[hj]
 ·have:=w7 p j
  rw[scOf_updN _ _ _ (f:=AN.addNp ps.length) (fun ω=>rfl) (fun ω=>rfl),scOf_get,h.sc]at this
  refine this.trans ?_
  by_cases hj:j=k
  ·subst hj;simp[List.count_append]
  ·simp[hj]
 ·rw[hhas,hhas]
  by_cases hj:j=k
  ·subst hj
   simp only[if_true,List.mem_append]at hp
   rcases hp with hp|hp
   ·simp[(h.hs j p hp).1]
   ·simp[hp]
  ·simp only[hj,if_false]at hp
   simp[(h.hs j p hp).1,(h.hs j p hp).2]
end AS
end Ts
set_option linter.unusedSimpArgs false
namespace Ts
open PySem PySem.Spec PySem.Calls PyProof.Rows PySem.W
namespace AS
noncomputable def scLen(a:AS)(n:Nat):Prop:=a.nodes.length≤n∧∀k,(a.scOf k).length≤n
structure DecV(b c:AS)(s:Key)(r0:List Key):Prop where
 rdy:c.rdy=some (if b.npOf s=1 then r0++[s]else r0)
 npass:c.npass=b.npass
 nfin:c.nfin=b.nfin
 np:∀j,c.npOf j=if j=s then b.npOf j - 1 else b.npOf j
 has:∀j,c.has j=b.has j
 sc:∀j,c.scOf j=b.scOf j
 keys:c.keys=b.keys
theorem dec_view{b:AS}{s:Key}{r0:List Key}(hr:b.rdy=some r0)(hh:b.has s=true):DecV b (b.dec s) s r0:=by
 obtain⟨x,hx⟩:=Option.isSome_iff_exists.mp hh
 have hnp:b.npOf s=x.np:=by unfold npOf;rw[hx]
 have h1:((b.find s).map (·.np)=some 1)↔b.npOf s=1:=by rw[hx,hnp];simp
 have e:∀j,(b.upd s (AN.addNp (-1))).npOf j=if j=s then b.npOf j - 1 else b.npOf j:=fun j=>by
  rw[npOf_upd,hh]
  simp only[and_true]
  split<;>simp[Int.sub_eq_add_neg]
 have g1:=fun j=>has_upd b s j (f:=AN.addNp (-1)) fun ω=>rfl
 have g2:=fun j=>scOf_updN b s j (f:=AN.addNp (-1)) (fun ω=>rfl) fun ω=>rfl
 have g3:=keys_upd b s (f:=AN.addNp (-1)) fun ω=>rfl
 unfold AS.dec
 by_cases hc:b.npOf s=1
 ·rw[if_pos (h1.mpr hc)]
  exact⟨by rw[if_pos hc,hr];rfl,rfl,rfl,e,g1,g2,g3⟩
 ·rw[if_neg (fun h=>hc (h1.mp h))]
  exact⟨by rw[if_neg hc];exact hr,rfl,rfl,e,g1,g2,g3⟩
structure DecR(b:AS)(ss r0:List Key)(c:AS)(new:List Key):Prop where
 rdy:c.rdy=some (r0++new)
 nd:new.Nodup
 mem:∀j,j∈new↔j∈ss∧b.npOf j=ss.count j
 np:∀j,c.npOf j=b.npOf j - ss.count j
 has:∀j,c.has j=b.has j
 sc:∀j,c.scOf j=b.scOf j
 keys:c.keys=b.keys
 npass:c.npass=b.npass
 nfin:c.nfin=b.nfin
theorem cons_count(s j:Key)(t:List Key):((s::t).count j:Int)=t.count j+if j=s then 1 else 0:=by
 rw[List.count_cons]
 by_cases hjs:j=s
 ·simp[hjs]
 ·have h2: ¬s=j:=fun e=>hjs e.symm
  simp[hjs,h2]
theorem DecR.cons{b c:AS}{s:Key}{t r0 new:List Key}(hc:∀j∈s::t,((s::t).count j:Int)≤b.npOf j)(v:DecV b (b.dec s) s r0)(w:DecR (b.dec s) t (if b.npOf s=1 then r0++[s]else r0) c new):∃new,DecR b (s::t) r0 c new:=by
 have hnp:∀j,c.npOf j=b.npOf j - (s::t).count j:=fun j=>by
  rw[w.np,v.np,cons_count];split<;>omega
 have hmem:∀j,j∈new↔j∈t∧(if j=s then b.npOf j - 1 else b.npOf j)=t.count j:=fun j=>by rw[w.mem,v.np]
 have hcs:=hc s List.mem_cons_self
 rw[cons_count,if_pos rfl]at hcs
 by_cases hone:b.npOf s=1
 ·have hst:t.count s=0:=by omega
  have w1:=w.rdy
  rw[if_pos hone]at w1
  refine⟨s::new,by rw[w1];simp,List.nodup_cons.mpr ⟨fun hm=>List.count_eq_zero.mp hst ((hmem s).mp hm).1,w.nd⟩,fun j=>?_,hnp,fun j=>(w.has j).trans (v.has j),fun j=>(w.sc j).trans (v.sc j),w.keys.trans v.keys,w.npass.trans v.npass,w.nfin.trans v.nfin⟩
  rw[List.mem_cons,hmem,List.mem_cons,cons_count]
  by_cases hjs:j=s
  ·simp[hjs,hst,hone]
  ·simp[hjs]
 ·have w1:=w.rdy
  rw[if_neg hone]at w1
  refine⟨new,w1,w.nd,fun j=>?_,hnp,fun j=>(w.has j).trans (v.has j),fun j=>(w.sc j).trans (v.sc j),w.keys.trans v.keys,w.npass.trans v.npass,w.nfin.trans v.nfin⟩
  rw[hmem,List.mem_cons,cons_count]
  by_cases hjs:j=s
  ·rw[hjs,if_pos rfl,if_pos rfl]
   exact⟨fun h=>⟨.inl rfl,by omega⟩,fun h=>⟨List.count_pos_iff.mp (by omega),by omega⟩⟩
  ·simp[hjs]
theorem foldDec(ss:List Key):∀ (b:AS) (r0:List Key),b.rdy=some r0->(∀s∈ss,b.has s=true)->(∀j∈ss,(ss.count j:Int)≤b.npOf j)->∃new,DecR b ss r0 (ss.foldl AS.dec b) new:=by
 induction ss with
 |nil=>exact fun b r0 hr ω ω=>⟨[],by rw[List.append_nil];exact hr,List.nodup_nil,fun j=>by simp,fun j=>by simp,fun ω=>rfl,fun ω=>rfl,rfl,rfl,rfl⟩
 |cons s t ih=>
  intro b r0 hr hh hc
  have v:=dec_view hr (hh s List.mem_cons_self)
  obtain⟨new,w⟩:=ih (b.dec s) _ v.rdy (fun x hx=>(v.has x).trans (hh x (List.mem_cons_of_mem _ hx))) fun j hj=>by
   have:=hc j (List.mem_cons_of_mem _ hj)
   rw[cons_count]at this
   rw[v.np]
   split<;>simp_all<;>omega
  exact w.cons hc v
structure Run(a:AS)(pr:Key->List Key)(dn ot rd:List Key):Prop where
 nd:a.keys.Nodup
 hs:∀k p,p∈pr k->a.has p=true∧a.has k=true
 sc:∀p k,(a.scOf p).count k=(pr k).count p
 rdy:a.rdy=some rd
 rdn:rd.Nodup
 rdm:∀k,k∈rd↔a.has k=true∧k∉dn∧k∉ot∧∀p∈pr k,p∈dn
 np:∀k,a.has k=true->a.npOf k=if k∈dn then -2 else if k∈ot then -1 else(((pr k).filter fun p=>decide (p∉dn)).length:Int)
 dnn:dn.Nodup
 otn:ot.Nodup
 dj:∀k∈ot,k∉dn
 dnh:∀k∈dn,a.has k=true
 oth:∀k∈ot,a.has k=true
 own:∀k,k∈dn∨k∈ot->∀p∈pr k,p∈dn
 npass:a.npass=dn.length+ot.length
 nfin:a.nfin=dn.length
 big:a.scLen 1000
theorem Run.rd_len{a:AS}{pr:Key->List Key}{dn ot rd:List Key}(h:Run a pr dn ot rd):rd.length≤1000:=by
 have:=nodup_len_le rd a.keys h.rdn fun k hk=>has_keys.mp ((h.rdm k).mp hk).1
 have h2:a.keys.length=a.nodes.length:=by unfold keys;simp
 have:=h.big.1
 omega
theorem filter_split(l:List Key)(dn:List Key)(k:Key)(hk:k∉dn):(l.filter fun p=>decide (p∉dn)).length=(l.filter fun p=>decide (p∉dn++[k])).length+l.count k:=by
 induction l with
 |nil=>rfl
 |cons x r ih=>
  rw[List.filter_cons,List.filter_cons,List.count_cons]
  by_cases hx:x=k
  ·subst hx
   have h1:decide (x∉dn)=true:=by simpa using hk
   have h2:decide (x∉dn++[x])=false:=by simp
   rw[h1,h2,if_pos rfl,if_neg Bool.false_ne_true,List.length_cons,ih]
   simp;omega
  ·have h2:decide (x∉dn++[k])=decide (x∉dn):=by simp[hx]
   have h3:(x==k)=false:=by simpa using hx
   rw[h2,h3,if_neg Bool.false_ne_true,Nat.add_zero]
   cases decide (x∉dn)with
   |true=>rw[if_pos rfl,if_pos rfl,List.length_cons,List.length_cons,ih];omega
   |false=>rw[if_neg Bool.false_ne_true,if_neg Bool.false_ne_true,ih]
theorem Run.done1{a:AS}{pr:Key->List Key}{dn ot rd:List Key}(h:Run a pr dn ot rd){k:Key}(hk:k∈ot):
  (∃x,a.find k=some x∧x.np= -1∧(∀s∈x.succ,(a.find s).isSome=true)∧∃l,a.rdy=some l∧l.length+x.succ.length≤lim)∧∃rd',Run (a.done1 k) pr (dn++[k]) (ot.erase k) rd':=by
 have hkh:=h.oth k hk
 have hkd:=h.dj k hk
 obtain⟨x,hx⟩:=Option.isSome_iff_exists.mp hkh
 have hnp:x.np= -1:=by
  have:=h.np k hkh
  unfold npOf at this
  rw[hx]at this
  simpa [hkd,hk]using this
 have hsc:x.succ=a.scOf k:=by unfold scOf;rw[hx]
 have hin:∀s∈x.succ,k∈pr s:=fun s hs=>by
  rw[hsc]at hs
  have:=List.count_pos_iff.mpr hs
  rw[h.sc]at this
  exact List.count_pos_iff.mp this
 have hsd:∀s,k∈pr s->s∉dn∧s∉ot:=fun s hs=>⟨fun hm=>hkd (h.own s (.inl hm) k hs),fun hm=>hkd (h.own s (.inr hm) k hs)⟩
 have hkk:k∉pr k:=fun hm=>(hsd k hm).2 hk
 have hjk':∀j,k∈pr j->j≠k:=fun j hj e=>hkk (by rw[e]at hj;exact hj)
 have hlen:=h.rd_len
 have hbig:=h.big.2 k
 refine⟨⟨x,hx,hnp,fun s hs=>(h.hs s k (hin s hs)).2,rd,h.rdy,?_⟩,?_⟩
 ·rw[hsc]
  have:(2000:Nat)≤lim:=by decide
  omega
 let b:=a.upd k (AN.setNp (-2))
 have hbn:∀j,b.npOf j=if j=k then -2 else a.npOf j:=fun j=>by
  show(a.upd k (AN.setNp (-2))).npOf j=_
  rw[npOf_set,hkh];simp
 have hbh:∀j,b.has j=a.has j:=fun j=>has_upd a k j (f:=AN.setNp (-2)) fun ω=>rfl
 have hbs:∀j,b.scOf j=a.scOf j:=fun j=>scOf_updN a k j (f:=AN.setNp (-2)) (fun ω=>rfl) fun ω=>rfl
 have hcount:∀j,x.succ.count j=(pr j).count k:=fun j=>by rw[hsc,h.sc]
 have hnpj:∀j,k∈pr j->a.npOf j=(((pr j).filter fun p=>decide (p∉dn++[k])).length:Int)+(pr j).count k:=fun j hj=>by
  have:=h.np j (h.hs j k hj).2
  rw[if_neg (hsd j hj).1,if_neg (hsd j hj).2,filter_split _ _ _ hkd]at this
  rw[this];push_cast;rfl
 obtain⟨new,w1,w2,w3,w4,w5,w6,w7,w8,w9⟩:=foldDec x.succ b rd h.rdy (fun s hs=>by rw[hbh];exact(h.hs s k (hin s hs)).2) (fun j hj=>by
  rw[hbn,if_neg (hjk' j (hin j hj)),hnpj j (hin j hj),hcount];omega)
 have hd:a.done1 k={x.succ.foldl AS.dec b with nfin:=a.nfin+1}:=by
  unfold AS.done1;rw[hx]
 rw[hd]
 have g1:∀j,AS.has {x.succ.foldl AS.dec b with nfin:=a.nfin+1} j=a.has j:=fun j=>(w5 j).trans (hbh j)
 have g2:∀j,AS.scOf {x.succ.foldl AS.dec b with nfin:=a.nfin+1} j=a.scOf j:=fun j=>(w6 j).trans (hbs j)
 have g3:∀j,AS.npOf {x.succ.foldl AS.dec b with nfin:=a.nfin+1} j=b.npOf j - x.succ.count j:=fun j=>w4 j
 have g4:AS.keys {x.succ.foldl AS.dec b with nfin:=a.nfin+1}=a.keys:=w7.trans (keys_upd a k (f:=AN.setNp (-2)) fun ω=>rfl)
 have hee:∀j,j∈ot.erase k↔j∈ot∧j≠k:=fun j=>by
  rw[List.Nodup.mem_erase_iff h.otn];exact⟨fun h=>⟨h.2,h.1⟩,fun h=>⟨h.2,h.1⟩⟩
 have hnew:∀j,j∈new↔k∈pr j∧((pr j).filter fun p=>decide (p∉dn++[k])).length=0:=fun j=>by
  rw[w3]
  constructor
  ·rintro⟨h1,h2⟩
   have hj:=hin j h1
   rw[hbn,if_neg (hjk' j hj),hnpj j hj,hcount]at h2
   exact⟨hj,by omega⟩
  ·rintro⟨hj,h2⟩
   have hpos:0<x.succ.count j:=by rw[hcount];exact List.count_pos_iff.mpr hj
   refine⟨List.count_pos_iff.mp hpos,?_⟩
   rw[hbn,if_neg (hjk' j hj),hnpj j hj,hcount];omega
 have hall:∀j,((pr j).filter fun p=>decide (p∉dn++[k])).length=0↔∀p∈pr j,p∈dn++[k]:=fun j=>by
  rw[List.length_eq_zero_iff,List.filter_eq_nil_iff]
  simp only[decide_eq_true_eq,Decidable.not_not]
 refine⟨rd++new,?_,fun j p hp=>by rw[g1,g1];exact h.hs j p hp,fun p j=>by rw[g2];exact h.sc p j,w1,?_,fun j=>?_,fun j hj=>?_,?_,?_,fun j hj=>?_,fun j hj=>?_,fun j hj=>?_,fun j hj p hp=>?_,?_,?_,?_⟩
 ·rw[g4];exact h.nd
 ·rw[List.nodup_append]
  refine⟨h.rdn,w2,fun p hp q hq e=>?_⟩
  subst e
  exact hkd (((h.rdm p).mp hp).2.2.2 k ((hnew p).mp hq).1)
 ·rw[List.mem_append,h.rdm,hnew,hall,g1,hee]
  constructor
  ·rintro(⟨h1,h2,h3,h4⟩|⟨h1,h2⟩)
   ·have hjk:j≠k:=fun e=>h3 (e▸hk)
    exact⟨h1,by simp[h2,hjk],fun hm=>h3 hm.1,fun p hp=>List.mem_append_left _ (h4 p hp)⟩
   ·have hjk:j≠k:=hjk' j h1
    exact⟨(h.hs j k h1).2,by simp[(hsd j h1).1,hjk],fun hm=>(hsd j h1).2 hm.1,h2⟩
  ·rintro⟨h1,h2,h3,h4⟩
   have hjk:j≠k:=fun e=>h2 (by simp[e])
   by_cases hkp:k∈pr j
   ·exact .inr ⟨hkp,h4⟩
   ·refine .inl ⟨h1,fun hm=>h2 (List.mem_append_left _ hm),fun hm=>h3 ⟨hm,hjk⟩,fun p hp=>?_⟩
    rcases List.mem_append.mp (h4 p hp)with a|a
    ·exact a
    ·rw[List.mem_singleton.mp a]at hp;exact absurd hp hkp
 ·rw[g3,hbn,hcount]
  rw[g1]at hj
  by_cases hjk:j=k
  ·subst hjk
   have:(pr j).count j=0:=List.count_eq_zero.mpr hkk
   simp[this]
  ·rw[if_neg hjk]
   have e1:(j∈dn++[k])↔j∈dn:=by simp[hjk]
   have e2:(j∈ot.erase k)↔j∈ot:=by rw[hee];simp[hjk]
   simp only[e1,e2]
   rw[h.np j hj]
   by_cases hjd:j∈dn
   ·have:(pr j).count k=0:=List.count_eq_zero.mpr fun hm=>(hsd j hm).1 hjd
    simp[hjd,this]
   ·by_cases hjo:j∈ot
    ·have:(pr j).count k=0:=List.count_eq_zero.mpr fun hm=>(hsd j hm).2 hjo
     simp[hjd,hjo,this]
    ·rw[if_neg hjd,if_neg hjo,if_neg hjd,if_neg hjo,filter_split _ _ _ hkd]
     push_cast;omega
 ·rw[List.nodup_append]
  exact⟨h.dnn,by simp,fun p hp q hq e=>by rw[List.mem_singleton.mp hq]at e;exact hkd (e▸hp)⟩
 ·exact h.otn.erase k
 ·have:=(hee j).mp hj
  simp[h.dj j this.1,this.2]
 ·rw[g1]
  rcases List.mem_append.mp hj with a|a
  ·exact h.dnh j a
  ·rw[List.mem_singleton.mp a];exact hkh
 ·rw[g1];exact h.oth j ((hee j).mp hj).1
 ·refine List.mem_append_left _ (h.own j ?_ p hp)
  rcases hj with hj|hj
  ·rcases List.mem_append.mp hj with a|a
   ·exact .inl a
   ·rw[List.mem_singleton.mp a];exact .inr hk
  ·exact .inr ((hee j).mp hj).1
 ·show(x.succ.foldl AS.dec b).npass=_
  rw[w8]
  show a.npass=_
  rw[h.npass,List.length_append,List.length_singleton,List.length_erase_of_mem hk]
  have:0<ot.length:=List.length_pos_of_mem hk
  push_cast;omega
 ·show a.nfin+1=_
  rw[h.nfin];simp
 ·refine⟨?_,fun j=>by rw[g2];exact h.big.2 j⟩
  have e1:(AS.keys {x.succ.foldl AS.dec b with nfin:=a.nfin+1}).length=a.keys.length:=by rw[g4]
  unfold keys at e1
  simp only[List.length_map]at e1
  rw[e1];exact h.big.1
end AS
end Ts
set_option linter.unusedSimpArgs false
namespace Ts
open PySem PySem.Spec PySem.Calls PyProof.Rows PySem.W
namespace AS
theorem out_view(ks:List Key):∀ (a:AS),(∀j,(a.out ks).npOf j=if j∈ks∧a.has j=true then -1 else a.npOf j)∧(∀j,(a.out ks).has j=a.has j)∧(∀j,(a.out ks).scOf j=a.scOf j)∧(a.out ks).keys=a.keys:=by
 induction ks with
 |nil=>exact fun a=>⟨fun j=>by simp[AS.out],fun ω=>rfl,fun ω=>rfl,rfl⟩
 |cons k ks ih=>
  intro a
  obtain⟨h1,h2,h3,h4⟩:=ih (a.upd k (AN.setNp (-1)))
  have e:a.out (k::ks)=(a.upd k (AN.setNp (-1))).out ks:=rfl
  rw[e]
  refine⟨fun j=>?_,fun j=>?_,fun j=>?_,?_⟩
  ·rw[h1,has_upd _ _ _ (f:=AN.setNp (-1)) (fun ω=>rfl),npOf_set]
   by_cases hj:j∈ks
   ·by_cases hh:a.has j=true<;>by_cases hjk:j=k<;>simp_all
   ·by_cases hh:a.has j=true<;>by_cases hjk:j=k<;>simp_all
  ·rw[h2,has_upd _ _ _ (f:=AN.setNp (-1)) (fun ω=>rfl)]
  ·rw[h3,scOf_updN _ _ _ (f:=AN.setNp (-1)) (fun ω=>rfl) (fun ω=>rfl)]
  ·rw[h4,keys_upd _ _ (f:=AN.setNp (-1)) (fun ω=>rfl)]
theorem Run.get{a:AS}{pr:Key->List Key}{dn ot rd:List Key}(h:Run a pr dn ot rd):Run {a.out rd with rdy:=some [],npass:=a.npass+rd.length,nfin:=a.nfin} pr dn (ot++rd) []:=by
 obtain⟨h1,h2,h3,h4⟩:=out_view rd a
 have g1:∀j,AS.has {a.out rd with rdy:=some [],npass:=a.npass+rd.length,nfin:=a.nfin} j=a.has j:=h2
 have g2:∀j,AS.scOf {a.out rd with rdy:=some [],npass:=a.npass+rd.length,nfin:=a.nfin} j=a.scOf j:=h3
 have g3:∀j,AS.npOf {a.out rd with rdy:=some [],npass:=a.npass+rd.length,nfin:=a.nfin} j=if j∈rd∧a.has j=true then -1 else a.npOf j:=h1
 have g4:AS.keys {a.out rd with rdy:=some [],npass:=a.npass+rd.length,nfin:=a.nfin}=a.keys:=h4
 refine⟨by rw[g4];exact h.nd,fun j p hp=>by rw[g1,g1];exact h.hs j p hp,fun p j=>by rw[g2];exact h.sc p j,rfl,List.nodup_nil,fun j=>?_,fun j hj=>?_,h.dnn,?_,fun j hj=>?_,fun j hj=>by rw[g1];exact h.dnh j hj,fun j hj=>?_,fun j hj p hp=>?_,?_,h.nfin,?_⟩
 ·rw[g1]
  refine⟨(fun h=>nomatch h),fun⟨a1,a2,a3,a4⟩=>?_⟩
  have:j∈rd:=(h.rdm j).mpr ⟨a1,a2,fun hm=>a3 (List.mem_append_left _ hm),a4⟩
  exact absurd (List.mem_append_right _ this) a3
 ·rw[g1]at hj
  rw[g3,hj]
  simp only[and_true]
  by_cases hr:j∈rd
  ·have:=(h.rdm j).mp hr
   simp[hr,this.2.1]
  ·rw[if_neg hr,h.np j hj]
   simp only[List.mem_append,hr,or_false]
 ·rw[List.nodup_append]
  exact⟨h.otn,h.rdn,fun p hp q hq e=>((h.rdm q).mp hq).2.2.1 (e▸hp)⟩
 ·rcases List.mem_append.mp hj with b|b
  ·exact h.dj j b
  ·exact((h.rdm j).mp b).2.1
 ·rw[g1]
  rcases List.mem_append.mp hj with b|b
  ·exact h.oth j b
  ·exact((h.rdm j).mp b).1
 ·rcases hj with b|b
  ·exact h.own j (.inl b) p hp
  ·rcases List.mem_append.mp b with c|c
   ·exact h.own j (.inr c) p hp
   ·exact((h.rdm j).mp c).2.2.2 p hp
 ·show a.npass+rd.length=_
  rw[h.npass,List.length_append];push_cast;omega
 ·refine⟨?_,fun j=>by rw[g2];exact h.big.2 j⟩
  have e1:=congrArg List.length g4
  unfold keys at e1
  simp only[List.length_map]at e1
  rw[e1];exact h.big.1
noncomputable def less(ot ks:List Key):List Key:=ks.foldl List.erase ot
theorem Run.dones:∀ (ks:List Key) {a:AS} {pr:Key->List Key} {dn ot rd:List Key},Run a pr dn ot rd->ks.Nodup->(∀k∈ks,k∈ot)->a.canDone ks∧∃rd',Run (ks.foldl AS.done1 a) pr (dn++ks) (less ot ks) rd'
 |[],a,pr,dn,ot,rd,h,_,_=>⟨trivial,rd,by simpa [less]using h⟩
 |k::ks,a,pr,dn,ot,rd,h,hn,hs=>by
  have hn':=List.nodup_cons.mp hn
  obtain⟨h1,rd1,h2⟩:=h.done1 (hs k List.mem_cons_self)
  obtain⟨h3,rd2,h4⟩:=Run.dones ks h2 hn'.2 fun j hj=>by
   have hjk:j≠k:=fun e=>hn'.1 (e▸hj)
   exact(List.Nodup.mem_erase_iff h.otn).mpr ⟨hjk,hs j (List.mem_cons_of_mem _ hj)⟩
  refine⟨⟨h1,h3⟩,rd2,?_⟩
  have e:dn++k::ks=(dn++[k])++ks:=by simp
  rw[e];exact h4
theorem Run.active{a:AS}{pr:Key->List Key}{dn ot rd:List Key}(h:Run a pr dn ot rd):a.active=(!ot.isEmpty|| !rd.isEmpty):=by
 unfold AS.active
 rw[h.rdy,h.npass,h.nfin]
 congr 1
 cases ot with
 |nil=>simp
 |cons x r=>simp;omega
theorem Pre.prep{a:AS}{pr:Key->List Key}(h:Pre a pr)(hb:a.scLen 1000):∃rd,Run a.prep pr [] [] rd:=by
 have g1:∀j,a.prep.has j=a.has j:=fun ω=>rfl
 have g3:∀j,a.prep.npOf j=a.npOf j:=fun ω=>rfl
 refine⟨(a.nodes.filter fun x=>x.np==0).map AN.key,h.nd,h.hs,h.sc,rfl,?_,fun j=>?_,fun j hj=>?_,List.nodup_nil,List.nodup_nil,(fun ω h=>nomatch h),(fun ω h=>nomatch h),(fun ω h=>nomatch h),(fun ω h=>by rcases h with h|h<;>exact nomatch h),?_,?_,hb⟩
 ·have:=h.nd
  unfold keys at this
  exact this.sublist (List.filter_sublist.map _)
 ·rw[g1]
  constructor
  ·intro hm
   obtain⟨x,hx,rfl⟩:=List.mem_map.mp hm
   obtain⟨h1,h2⟩:=List.mem_filter.mp hx
   have hf:=find_of_mem h.nd h1
   have hnp:=h.np x.key
   unfold npOf at hnp
   rw[hf]at hnp
   have:x.np=0:=by simpa using h2
   have hz:(pr x.key).length=0:=by
    have e:x.np=((pr x.key).length:Int):=hnp
    omega
   refine⟨by unfold has;rw[hf];rfl,by simp,by simp,fun p hp=>?_⟩
   rw[List.length_eq_zero_iff.mp hz]at hp;cases hp
  ·rintro⟨h1,_,_,h4⟩
   obtain⟨x,hx⟩:=Option.isSome_iff_exists.mp h1
   obtain⟨hm,hk⟩:=find_mem hx
   have hz:pr j=[]:=by
    cases hq:pr j with
    |nil=>rfl
    |cons p r=>have:=h4 p (by rw[hq];simp);cases this
   have hnp:=h.np j
   unfold npOf at hnp
   rw[hx,hz]at hnp
   exact List.mem_map.mpr ⟨x,List.mem_filter.mpr ⟨hm,by simpa using hnp⟩,hk⟩
 ·rw[g3,h.np]
  have:(pr j).filter (fun p=>decide (p∉([]:List Key)))=pr j:=by rw[List.filter_eq_self];simp
  rw[this];simp
 ·show a.npass=_;rw[h.np0];simp
 ·show a.nfin=_;rw[h.nf0];simp
theorem Pre.closed{a:AS}{pr:Key->List Key}(h:Pre a pr):a.closed:=fun nd hnd s hs=>by
 have hf:=find_of_mem h.nd hnd
 have:0<(a.scOf nd.key).count s:=by
  unfold scOf;rw[hf];exact List.count_pos_iff.mpr hs
 rw[h.sc]at this
 exact(h.hs s nd.key (List.count_pos_iff.mp this)).2
theorem Pre.acyc{a:AS}{pr:Key->List Key}(h:Pre a pr)(f:Key->Nat)(hf:∀k p,p∈pr k->f p<f k):a.acyc:=⟨f,fun nd hnd s hs=>by
 have hfn:=find_of_mem h.nd hnd
 have:0<(a.scOf nd.key).count s:=by
  unfold scOf;rw[hfn];exact List.count_pos_iff.mpr hs
 rw[h.sc]at this
 exact hf s nd.key (List.count_pos_iff.mp this)⟩
theorem Pre.len{a:AS}{pr:Key->List Key}(h:Pre a pr)(L:List Key)(n:Nat)(hL:∀k,a.has k=true->k∈L)(hl:L.length≤n):a.nodes.length≤n:=by
 have:=nodup_len_le a.keys L h.nd fun k hk=>hL k (has_keys.mpr hk)
 have e:a.keys.length=a.nodes.length:=by unfold keys;simp
 omega
theorem count_sum(L:List Key)(l:List Key)(hl:∀x∈l,x∈L):l.length≤(L.map fun k=>l.count k).sum:=by
 induction l with
 |nil=>simp
 |cons x r ih=>
  have ih':=ih fun y hy=>hl y (List.mem_cons_of_mem _ hy)
  have hx:=hl x List.mem_cons_self
  have:∀ (M:List Key),x∈M->(M.map fun k=>r.count k).sum+1≤(M.map fun k=>(x::r).count k).sum:=by
   intro M
   induction M with
   |nil=>intro h;cases h
   |cons y M ih2=>
    intro hm
    simp only[List.map_cons,List.sum_cons,List.count_cons]
    by_cases hy:x=y
    ·subst hy
     have:(M.map fun k=>r.count k).sum≤(M.map fun k=>(r.count k+if(x==k)=true then 1 else 0)).sum:=by
      clear ih2 hm
      induction M with
      |nil=>simp
      |cons z M ih3=>simp only[List.map_cons,List.sum_cons];omega
     simp only[beq_self_eq_true,if_true]
     omega
    ·have hm':x∈M:=by
      rcases List.mem_cons.mp hm with h|h
      ·exact absurd h hy
      ·exact h
     have:=ih2 hm'
     simp only[List.count_cons]at this
     have h3:(x==y)=false:=by simpa using hy
     simp only[h3,Bool.false_eq_true,if_false]
     omega
  have:=this L hx
  rw[List.length_cons];omega
theorem Pre.sc_len{a:AS}{pr:Key->List Key}(h:Pre a pr)(L:List Key)(n m:Nat)(hL:∀k,a.has k=true->k∈L)(hl:L.length≤n)(hm:∀k,(pr k).length≤m)(p:Key):(a.scOf p).length≤n*m:=by
 have h1:=count_sum L (a.scOf p) fun x hx=>by
  have:0<(a.scOf p).count x:=List.count_pos_iff.mpr hx
  rw[h.sc]at this
  exact hL x (h.hs x p (List.count_pos_iff.mp this)).2
 have h2:(L.map fun k=>(a.scOf p).count k).sum≤L.length*m:=by
  clear h1 hl hL
  induction L with
  |nil=>simp
  |cons x r ih=>
   simp only[List.map_cons,List.sum_cons,List.length_cons]
   have:(a.scOf p).count x≤m:=by rw[h.sc];exact Nat.le_trans List.count_le_length (hm x)
   rw[Nat.succ_mul];omega
 exact Nat.le_trans h1 (Nat.le_trans h2 (Nat.mul_le_mul_right m hl))
end AS
noncomputable abbrev PV.ints(L:List Int):PV:=.list (L.map .int)
noncomputable abbrev PV.mat(M:List (List Int)):PV:=.list (M.map PV.ints)
noncomputable def ix{α:Type}[Inhabited α](L:List α)(k:Int):α:=L.getD k.toNat default
section
variable{C:Cx}{env:Env}{Γ:Gam}{l r e i:Expr}{p p':Pos}
theorem V.name{x:Str}{n:Nat}{pv:PV}(hx:Γ.lookup x=some (some (n,pv)))(hk:isVar (env.kindOf x)=true)(hd:(x==("__debug__":Str))=false:=by rfl):Ev C env Γ (.Name x p) false pv:=by
 cases n with
 |zero=>exact(Ev.name hx hk rfl hd).uns
 |succ n=>exact Ev.name hx hk rfl hd
theorem V.int{j:Int}{k:Nat}:Ev C env Γ (.Constant (.int j) k p) false (.int j):=Ev.int
theorem V.bool{b:Bool}{k:Nat}:Ev C env Γ (.Constant (.bool b) k p) false (.bool b):=Ev.bool
theorem V.add{a b:Int}(h1:Ev C env Γ l false (.int a))(h2:Ev C env Γ r false (.int b)):Ev C env Γ (.BinOp l .Add r p) false (.int (a+b)):=Ev.add_int h1 h2
theorem V.sub{a b:Int}(h1:Ev C env Γ l false (.int a))(h2:Ev C env Γ r false (.int b)):Ev C env Γ (.BinOp l .Sub r p) false (.int (a - b)):=Ev.sub_int h1 h2
theorem V.mul{a b:Int}(h1:Ev C env Γ l false (.int a))(h2:Ev C env Γ r false (.int b))(hm:IntMulOk a b):Ev C env Γ (.BinOp l .Mult r p) false (.int (a*b)):=Ev.mul_int h1 h2 hm
theorem V.mod{a b:Int}(h1:Ev C env Γ l false (.int a))(h2:Ev C env Γ r false (.int b))(hb:b≠0):Ev C env Γ (.BinOp l .Mod r p) false (.int (a.fmod b)):=Ev.mod_int h1 h2 hb
theorem V.fdiv{a b:Int}(h1:Ev C env Γ l false (.int a))(h2:Ev C env Γ r false (.int b))(hb:b≠0)(hs:b.natAbs<1073741824):Ev C env Γ (.BinOp l .FloorDiv r p) false (.int (a.fdiv b)):=Ev.floordiv_int h1 h2 hb hs
theorem V.neg{a:Int}(h1:Ev C env Γ e false (.int a)):Ev C env Γ (.UnaryOp .USub e p) false (.int (-a)):=Ev.neg h1
theorem V.item{α:Type}[Inhabited α]{L:List α}{g:α->PV}{k:Int}(h1:Ev C env Γ l false (.list (L.map g)))(h2:Ev C env Γ i false (.int k))(h0:0≤k)(hlt:k<L.length)(hsz:L.length≤lim)
  (hpl:∀o iv,∃ops,subscripted i false o iv=operate ops (getItem o iv):=by intro _ _;exact⟨_,rfl⟩):Ev C env Γ (.Subscript l i p) false (g (ix L k)):=
 Ev.item h1 h2 h0 (by unfold lim at hsz;omega) (by
  unfold ix
  have:k.toNat<L.length:=by omega
  rw[List.getElem?_map,List.getD_eq_getElem?_getD,List.getElem?_eq_getElem this];rfl) hpl
theorem V.cmp{op:CmpOp}{x y z:PV}(h1:Ev C env Γ l false x)(h2:Ev C env Γ r false y)(hop:Cop C env Γ op false false x y z)(hm:behindInMarks op r=false:=by with_unfolding_all rfl):Ev C env Γ (.Compare l [op] [r] p) false z:=Ev.cmp h1 h2 hop hm
theorem V.cmpB{op:CmpOp}{x y:PV}{b:Bool}(h1:Ev C env Γ l false x)(h2:Ev C env Γ r false y)(hop:Cop C env Γ op false false x y (.bool b))(hm:behindInMarks op r=false:=by with_unfolding_all rfl):EvB C env Γ (.Compare l [op] [r] p) b:=EvB.cmp h1 h2 hop hm
theorem V.builtin{x:Str}{v:Value}(hk:env.kindOf x=some .globalImplicit)(hg:C.glob x=none)(hv:bootBuiltins x=some v)(hn:x≠"__name__":=by decide)(hd:(x==("__debug__":Str))=false:=by rfl):Ev C env Γ (.Name x p) true (.raw v):=Ev.builtin hk hg hv hn hd
theorem V.call{id:Str}{args:List Expr}{f:Value}{xs:List PV}{y:PV}(hf:Ev C env Γ (.Name id p) true (.raw f))(ha:EvL C env Γ args false xs)(hB:Built C env Γ f false xs false y)
  (hne:∀env,∃x rest,backTo p' (starEach args env)=(false,x)::rest:=by intro _;exact⟨_,_,rfl⟩) (hplain:∀env,(backTo p' (starEach args env)).any (·.1)=false:=by intro _;rfl):
  Ev C env Γ (.Call (.Name id p) args [] p') false y:=Ev.call hf ha hB hne hplain
theorem V.nilL:EvL C env Γ [] false []:=EvL.nil
theorem V.consL{es:List Expr}{x:PV}{xs:List PV}(h1:Ev C env Γ e false x)(h2:EvL C env Γ es false xs)(hs:∀env,starEach (e::es) env=(false,eval e env)::starEach es env:=by intro _;rfl):EvL C env Γ (e::es) false (x::xs):=EvL.cons h1 h2 hs
theorem V.k0{x:PV}(h:Ev C env Γ e false x)(hi:x.imm=true:=by rfl):EvK C env Γ e 0 x:=EvK.of_ev (Ev.imm h hi)
theorem V.t{x:PV}(h:Ev C env Γ e false x)(hi:x.imm=true:=by rfl){md:Bool}:Ev C env Γ e md x:=Ev.imm h hi
theorem ints_imm(L:List Int):∀x∈L.map PV.int,x.imm=true:=fun x hx=>by
 obtain⟨a,_,rfl⟩:=List.mem_map.mp hx;rfl
theorem V.k1{L:List Int}(h:EvN C env Γ e false (L.map .int)):EvK C env Γ e 1 (.ints L):=EvN.k1i h (ints_imm L)
theorem V.e0{x:PV}(h:Ev C env Γ e false x)(hi:x.imm=true:=by rfl):EvE C env Γ e 0 x:=EvE.of_ev (Ev.imm h hi)
theorem V.evn{xs:List PV}(h:EvN C env Γ e false xs):Ev C env Γ e false (.list xs):=EvN.ev h
theorem V.list{es:List Expr}{xs:List PV}(h:EvL C env Γ es false xs)(hsz:xs.length≤lim):EvN C env Γ (.List es p) false xs:=EvN.list h hsz
theorem V.addL{xs ys:List PV}(h1:Ev C env Γ l false (.list xs))(h2:Ev C env Γ r false (.list ys))(hsz:xs.length+ys.length≤lim):EvN C env Γ (.BinOp l .Add r p) false (xs++ys):=EvN.add h1 h2 hsz
theorem V.iteB{t x y:Expr}{b:Bool}{u v:PV}(ht:EvB C env Γ t b)(hx:b=true->Ev C env Γ x false u)(hy:b=false->Ev C env Γ y false v):Ev C env Γ (.IfExp t x y p) false (if b then u else v):=by
 have:=Ev.ite (p:=p) (f:=fun x:PV=>x) ht hx hy
 cases b<;>exact this
theorem V.map{α β:Type}{dp:Nat}{elt:Expr}{scope:Scope}{x:Str}{px:Pos}{iter:Expr}{md:Bool}{L:List α}{g:α->PV}{h:α->β}{g':β->PV}{names:List (Str×NameKind)}(K:KOk env names)
  (h1:EvI C env Γ iter md (L.map g)) (hs:scopeFitsN names scope=true) (hown:scope.names.lookup x=some .local∨scope.names.lookup x=some .cell) (hΓ:(inner scope Γ).lookup x=some none)
  (he:∀D cells,∀a∈L,EvE C (CE scope env D cells) ((x,some (bn md,g a))::inner scope Γ) elt dp (g' (h a))) (hsz:L.length≤lim)
  (hcd:x≠"__classdict__":=by decide) (hf:∀env x,foldedSetIterable iter env x=pure x:=by intro _ _;rfl):
  EvC C env Γ (.ListComp elt [⟨.Name x px,iter,[],0⟩] scope p) dp ((L.map h).map g'):=by
 rw[List.map_map]
 exact EvC.map h1 (ScopeOk.ofK K hs) hown hΓ he hsz hcd hf
theorem V.filt{α β:Type}{dp:Nat}{elt test:Expr}{scope:Scope}{x:Str}{px:Pos}{iter:Expr}{md:Bool}{L:List α}{g:α->PV}{h:α->β}{g':β->PV}{q:α->Bool}{names:List (Str×NameKind)}(K:KOk env names)
  (h1:EvI C env Γ iter md (L.map g)) (hs:scopeFitsN names scope=true) (hown:scope.names.lookup x=some .local∨scope.names.lookup x=some .cell) (hΓ:(inner scope Γ).lookup x=some none)
  (ht:∀D cells,∀a∈L,EvB C (CE scope env D cells) ((x,some (bn md,g a))::inner scope Γ) test (q a))
  (he:∀D cells,∀a∈L,q a=true->EvE C (CE scope env D cells) ((x,some (bn md,g a))::inner scope Γ) elt dp (g' (h a))) (hsz:L.length≤lim)
  (hcd:x≠"__classdict__":=by decide) (hf:∀env x,foldedSetIterable iter env x=pure x:=by intro _ _;rfl):
  EvC C env Γ (.ListComp elt [⟨.Name x px,iter,[test],0⟩] scope p) dp (((L.filter q).map h).map g'):=by
 rw[List.map_map]
 exact EvC.filter h1 (ScopeOk.ofK K hs) hown hΓ ht he hsz hcd hf
end
noncomputable def upto(n:Int):List Int:=(List.range n.toNat).map Int.ofNat
theorem rlen_up(n:Int):rlen 0 n 1=n.toNat:=by
 unfold rlen Builtin.Range.rangeSize
 simp
 omega
theorem rints_up(n:Int):rints 0 n 1=upto n:=by
 unfold rints upto
 rw[rlen_up]
 apply List.map_congr_left
 intro a _
 simp
theorem mem_upto{n i:Int}:i∈upto n↔0≤i∧i<n:=by
 unfold upto
 simp only[List.mem_map,List.mem_range]
 constructor
 ·rintro⟨a,ha,rfl⟩
  have:(Int.ofNat a)=(a:Int):=rfl
  omega
 ·rintro⟨h1,h2⟩
  exact⟨i.toNat,by omega,by show((i.toNat:Nat):Int)=i;omega⟩
theorem upto_len(n:Int):(upto n).length=n.toNat:=by simp[upto]
theorem upto_get{n:Int}{j:Nat}{i:Int}(h:(upto n)[j]?=some i):i=j∧(j:Int)<n:=by
 unfold upto at h
 rw[List.getElem?_map]at h
 cases hq:(List.range n.toNat)[j]? with
 |none=>rw[hq]at h;cases h
 |some a=>
  rw[hq]at h
  have h1:=(List.getElem?_eq_some_iff.mp hq)
  obtain⟨h2,h3⟩:=h1
  simp at h2 h3
  have:(Int.ofNat a)=i:=Option.some.inj h
  subst this
  subst h3
  exact⟨rfl,by omega⟩
theorem range_small(n:Int)(hn:n≤1000000)(h0:0≤n):Builtin.Range.small 0 n 1=true:=by
 have fl:∀k:Int,0≤k->k≤1000001->Builtin.Range.rangeFitsLong k=true:=fun k h1 h2=>by
  unfold Builtin.Range.rangeFitsLong
  simp only[Bool.and_eq_true,decide_eq_true_eq]
  omega
 have hs:Builtin.Range.rangeSize 0 n 1=n:=by
  unfold Builtin.Range.rangeSize
  by_cases h:0<n
  ·simp[h]
  ·have:n=0:=by omega
   subst this;rfl
 unfold Builtin.Range.small
 rw[hs,fl 0 (by omega) (by omega),fl n h0 (by omega),fl 1 (by omega) (by omega),if_pos (by decide),fl (n+(1 - 1)) (by omega) (by omega)]
 simp
section
variable{C:Cx}{env:Env}{Γ:Gam}{e:Expr}{md:Bool}
theorem V.rngI{n:Int}(h:Ev C env Γ e md (.rng 0 n 1))(hn:n≤1000000)(h0:0≤n)(hN:C.hd=false:=by assumption):EvI C env Γ e md ((upto n).map .int):=by
 have:=EvI.rng h (range_small n hn h0) (by rw[rlen_up];omega)
 rwa[rints_up]at this
end
section
variable{C:Cx}{env:Env}{Γ:SGam}{rest:List Stmt}{P:AFlow->SGam->Prop}
theorem EvX.dn{n:Nat}(hn:n+1≤C.lev){e:Expr}{R:SGam->PV->Prop}(h:EvX (C.l (C.lev - 1)).up env Γ e R):EvX C env Γ e R:=by
 have:=Cx.down C hn
 rwa[this]at h
theorem Ev.dn{n:Nat}(hn:n+1≤C.lev){Γ:Gam}{e:Expr}{md:Bool}{x:PV}(h:Ev (C.l (C.lev - 1)).up env Γ e md x):Ev C env Γ e md x:=by
 have:=Cx.down C hn
 rwa[this]at h
theorem EvL.up{n:Nat}(hn:n+1≤C.lev){Γ:Gam}{es:List Expr}{md:Bool}{xs:List PV}(h:EvL C env Γ es md xs):EvL (C.l (C.lev - 1)).up env Γ es md xs:=by
 have:=Cx.down C hn
 rwa[this]
theorem ArgsS.up{n:Nat}(hn:n+1≤C.lev){Γ:Gam}{ts:List (Bool×Sem Value)}{xs:List PV}(h:ArgsS C env Γ ts xs):ArgsS (C.l (C.lev - 1)).up env Γ ts xs:=by
 have:=Cx.down C hn
 rwa[this]
end
section
variable{C:Cx}{env:Env}{Γ:SGam}
theorem EvX.methA{x name:Str}{p apos pos:Pos}{args:List Expr}{n m:Nat}{a a':AS}{fa:Addr}{xs:List PV}{pv:PV}(k:SortK C.K)(mk:MethK C.K name fa)(hn:m+1≤C.lev)(hx:Γ.lookup x=some (some (n+1,.sorter a)))(ha:EvL C env (evG Γ) args true xs)(hM:FnM (C.l m) fa a xs pv a')
  (hbase:∀env,attributeBase (.Name x p) name env (eval (.Name x p) env)=eval (.Name x p) env:=by intro _;rfl)
  (hform:∀env,methodCallForm (args.length+([]:List Keyword).length) (backTo pos (starEach args env)) (backToKw pos (keywordEach [] env))=true:=by intro _;rfl)
  (hline:(apos.endLine==pos.line)=true:=by rfl) (hne:∀env,backTo pos (starEach args env)=[]∨∃x r,backTo pos (starEach args env)=(false,x)::r:=by intro _;first|exact .inr ⟨_,_,rfl⟩|exact .inl rfl)
  (hplain:∀env,(backTo pos (starEach args env)).any (·.1)=false:=by intro _;rfl) (hdb:(x==("__debug__":Str))=false:=by rfl):
  EvX C env Γ (.Call (.Attribute (.Name x p) name apos) args [] pos) (fun Γ' q=>q=pv∧Γ'=(x,some (n+1,.sorter a'))::Γ):=
 .dn hn (EvX.methA0 (C:=C.l (C.lev - 1)) k mk hx (ha.up hn) (hM.up (C:=C.l (C.lev - 1)) (by show m≤C.lev - 1;omega)) hbase hform hline hne hplain hdb)
theorem EvX.methSA{x name:Str}{p apos pos:Pos}{args:List Expr}{n m:Nat}{a a':AS}{fa:Addr}{xs:List PV}{pv:PV}(k:SortK C.K)(mk:MethK C.K name fa)(hn:m+1≤C.lev)(hx:Γ.lookup x=some (some (n+1,.sorter a)))(ha:ArgsS C env (evG Γ) (backTo pos (starEach args env)) xs)(hM:FnM (C.l m) fa a xs pv a')
  (hbase:∀env,attributeBase (.Name x p) name env (eval (.Name x p) env)=eval (.Name x p) env:=by intro _;rfl)
  (hform:∀env,methodCallForm (args.length+([]:List Keyword).length) (backTo pos (starEach args env)) (backToKw pos (keywordEach [] env))=false:=by intro _;rfl)
  (hstar:∀env,(backTo pos (starEach args env)).any (·.1)=true:=by intro _;rfl) (hdb:(x==("__debug__":Str))=false:=by rfl):
  EvX C env Γ (.Call (.Attribute (.Name x p) name apos) args [] pos) (fun Γ' q=>q=pv∧Γ'=(x,some (n+1,.sorter a'))::Γ):=
 .dn hn (EvX.methSA0 (C:=C.l (C.lev - 1)) k mk hx (ha.up hn) (hM.up (C:=C.l (C.lev - 1)) (by show m≤C.lev - 1;omega)) hbase hform hstar hdb)
theorem V.fn{Γ:Gam}{id:Str}{p pos:Pos}{args:List Expr}{fa:Addr}{d:Stmt}{dflt:Value}{m:Nat}{md:Bool}{xs:List PV}{y:PV}(hn:m+1≤C.lev)(hk:env.kindOf id=some .globalImplicit)(hg:C.glob id=some (.ref fa))(f:FnAt C.K fa d dflt)
  (ha:EvL C env Γ args md xs) (hF:Fn (C.l m) fa xs y)
  (hne:∀env,∃x rest,backTo pos (starEach args env)=(false,x)::rest:=by intro _;exact⟨_,_,rfl⟩) (hdb:(id==("__debug__":Str))=false:=by rfl):
  Ev C env Γ (.Call (.Name id p) args [] pos) md y:=by
 obtain⟨ob,fd,f1,f2,_⟩:=f.ex
 exact .dn hn (Ev.fn (C:=C.l (C.lev - 1)) hk hg f1 f2 (ha.up hn) (hF.up (C:=C.l (C.lev - 1)) (by show m≤C.lev - 1;omega)) hne hdb)
theorem V.methP{Γ:Gam}{x name:Str}{p apos pos:Pos}{args:List Expr}{n m:Nat}{a:AS}{fa:Addr}{xs:List PV}{pv:PV}(k:SortK C.K)(mk:MethK C.K name fa)(hn:m+1≤C.lev)(hx:Γ.lookup x=some (some (n,.sorter a)))(hkv:isVar (env.kindOf x)=true)(ha:∀md,EvL C env Γ args md xs)(hM:∀St:SState,St.abs=a->Fn (C.l m) fa (.srt St::xs) pv)
  (hbase:∀env,attributeBase (.Name x p) name env (eval (.Name x p) env)=eval (.Name x p) env:=by intro _;rfl)
  (hform:∀env,methodCallForm (args.length+([]:List Keyword).length) (backTo pos (starEach args env)) (backToKw pos (keywordEach [] env))=true:=by intro _;rfl)
  (hline:(apos.endLine==pos.line)=true:=by rfl) (hne:∀env,backTo pos (starEach args env)=[]∨∃x r,backTo pos (starEach args env)=(false,x)::r:=by intro _;first|exact .inr ⟨_,_,rfl⟩|exact .inl rfl)
  (hplain:∀env,(backTo pos (starEach args env)).any (·.1)=false:=by intro _;rfl) (hdb:(x==("__debug__":Str))=false:=by rfl):
  Ev C env Γ (.Call (.Attribute (.Name x p) name apos) args [] pos) false pv:=by
 have h:=Ev.methP0 (C:=C.l (C.lev - 1)) (md:=n==0) k mk hx hkv ((ha _).up hn) (fun St e=>(hM St e).up (C:=C.l (C.lev - 1)) (by show m≤C.lev - 1;omega)) rfl hbase hform hline hne hplain hdb
 have h2:Ev C env Γ (.Call (.Attribute (.Name x p) name apos) args [] pos) (n==0) pv:=.dn hn h
 cases n with
 |zero=>exact h2.uns
 |succ n=>exact h2
end
section
variable{C:Cx}{env:Env}{Γ:Gam}{p p':Pos}{e e2 e3:Expr}{names:List (Str×NameKind)}{md:Bool}
theorem V.len(T:TopK C)(K:KOk env names)(hk:names.lookup ("len":Str)=some .globalImplicit){xs:List PV}(h:Ev C env Γ e false (.list xs))(hs:xs.length≤lim)
  (hse:∀env,starEach [e] env=(false,eval e env)::starEach [] env:=by intro _;rfl) (hne:∀env,∃x rest,backTo p' (starEach [e] env)=(false,x)::rest:=by intro _;exact⟨_,_,rfl⟩) (hpl:∀env,(backTo p' (starEach [e] env)).any (·.1)=false:=by intro _;rfl):
  Ev C env Γ (.Call (.Name "len" p) [e] [] p') md (.int xs.length):=
 Ev.imm (V.call (V.builtin (v:=.builtin "len") (K.glb _ hk) (T.none (x:="len") (by decide)) (by decide +kernel)) (V.consL h V.nilL hse) (Built.len_list hs) hne hpl) rfl
theorem V.range1(T:TopK C)(K:KOk env names)(hk:names.lookup ("range":Str)=some .globalImplicit){a:Int}(h:Ev C env Γ e false (.int a))
  (hse:∀env,starEach [e] env=(false,eval e env)::starEach [] env:=by intro _;rfl) (hne:∀env,∃x rest,backTo p' (starEach [e] env)=(false,x)::rest:=by intro _;exact⟨_,_,rfl⟩) (hpl:∀env,(backTo p' (starEach [e] env)).any (·.1)=false:=by intro _;rfl):
  Ev C env Γ (.Call (.Name "range" p) [e] [] p') md (.rng 0 a 1):=
 Ev.call (m1:=true) (V.builtin (v:=.type "range") (K.glb _ hk) (T.none (x:="range") (by decide)) (by decide +kernel)) (EvL.cons (Ev.imm h rfl) EvL.nil hse) Built.range1 hne hpl
theorem V.minL(T:TopK C)(K:KOk env names)(hN:C.hd=false)(hk:names.lookup ("min":Str)=some .globalImplicit){ns:List Int}{M:Int}(h:Ev C env Γ e false (.ints ns))(hM:M∈ns)(hle:∀a∈ns,M≤a)
  (hse:∀env,starEach [e] env=(false,eval e env)::starEach [] env:=by intro _;rfl) (hne:∀env,∃x rest,backTo p' (starEach [e] env)=(false,x)::rest:=by intro _;exact⟨_,_,rfl⟩) (hpl:∀env,(backTo p' (starEach [e] env)).any (·.1)=false:=by intro _;rfl):
  Ev C env Γ (.Call (.Name "min" p) [e] [] p') md (.int M):=
 Ev.imm (V.call (V.builtin (v:=.builtin "min") (K.glb _ hk) (T.none (x:="min") (by decide)) (by decide +kernel)) (V.consL h V.nilL hse) (Built.min_list hM hle hN) hne hpl) rfl
theorem V.maxL(T:TopK C)(K:KOk env names)(hN:C.hd=false)(hk:names.lookup ("max":Str)=some .globalImplicit){ns:List Int}{M:Int}(h:Ev C env Γ e false (.ints ns))(hM:M∈ns)(hle:∀a∈ns,a≤M)
  (hse:∀env,starEach [e] env=(false,eval e env)::starEach [] env:=by intro _;rfl) (hne:∀env,∃x rest,backTo p' (starEach [e] env)=(false,x)::rest:=by intro _;exact⟨_,_,rfl⟩) (hpl:∀env,(backTo p' (starEach [e] env)).any (·.1)=false:=by intro _;rfl):
  Ev C env Γ (.Call (.Name "max" p) [e] [] p') md (.int M):=
 Ev.imm (V.call (V.builtin (v:=.builtin "max") (K.glb _ hk) (T.none (x:="max") (by decide)) (by decide +kernel)) (V.consL h V.nilL hse) (Built.max_list hM hle hN) hne hpl) rfl
theorem V.sum(T:TopK C)(K:KOk env names)(hN:C.hd=false)(hk:names.lookup ("sum":Str)=some .globalImplicit){ns:List Int}(h:Ev C env Γ e false (.ints ns))
  (hse:∀env,starEach [e] env=(false,eval e env)::starEach [] env:=by intro _;rfl) (hne:∀env,∃x rest,backTo p' (starEach [e] env)=(false,x)::rest:=by intro _;exact⟨_,_,rfl⟩) (hpl:∀env,(backTo p' (starEach [e] env)).any (·.1)=false:=by intro _;rfl):
  Ev C env Γ (.Call (.Name "sum" p) [e] [] p') md (.int ns.sum):=
 Ev.imm (V.call (V.builtin (v:=.builtin "sum") (K.glb _ hk) (T.none (x:="sum") (by decide)) (by decide +kernel)) (V.consL h V.nilL hse) (Built.sum hN) hne hpl) rfl
theorem V.typeT(T:TopK C)(K:KOk env names)(hk:names.lookup ("type":Str)=some .globalImplicit){xs:List PV}(h:Ev C env Γ e false (.tuple xs))
  (hse:∀env,starEach [e] env=(false,eval e env)::starEach [] env:=by intro _;rfl) (hne:∀env,∃x rest,backTo p' (starEach [e] env)=(false,x)::rest:=by intro _;exact⟨_,_,rfl⟩) (hpl:∀env,(backTo p' (starEach [e] env)).any (·.1)=false:=by intro _;rfl):
  Ev C env Γ (.Call (.Name "type" p) [e] [] p') md (.raw (.type "tuple")):=
 Ev.imm (V.call (V.builtin (v:=.type "type") (K.glb _ hk) (T.none (x:="type") (by decide)) (by decide +kernel)) (V.consL h V.nilL hse) Built.type_tuple hne hpl) rfl
theorem V.tyName(T:TopK C)(K:KOk env names){x:String}(hx:x∈["len","range","enumerate","min","max","sum","list","tuple","set","str","type","isinstance","repr","abs","sorted","bool","iter","ValueError","StopIteration"])(hk:names.lookup (Str.ofString x)=some .globalImplicit){v:Value}(hv:bootBuiltins (Str.ofString x)=some v)(hn:Str.ofString x≠"__name__":=by decide)(hd:(Str.ofString x==("__debug__":Str))=false:=by rfl):Ev C env Γ (.Name (Str.ofString x) p) md (.raw v):=
 Ev.builtin (K.glb _ hk) (T.none hx) hv hn hd
end
theorem eqv_nil_list(xs:List PV):(PV.list xs).eqv (.list [])=xs.isEmpty:=by
 cases xs<;>rfl
theorem eqv_nil_tuple(xs:List PV):(PV.tuple xs).eqv (.tuple [])=xs.isEmpty:=by
 cases xs<;>rfl
theorem ok_ints(L:List Int):(PV.ints L).ok=true:=by
 show PV.okds 7 (L.map PV.int)=true
 rw[PV.okds_eq]
 simp only[List.all_map,List.all_eq_true]
 intro a _;rfl
theorem ok_tints(L:List Int):(PV.tuple (L.map .int)).ok=true:=by
 show PV.okds 7 (L.map PV.int)=true
 rw[PV.okds_eq]
 simp only[List.all_map,List.all_eq_true]
 intro a _;rfl
theorem any_ints(L:List Int)(a:Int):((L.map PV.int).any fun y=>y.eqv (.int a))=decide (a∈L):=by
 rw[List.any_map,Bool.eq_iff_iff,List.any_eq_true]
 simp only[Function.comp,decide_eq_true_eq]
 constructor
 ·rintro⟨x,hx,h⟩
  have:x=a:=by simpa [PV.eqv,PV.py,PyData.eqv]using h
  exact this▸hx
 ·intro h
  exact⟨a,h,by simp[PV.eqv,PV.py,PyData.eqv]⟩
theorem allok_ints(L:List Int):(L.map PV.int).all PV.ok=true:=by
 simp only[List.all_map,List.all_eq_true]
 intro a _;rfl
section
variable{C:Cx}{env:Env}{Γ:Gam}{p:Pos}{l r:Expr}
theorem V.inI{a:Int}{L:List Int}(h1:Ev C env Γ l false (.int a))(h2:Ev C env Γ r false (.ints L))(hm:behindInMarks .In r=false:=by with_unfolding_all rfl):Ev C env Γ (.Compare l [.In] [r] p) false (.bool (decide (a∈L))):=by
 have:=V.cmp (p:=p) h1 h2 (Cop.in_list (x:=.int a) (xs:=L.map .int) rfl (allok_ints L)) hm
 rwa[any_ints]at this
theorem V.notinIB{a:Int}{L:List Int}(h1:Ev C env Γ l false (.int a))(h2:Ev C env Γ r false (.ints L))(hm:behindInMarks .NotIn r=false:=by with_unfolding_all rfl):EvB C env Γ (.Compare l [.NotIn] [r] p) (!decide (a∈L)):=by
 have:=V.cmpB (p:=p) h1 h2 (Cop.notin_list (x:=.int a) (xs:=L.map .int) rfl (allok_ints L)) hm
 rwa[any_ints]at this
theorem V.isE{xs:List PV}(h1:Ev C env Γ l false (.list xs))(h2:Ev C env Γ r false (.list []))(hx:(PV.list xs).ok=true)(hm:behindInMarks .Eq r=false:=by with_unfolding_all rfl):EvB C env Γ (.Compare l [.Eq] [r] p) xs.isEmpty:=by
 have:=V.cmpB (p:=p) h1 h2 (Cop.eq (y:=.list []) hx rfl) hm
 rwa[eqv_nil_list]at this
theorem V.notE{xs:List PV}(h1:Ev C env Γ l false (.list xs))(h2:Ev C env Γ r false (.list []))(hx:(PV.list xs).ok=true)(hm:behindInMarks .NotEq r=false:=by with_unfolding_all rfl):Ev C env Γ (.Compare l [.NotEq] [r] p) false (.bool (!xs.isEmpty)):=by
 have:=V.cmp (p:=p) h1 h2 (Cop.ne (y:=.list []) hx rfl) hm
 rwa[eqv_nil_list]at this
theorem V.notET{xs:List PV}(h1:Ev C env Γ l false (.tuple xs))(h2:Ev C env Γ r false (.tuple []))(hx:(PV.tuple xs).ok=true)(hm:behindInMarks .NotEq r=false:=by with_unfolding_all rfl):Ev C env Γ (.Compare l [.NotEq] [r] p) false (.bool (!xs.isEmpty)):=by
 have:=V.cmp (p:=p) h1 h2 (Cop.ne (y:=.tuple []) hx rfl) hm
 rwa[eqv_nil_tuple]at this
theorem V.nilE{p:Pos}:Ev C env Γ (.List [] p) false (.list []):=EvN.ev (EvN.list EvL.nil (by decide))
theorem V.nilT{p:Pos}{k:Nat}:Ev C env Γ (.Tuple [] k p) false (.tuple []):=Ev.tuple EvL.nil (by decide)
end
theorem pvs_ints(L:List Int):Key.pvs (L.map .int)=L.map .int:=by simp[Key.pvs,Key.pv]
noncomputable def EvXB(C:Cx)(env:Env)(Γ:SGam)(e:Expr)(R:SGam->Bool->Prop):Prop:=
 ∀ (A:Around) (o:Org) (s:Shared) (Q:Bool->Shared->Prop) (E:Value->Shared->Prop),Room C A->AtO C A env o Γ s->
  (∀b s' Γ',R Γ' b->AtO C A env o Γ' s'->Q b s')->wpAny (model C.prog C.w) A (isTrue e env (eval e env)) Q E s
section
variable{C:Cx}{env:Env}{Γ:SGam}{rest:List Stmt}{P:AFlow->SGam->Prop}
theorem EvXB.of{e:Expr}{b:Bool}(h:EvB C env (evG Γ) e b):EvXB C env Γ e (fun Γ' q=>Γ'=Γ∧q=b):=fun A o s Q E hr hA hq=>by
 obtain⟨S,fp,hA1,hst⟩:=id hA
 exact h A S _ s _ E hr hA1.here fun h' t' ex=>hq b _ Γ ⟨rfl,rfl⟩ (hA.ext ex t')
theorem EvXB.cmp{l r:Expr}{op:CmpOp}{p:Pos}{R1:SGam->PV->Prop}{R:SGam->Bool->Prop}(h1:EvX C env Γ l R1)
  (h2:∀Γ' x,R1 Γ' x->∃y b,Ev C env (evG Γ') r false y∧Cop C env (evG Γ') op false false x y (.bool b)∧R Γ' b)
  (hm:behindInMarks op r=false:=by with_unfolding_all rfl):EvXB C env Γ (.Compare l [op] [r] p) R:=fun A o s Q E hr hA hq=>by
 refine wpAny_isTrue_Compare1 ?_ hm
 refine h1 A o s _ E hr hA fun v S fp s' Γ' x hR hA' hst' rd=>?_
 obtain⟨y,b,e2,hop,hRb⟩:=h2 Γ' x hR
 refine e2 A S _ s' _ E hr hA'.here fun u h2 t2 ex ru=>?_
 have hv:Rd C.prog C.w (Reg false S (oldU A env s'.heap) s'.heap) h2 v x:=(rd.mono (fun a ha=>.inl (hA'.here.sub a ha)) fun a o ha e=>ex.keep a o (hA'.here.old a (hA'.here.sub a ha)).2.1 e)
 refine hop A S _ {s' with heap:=h2,toks:=t2} s'.heap v u _ E hr (hA'.here.ext ex) ex hA'.here.nsf hv ru fun z h3 t3 ex3 rz=>?_
 cases(rz true).bool_inv
 exact wpAny_truthy_bool (hq b _ Γ' hRb (AtO.ext ⟨S,fp,hA',hst'⟩ (ex.trans ex3) t3))
noncomputable def EvXL(C:Cx)(env:Env)(Γ:SGam)(es:List Expr)(R:SGam->Bool->Prop):Prop:=
 ∀ (A:Around) (o:Org) (s:Shared) (Q:Bool->Shared->Prop) (E:Value->Shared->Prop),Room C A->AtO C A env o Γ s->
  (∀b s' Γ',R Γ' b->AtO C A env o Γ' s'->Q b s')->wpAny (model C.prog C.w) A (allTrue .Or es env) Q E s
theorem EvXL.nil{R:SGam->Bool->Prop}(h:R Γ false):EvXL C env Γ [] R:=fun A o s Q E hr hA hq=>wpAny_allTrue_Or_nil (hq false s Γ h hA)
theorem EvXL.cons{x:Expr}{es:List Expr}{R1 R:SGam->Bool->Prop}(h1:EvXB C env Γ x R1)(ht:∀Γ',R1 Γ' true->R Γ' true)(hf:∀Γ',R1 Γ' false->EvXL C env Γ' es R):EvXL C env Γ (x::es) R:=fun A o s Q E hr hA hq=>
 wpAny_allTrue_Or_cons (h1 A o s _ E hr hA fun b s' Γ' hR hA'=>by
  cases b with
  |true=>exact hq true s' Γ' (ht Γ' hR) hA'
  |false=>exact hf Γ' hR A o s' Q E hr hA' hq)
theorem EvXB.ors{es:List Expr}{p:Pos}{R:SGam->Bool->Prop}(h:EvXL C env Γ es R):EvXB C env Γ (.BoolOp .Or es p) R:=fun A o s Q E hr hA hq=>wpAny_isTrue_BoolOp (h A o s Q E hr hA hq)
theorem Blk.iteX{test:Expr}{body orelse:List Stmt}{pos:Pos}{R:SGam->Bool->Prop}(hB:EvXB C env Γ test R)(k:∀Γ' b,R Γ' b->Blk C env Γ' (if b then body else orelse) (aft C env rest P)):
  Blk C env Γ (.If test body orelse pos::rest) P:=fun A o s Q E hr ht hA he=>by
 refine wpAny_execs_cons (wpAny_If ?_)
 refine hB A o s _ E hr hA fun b s' Γ' hR hA'=>?_
 have:=k Γ' b hR A o s' _ E hr ht hA' (he.aft (E:=E) hr ht)
 cases b
 ·exact wpAny_mono this (fun f s h=>by cases f<;>exact h) fun ω ω h=>h
 ·exact wpAny_mono this (fun f s h=>by cases f<;>exact h) fun ω ω h=>h
theorem Blk.enum{elts:List Expr}{e:Expr}{body:List Stmt}{fid:Str}{tk:Nat}{tp ip cp pos:Pos}{xs:List PV}(hN:C.hd=false)(hf:Ev C env (evG Γ) (.Name fid ip) true (.raw (.type "enumerate")))(h:Ev C env (evG Γ) e true (.list xs))(hsz:xs.length≤lim)
  (inv tg:Nat->SGam) (h0:Sle (inv 0) Γ) (htg:∀ (i:Nat) (x:PV),xs[i]?=some x->AsgOL C env (inv i) elts [.int i,x] (tg i))
  (step:∀ (i:Nat) (x:PV),xs[i]?=some x->Blk C env (tg i) body (fun fl Γ'=>fl= .next∧Sle (inv (i+1)) Γ'))
  (k:Blk C env (inv xs.length) rest P)
  (hel:∀env,(assignEach elts env).length=2:=by intro _;rfl) (hns:∀env,List.findIdx? (fun x=>x.fst) (assignEach elts env)=none:=by intro _;rfl)
  (hs:∀x,foldedSetIterable (.Call (.Name fid ip) [e] [] cp) env x=pure x:=by intro _;rfl)
  (hse:∀env,backTo cp (starEach [e] env)=[(false,eval e env)]:=by intro _;rfl):
  Blk C env Γ (.For (.Tuple elts tk tp) (.Call (.Name fid ip) [e] [] cp) body [] pos::rest) P:=fun A o s Q E hr ht hA he=>by
 refine wpAny_execs_cons (wpAny_For ?_ hs)
 obtain⟨S,fp,hA,hst⟩:=hA
 refine wpAny_Call_NameR ?_
 refine hf A S _ s _ E hr hA.here fun v h1 t1 ex1 r1=>?_
 cases r1.raw_inv
 rw[hse]
 refine callWith_args (.inl ⟨_,rfl⟩) ⟨_,_,rfl⟩ rfl ?_
 refine Calls.spliced_cons (h A S _ {s with heap:=h1,toks:=t1} _ E hr (hA.here.ext ex1) fun u h2 t2 ex2 ru=>Calls.spliced_nil ?_)
 obtain⟨l,vs,n,rfl,hl,ho,ra⟩:=ru.list_inv
 refine call_enumerate_list (s:={s with heap:=h2,toks:=t2}) (IsList.of_lob ho) fun h3 hE hI hsz3 hk3=>?_
 refine wpAny_pyIter_enum hE ?_
 let I:Addr:=h2.objs.size+1
 let J:Addr:=h2.objs.size
 have ex12:=ex1.trans ex2
 have ex3:Ext A env s.heap h3:=ex12.trans (.of_keeps hk3)
 let N:Addr->Prop:=fun a=>s.heap.get? a=none∧(h2.get? a).isSome=true
 have hA3:=hA.ext ex3 N fun a ha=>⟨ha.1,by obtain⟨b,hb⟩:=Option.isSome_iff_exists.mp ha.2;rw[hk3 a b hb];rfl⟩
 have hst3:Step A env o (fun a=>S a∨N a) fp {s with heap:=h3,toks:=t2}:=hst.trans ⟨⟨h3,t2,rfl⟩,fun a ha=>.inl ha,fun a ha=>ha.imp id fun q=>.inr q.1,fun y a ha=>.inl ⟨y,ha⟩,fun a b hF hn ho=>ex3.keep a b (fun e=>hF (.inl e)) ho,fun a ha=>ex3.live hA.eok.ns ha,ex3.fr⟩
 have no2:∀a,h2.objs.size≤a->h2.get? a=none:=fun a ha=>by
  cases hq:h2.get? a with
  |none=>rfl
  |some b=>exact absurd (Heap.lt_size hq) (Nat.not_lt.mpr ha)
 have no0:∀a,h2.objs.size≤a->s.heap.get? a=none:=fun a ha=>ex12.fresh hA.eok.ns (no2 a ha)
 have hlo:=ex12.highN hA.here
 have off:∀a,h2.objs.size≤a->o.s.heap.get? a=none∧mainGlobals<a∧¬(S a∨N a)∧¬frameAt A env a∧(∀y,a∉fp y)∧∀b,C.K.lookup a≠some b:=fun a ha=>by
  have h0:=no0 a ha
  refine⟨hst.fresh h0,Nat.lt_of_lt_of_le hlo ha,fun hm=>?_,fun hF=>?_,fun y hy=>?_,fun b hb=>?_⟩
  ·rcases hm with hm|hm
   ·have:=(hA.sold a hm).1;rw[h0]at this;cases this
   ·have:=hm.2;rw[no2 a ha]at this;cases this
  ·have:=hA.eok.frame_there hA.fra a hF;rw[h0]at this;cases this
  ·have:=(hA.fold y a hy).1;rw[h0]at this;cases this
  ·have:=hA.base.kin a b hb;rw[h0]at this;cases this
 have hlS:S l∨N l:=by
  rcases hl with hl|hl
  ·exact .inl hl
  ·exact .inr ⟨ex1.fresh hA.eok.ns hl,by rw[ho];rfl⟩
 have hlen:=ra.length
 refine enum_core (C:=C) (s:={s with heap:=h3,toks:=t2}) (Γ:=Γ) (xs:=xs) (l:=l) (it:=J) (I:=I) hr hA3 hst3 hlS ((IsList.of_lob ho).at fun o e=>hk3 l o e) hE hI (Nat.ne_of_gt (Nat.lt_succ_self _)) (off I (Nat.le_succ _)) (off J (Nat.le_refl _)) (fun i v hv=>?_) (by simp[hlen]) inv tg h0 hN htg hel hns (fun i x hx o' s' Q' E' hA' hn=>?_) fun s' hA'=>?_
 ·have hv':vs[i]?=some v:=by simpa using hv
  obtain⟨x,hx,rx⟩:=ra.getv hv'
  refine⟨x,hx,rx.there.mono (fun a ha=>?_) fun a o ha e=>hk3 a o e⟩
  rcases ha.1 with hm|hm
  ·exact .inl hm
  ·exact .inr ⟨ex1.fresh hA.eok.ns hm,ha.2⟩
 ·exact step i x hx A o' s' Q' E' hr ht hA' ⟨fun s'' Γ' hp hA2=>hn s'' (hA2.weak hp.2),(fun s'' Γ' hp hA2=>nomatch hp.1),(fun s'' Γ' hp hA2=>nomatch hp.1),(fun v s'' pv Γ' hp hR=>nomatch hp.1),(fun v s'' pv Γ' hp hR=>nomatch hp.1)⟩
 ·exact St.nil (k A o s' Q E hr ht hA' he)
end
theorem well_int_inv{P:Params}{h:Heap}{v:Value}{i:Int}(x:Well P h v (ofPy (.int i))):∃t,v= .int i t:=by
 cases x with
 |int i t=>exact⟨t,rfl⟩
theorem rd_intsAll{prog:Program}{w:World}{P:Params}{S:Addr->Prop}{h:Heap}:∀ (xs:List Int) (vs:List Value),WellAll P h vs (ofPys (xs.map .int))->RdAll prog w S h vs (xs.map .int)
 |[],vs,x=>by
  cases x
  exact .nil
 |i::xs,vs,x=>by
  cases x with
  |cons h1 h2=>
   obtain⟨t,rfl⟩:=well_int_inv h1
   exact .cons (.int i t) (rd_intsAll xs _ h2)
theorem rd_ints{prog:Program}{w:World}{P:Params}{S:Addr->Prop}{h:Heap}{a:Addr}{xs:List Int}(ha:S a)(x:Well P h (.ref a) (ofPy (.list (xs.map .int)))):Rd prog w S h (.ref a) (.ints xs):=by
 have x':Well P h (.ref a) (.list (ofPys (xs.map .int))):=x
 cases x' with
 |list e hw=>exact .list (n:=0) ha e (rd_intsAll xs _ hw)
theorem ok_of{C:Cx}{h:Heap}{mg:Str->Option Value}(KX:C.K.In h)(g:h.Ns mainGlobals mg)(hk:(C.K.lookup mainGlobals).isSome=true):C.Ok∧∀x,mg x=C.glob x:=by
 obtain⟨o,es,ep,ho,hd,hs,hf⟩:=g
 obtain⟨o',ho'⟩:=Option.isSome_iff_exists.mp hk
 have e:=KX _ _ ho'
 rw[ho]at e
 cases e
 have hg:C.gdict=some es:=by unfold Cx.gdict;rw[ho'];simp only;rw[hd]
 exact⟨⟨es,hg,hs⟩,fun x=>by unfold Cx.glob;rw[hg];exact(hf x).symm⟩
theorem room_caller(C:Cx)(hl:C.lev≤12):Room C callerA:=by
 have h1:callerA.depth+40+4*12<recursionLimit:=by show(1+300)+40+4*12<1000;omega
 have h2:callerA.units+400+40*12<cLine:=by show 4+400+40*12<9900;omega
 exact⟨fun ω=>rfl,Nat.lt_of_le_of_lt (Nat.add_le_add_left (Nat.mul_le_mul_left 4 hl) _) h1,Nat.lt_of_le_of_lt (Nat.add_le_add_left (Nat.mul_le_mul_left 40 hl) _) h2⟩
theorem law_call{C:Cx}{fa fb:Addr}{p:Program}{loose:List Str}{mn:ExcName->Option Value}{mg mb:Str->Option Value}{a:Addr}{xs:List Int}{s₁:Shared}{c:ClaimW}{cl:Str->Option Addr}{mean:ExcName->Option Value}{args:List WData}(hF:Fn C fb [.ints xs] (.bool true))(hr:Room C.up callerA)(T:Top p loose mn mg mb s₁.heap)(KX:C.K.In s₁.heap)(hk:(C.K.lookup mainGlobals).isSome=true)(hm:mg (Str.ofString "law")=some (.ref fa))(hl:C.glob (Str.ofString "law")=some (.ref fb))(w:Well C.w.params s₁.heap (.ref a) (ofPy (.list (xs.map .int))))
  (hc:(∀cls,c.raises args cls=false)) (hp:c.post args (.bool true) args=true) (hg:s₁.gens=#[]):
  wpAny (model C.prog C.w) callerA (call (.ref fa) [.ref a]) (fun v s'=>GoodWG c cl mean args s₁ (.ok (.ret v)) s') (fun e s'=>GoodWG c cl mean args s₁ (.error e) s') s₁:=by
 refine enter_call ?_
 obtain⟨ok,hgl⟩:=ok_of KX T.g hk
 rw[hgl,hl]at hm
 cases hm
 have b:Base C s₁.heap:=⟨KX,T.nolimit,⟨mb,T.b,T.builtins⟩,T.nodigits⟩
 have hns:∀x,¬onStack callerA x:=fun x hx=>by
  obtain⟨l,hl,e,he,_⟩:=hx
  cases hl
  cases he
 refine hF callerA (fun x=>(s₁.heap.get? x).isSome=true) s₁ [.ref a] _ hr ok b ⟨[],rfl,fun e he=>nomatch he⟩ (fun x hx=>⟨hx,hns x⟩) (.cons (rd_ints ?_ w) .nil) fun v h' t' k r=>?_
 ·cases w with
  |list e _=>rw[e];rfl
 ·cases r with
  |bool b=>
   refine⟨.inl ⟨_,.bool true,[],rfl,hc,.bool true,hp,fun ω=>⟨List.nodup_nil,fun a ha=>nomatch ha⟩⟩,?_,rfl,.of_eq hg⟩
   exact OldK.of_keep fun b o e=>k.keep b o (hns b) e
theorem law_post(l:OpenLaw)(args:List WData):l.row.claim.post args (.bool true) args=true:=by
 show(WShape.has [] (.bool true) .bool&&WTm.holds [] (.eq .res (.lit (.bool true))) {args:=args,res:=some (.bool true),after:=args})=true
 have h1:WShape.has [] (.bool true) .bool=true:=by simp[WShape.has,WShape.arms]
 rw[h1]
 simp[WTm.holds,WTm.value,W.same]
theorem lim_of{n:Nat}(h:n≤1000):n≤lim:=Nat.le_trans h (by decide)
theorem map_lim{α β:Type}{f:α->β}{L:List α}(h:L.length≤1000):(L.map f).length≤lim:=by rw[List.length_map];exact lim_of h
theorem upto_lenN{n:Nat}:(upto (n:Int)).length=n:=by rw[upto_len];rfl
theorem upto_lim{n:Nat}(hn:n≤1000):(upto (n:Int)).length≤lim:=by rw[upto_lenN];exact lim_of hn
theorem upto_getN{n j:Nat}{i:Int}(h:(upto (n:Int))[j]?=some i):0≤i∧i<n∧i=j:=by
 obtain⟨h1,h2⟩:=upto_get h
 omega
section
variable{C:Cx}{env:Env}{Γ:Gam}{l i e:Expr}{p:Pos}
theorem V.itemN{α:Type}[Inhabited α]{L:List α}{g:α->PV}{k:Int}{n:Nat}(h1:Ev C env Γ l false (.list (L.map g)))(h2:Ev C env Γ i false (.int k))(h0:0≤k)(hlt:k<n)(hl:L.length=n)(hn:n≤1000)
  (hpl:∀o iv,∃ops,subscripted i false o iv=operate ops (getItem o iv):=by intro _ _;exact⟨_,rfl⟩):Ev C env Γ (.Subscript l i p) false (g (ix L k)):=
 V.item h1 h2 h0 (hl▸hlt) (hl▸lim_of hn) hpl
theorem V.rngN{md:Bool}{n:Nat}(h:Ev C env Γ e md (.rng 0 n 1))(hn:n≤1000)(hN:C.hd=false):EvI C env Γ e md ((upto n).map .int):=
 V.rngI h (by omega) (by omega) hN
end
end Ts
namespace Ts
open PySem PySem.Spec PySem.Calls PyProof.Rows PySem.W
end Ts
namespace Ts
open PySem PySem.Spec PySem.Calls PyProof.Rows PySem.W
theorem walks_items{prog:Program}{w:World}{A:Around}(hh:A.handled=none)(it d:Addr)(hne:d≠it)(kvs:List (Key×Value))(ep:Nat):
  WalksT prog w A it [it,d] [it] kvs.length
   (fun i vals=>∃k v key,kvs[i]?=some (k,v)∧(mixKind prog w).is k key=true∧vals=#[key,v])
   (fun i h=>(∃ok ov,IsItemIter h it d i kvs.length ep ok ov)∧h.DictAt (mixKind prog w) d kvs ep)
   (fun i T h=>(∃ok ov,IsItemIterOut h it d (i+1) kvs.length ep ok ov T)∧h.DictAt (mixKind prog w) d kvs ep∧T≠it)where
 sub:=fun b hb=>by rw[List.mem_singleton.mp hb];exact List.mem_cons_self ..
 frame:=fun i h h' hst hk=>⟨hst.1.imp fun ok h1=>h1.imp fun ov h2=>hk it (List.mem_cons_self ..) _ h2,hst.2.at fun o e=>hk d (by simp) o e⟩
 item:=fun i s Q E hi hst hQ=>by
  obtain⟨⟨ok,ov,he⟩,hm⟩:=hst
  have hx:kvs[i]?=some (kvs[i].1,kvs[i].2):=List.getElem?_eq_getElem hi
  refine wpAny_pyNext_items_item he hm hx fun key h' hk ho hT hsz hkk=>?_
  exact hQ s.heap.objs.size #[key,kvs[i].2] h' s.toks ⟨_,_,key,hx,hk,rfl⟩ (Nat.le_refl _) ⟨_,hT,rfl,_,rfl⟩ ⟨⟨_,_,ho⟩,hm.at fun o e=>hkk d o hne e,Nat.ne_of_gt (Heap.lt_size he)⟩ fun b o hb e=>hkk b o (fun e'=>hb (by simp[e'])) e
 go:=fun elts k pos i T s Q E hm hQ=>by
  obtain⟨⟨ok,ov,ho⟩,hd,hT⟩:=hm
  exact wpAny_letOwnedTupleGo_items ho fun h' he' hs'=>hQ h' ⟨⟨ok,ov,he'⟩,hd.at fun o e=>(hs'.2 d hne).trans e⟩ fun b o hb e=>(hs'.2 b fun e'=>hb (by simp[e'])).trans e
 apart:=fun i T h hm hT=>hm.2.2 (List.mem_singleton.mp hT)
 done:=fun s Q E hst hQ=>by
  obtain⟨⟨ok,ov,he⟩,hm⟩:=hst
  exact wpAny_pyNext_items_end hh he hm (List.getElem?_eq_none (Nat.le_refl _)) fun h' hx=>hQ h' s.toks fun b o hb e=>hx b o (fun e'=>hb (by simp[e'])) e
 self:=fun i s Q E hst hQ=>by
  obtain⟨⟨ok,ov,he⟩,_⟩:=hst
  exact kcp_self he hQ
section
variable{C:Cx}{A:Around}{env:Env}{o:Org}{Γ:SGam}{s:Shared}{Q:Flow->Shared->Prop}{E:Value->Shared->Prop}{rest:List Stmt}{S:Addr->Prop}{fp:Str->List Addr}{h:Heap}
theorem Step.offB{B:Addr->Prop}{h₁:Heap}(hst:Step A env o S fp s)(hB:∀a,B a->o.s.heap.get? a=none)(hk:∀a b,¬B a->s.heap.get? a=some b->h₁.get? a=some b)(t:Nat):Step A env o S fp {s with heap:=h₁,toks:=t}:=by
 obtain⟨h,t0,e⟩:=hst.same
 have ne:∀a,(o.s.heap.get? a).isSome=true->¬B a:=fun a ha hb=>by rw[hB a hb]at ha;cases ha
 refine⟨⟨h₁,t,by rw[e]⟩,hst.grow,hst.newS,hst.newF,fun a b hF hn ho=>hk a b (ne a (by rw[ho];rfl)) (hst.keep a b hF hn ho),fun a ha=>?_,fun a b hs hl ho=>?_⟩
 ·obtain⟨b,hb⟩:=Option.isSome_iff_exists.mp (hst.live a ha)
  rw[hk a b (ne a ha) hb];rfl
 ·obtain⟨sl,h1⟩:=hst.fr a b hs hl ho
  exact⟨sl,hk a _ (ne a (by rw[ho];rfl)) h1⟩
inductive TInv(C:Cx)(A:Around)(env:Env)(o:Org)(inv:Nat->SGam->Prop)(xl:Nat)(S:Addr->Prop)(h1:Heap)(wr:List Addr)(St:Nat->Heap->Prop)(n:Nat)(s':Shared):Prop
 |mk (i:Nat) (Γi:SGam) (Si:Addr->Prop) (fpi:Str->List Addr):i≤xl->n=xl - i->inv i Γi->At C A env Si fpi Γi s'.heap->Step A env o Si fpi s'->(∀a,S a->Si a)->(∀a b,S a->h1.get? a=some b->s'.heap.get? a=some b)->St i s'.heap->(∀a∈wr,¬Si a∧∀y,a∉fpi y)->TInv C A env o inv xl S h1 wr St n s'
theorem walkT_core{elts:List Expr}{tk:Nat}{tp:Pos}{body orelse:List Stmt}{xs:List (List PV)}{I:Addr}{fl wr:List Addr}{Pt:Nat->Array Value->Prop}{St:Nat->Heap->Prop}{Mid:Nat->Addr->Heap->Prop}{R:Result->Shared->Prop}(hr:Room C A)(hA:At C A env S fp Γ s.heap)(hst:Step A env o S fp s)
  (W:WalksT C.prog C.w A I fl wr xs.length Pt St Mid) (hS0:St 0 s.heap)
  (hwr:∀a∈wr,o.s.heap.get? a=none∧mainGlobals<a∧¬S a∧¬frameAt A env a∧(∀y,a∉fp y)∧∀b,C.K.lookup a≠some b)
  (hfl:∀a∈fl,a∈wr∨S a) (hlive:∀i h,St i h->∀a∈wr,(h.get? a).isSome=true)
  (hxs:∀i vals,Pt i vals->∃ys,xs[i]?=some ys∧RdAll C.prog C.w S s.heap vals.toList ys) (inv:Nat->SGam->Prop) (tg:List PV->SGam->SGam) (h0:inv 0 Γ)
  (hN:C.hd=false) (htg:∀ (i:Nat) (ys:List PV) Γi,xs[i]?=some ys->inv i Γi->AsgOL C env Γi elts ys (tg ys Γi)∧(assignEach elts env).length=ys.length)
  (hns:List.findIdx? (fun x=>x.fst) (assignEach elts env)=none)
  (step:∀ (i:Nat) (ys:List PV) Γi,xs[i]?=some ys->inv i Γi->∀ (o':Org) (s':Shared) (Q':Flow->Shared->Prop) (E':Value->Shared->Prop),AtO C A env o' (tg ys Γi) s'->(∀s'' Γ'',inv (i+1) Γ''->AtO C A env o' Γ'' s''->Q' .next s'')->wpAny (model C.prog C.w) A (execs body env) Q' E' s')
  (k:∀s' Γ',inv xs.length Γ'->AtO C A env o Γ' s'->wpAny (model C.prog C.w) A (execs orelse env) (fun f s₃=>R (.ok f) s₃) (notedBy (model C.prog C.w) A env fun e s'=>R (.error e) s') s'):
  codeAny (model C.prog C.w) A (.forLoop (.Tuple elts tk tp) (.ref I) body orelse env) R s:=by
 refine forLoop_core (TInv C A env o inv xs.length S s.heap wr St) (fun n s' hI' Qn En QB hE hNn hV hQn hQb hQr=>?_) xs.length ⟨0,Γ,S,fp,Nat.zero_le _,rfl,h0,hA,hst,fun ω h=>h,fun ω ω ω e=>e,hS0,fun a ha=>⟨(hwr a ha).2.2.1,(hwr a ha).2.2.2.2.1⟩⟩
 obtain⟨i,Γi,Si,fpi,hi,hn,hinv,hAi,hsi,hSS,hkS,hSti,hIi⟩:=hI'
 have hB:∀a,a∈wr->mainGlobals<a∧(∀b,C.K.lookup a≠some b)∧¬Si a∧¬frameAt A env a∧∀y,a∉fpi y:=fun a ha=>⟨(hwr a ha).2.1,(hwr a ha).2.2.2.2.2,(hIi a ha).1,(hwr a ha).2.2.2.1,(hIi a ha).2⟩
 have off:∀ {s1:Shared} (h2:Heap) (t2:Nat),Step A env o Si fpi s1->(∀a b,a∉wr->s1.heap.get? a=some b->h2.get? a=some b)->Step A env o Si fpi {s1 with heap:=h2,toks:=t2}:=fun h2 t2 x k=>x.offB (fun a ha=>(hwr a ha).1) k t2
 rcases Nat.lt_or_ge i xs.length with hlt|hge
 ·refine W.item i s' _ _ hlt hSti fun T vals h2 t2 hv hT hTup hMid hk2=>hV _ _ ?_
  refine W.go elts tk tp i T {s' with heap:=h2,toks:=t2} _ _ hMid fun h3 hSt3 hk3=>?_
  have hTB:T∉wr:=W.apart i T h2 hMid
  obtain⟨ys,hx,rx⟩:=hxs i vals hv
  obtain⟨htA,htL⟩:=htg i ys Γi hx hinv
  refine wpAny_assign_Tuple (s:={s' with heap:=h3,toks:=t2}) (hr.1 hN) (items:=vals) (hTup.elim fun ob h=>⟨ob,hk3 T ob hTB h.1,h.2⟩) (by rw[htL,←rx.length];simp) hns fun h4 hx4=>?_
  have kT:∀a b,h3.get? a=some b->h4.get? a=some b:=fun a b hb=>hx4 a b (Nat.ne_of_lt (Heap.lt_size hb)) hb
  have k4:∀a b,a∉wr->s'.heap.get? a=some b->h4.get? a=some b:=fun a b ha hb=>kT a b (hk3 a b ha (hk2 a b ha hb))
  have hkS4:∀a b,S a->s.heap.get? a=some b->h4.get? a=some b:=fun a b ha hb=>k4 a b (fun h=>(hB a h).2.2.1 (hSS a ha)) (hkS a b ha hb)
  refine htA A o Si fpi {s' with heap:=h4,toks:=t2} _ _ _ hr (hAi.quiet (fun a=>a∈wr) k4 hB) (off h4 t2 hsi k4) (rx.mono hSS hkS4) fun fp5 h5 t5 hA5 hs5 hk5 hf5=>?_
  have hSt5:St (i+1) h5:=W.frame _ _ _ (W.frame _ _ _ hSt3 fun b ω ob hob=>kT b ob hob) fun b hb ob hob=>hk5 b ob ((hfl b hb).elim (fun h=>(hwr b h).2.2.2.1) fun h=>(hA.sold b h).2.1) hob
  have hB5:∀a,a∈wr->∀y,a∉fp5 y:=fun a ha y hy=>(hIi a ha).2 y (hf5 y a hy)
  refine step i ys Γi hx hinv ⟨Si,fp5,{s' with heap:=h5,toks:=t5}⟩ _ _ _ ⟨Si,fp5,hA5,Step.refl _ _ _ _ _⟩ fun s'' Γ'' hinv'' hA''=>(hQn (xs.length - (i+1)) s'' (sub_lt_of hn hlt) ?_).1
  obtain⟨S6,fp6,hA6,hs6⟩:=hA''
  have hNF:∀a,S a->¬frameAt A env a∧∀y,a∉fp5 y:=fun a ha=>(hA5.sold a (hSS a ha)).2
  refine⟨i+1,Γ'',S6,fp6,hlt,rfl,hinv'',hA6,hs5.trans hs6,fun a ha=>hs6.grow a (hSS a ha),fun a b ha hb=>hs6.keep a b (hNF a ha).1 (hNF a ha).2 (hk5 a b (hNF a ha).1 (hkS4 a b ha hb)),W.frame _ _ _ hSt5 fun b hb ob hob=>?_,fun a ha=>hs6.notS (hIi a ha).1 (hB5 a ha) (hlive _ _ hSt5 a ha)⟩
  rcases hfl b hb with hb|hb
  ·exact hs6.keep _ ob (hwr b hb).2.2.2.1 (hB5 b hb) hob
  ·exact hs6.keep _ ob (hNF b hb).1 (hNF b hb).2 hob
 ·have hie:i=xs.length:=Nat.le_antisymm hi hge
  refine W.done s' _ _ (hie▸hSti) fun h2 t2 hk2=>hNn _ ?_
  exact wpAny_mono (k _ Γi (hie▸hinv) ⟨Si,fpi,hAi.quiet (fun a=>a∈wr) hk2 hB,off h2 t2 hsi hk2⟩) (fun ω ω h=>h) hE
end
section
variable{C:Cx}{env:Env}{Γ:SGam}{rest:List Stmt}{P:AFlow->SGam->Prop}
theorem Blk.items{elts:List Expr}{e:Expr}{body:List Stmt}{tk:Nat}{tp apos cp pos:Pos}{kvs:List (Key×PV)}(hN:C.hd=false)(h:Ev C env (evG Γ) e true (.dict kvs))
  (inv:Nat->SGam->Prop) (tg:List PV->SGam->SGam) (h0:inv 0 Γ) (htg:∀ (i:Nat) k v Γi,kvs[i]?=some (k,v)->inv i Γi->AsgOL C env Γi elts [k.pv,v] (tg [k.pv,v] Γi))
  (step:∀ (i:Nat) k v Γi,kvs[i]?=some (k,v)->inv i Γi->Blk C env (tg [k.pv,v] Γi) body (fun fl Γ'=>fl= .next∧inv (i+1) Γ'))
  (k:∀Γ',inv kvs.length Γ'->Blk C env Γ' rest P)
  (hel:∀env,(assignEach elts env).length=2:=by intro _;rfl) (hns:∀env,List.findIdx? (fun x=>x.fst) (assignEach elts env)=none:=by intro _;rfl)
  (hs:∀x,foldedSetIterable (.Call (.Attribute e "items" apos) [] [] cp) env x=pure x:=by intro _;rfl)
  (hbase:∀env,attributeBase e "items" env (eval e env)=eval e env:=by intro _;rfl)
  (hfew:∀env,((backTo cp (starEach [] env)).all (fun x=>!x.1)&&(backToKw cp (keywordEach [] env)).all (fun x=>x.1.isSome)
   &&decide (([]:List Expr).length+([]:List Keyword).length+(if([]:List Keyword).isEmpty then 0 else 1)<30))=true:=by intro _;rfl)
  (hline:(apos.endLine==cp.line)=true:=by rfl) (htrees:∀env,backTo cp (starEach [] env)=[]:=by intro _;rfl):
  Blk C env Γ (.For (.Tuple elts tk tp) (.Call (.Attribute e "items" apos) [] [] cp) body [] pos::rest) P:=fun A o s Q E hr ht hA he=>by
 refine wpAny_execs_cons (wpAny_For ?_ hs)
 obtain⟨S,fp,hA,hst⟩:=hA
 refine wpAny_Call_method (hbase env) (hfew env) hline PySem.F.plainAttrs_dict PySem.F.slot_dict_items PySem.F.type_dict_items ?_
 refine h A S _ s _ E hr hA.here fun v h1 t1 ex1 rd=>?_
 obtain⟨d,vs,rfl,hd,hlo,hdo,ra⟩:=rd.dict_inv
 refine⟨hdo.typeIs,fun b e=>?_,?_⟩
 ·cases e
  obtain⟨ob,es,ep,ho,hr,_⟩:=hdo
  exact⟨ob,ho,hr.2.1⟩
 rw[htrees env]
 refine method_meetsIn PySem.F.slot_dict_items PySem.F.entry_dict_items rfl (PySem.evalArgs_none ⟨rfl,hdo.typeIs,PySem.F.args_dict_items_1 _,_,meets_dict_items (mixKind C.prog C.w) d (noSys hlo),⟨_,hdo⟩,?_⟩)
 have hlen:((kvs.map (·.1)).zip vs).length=kvs.length:=by have:=ra.length;simp at this;simp[this]
 have hget:∀ (i:Nat) k v,((kvs.map (·.1)).zip vs)[i]?=some (k,v)->∃y,kvs[i]?=some (k,y)∧Rd C.prog C.w (Reg true S (oldU A env s.heap) s.heap) h1 v y:=fun i k v hx=>by
  rw[List.getElem?_zip_eq_some]at hx
  obtain⟨y,hy,ry⟩:=ra.getv hx.2
  rw[List.getElem?_map]at hy hx
  cases hq:kvs[i]? with
  |none=>rw[hq]at hy;cases hy
  |some p=>
   rw[hq]at hy hx
   cases hy
   have e:p.1=k:=Option.some.inj hx.1
   exact⟨p.2,by rw[←e],ry⟩
 generalize (kvs.map (·.1)).zip vs=zs at hdo hlen hget
 obtain⟨ob,es,ep,d1,d2,d3,d4,d5,d6⟩:=hdo
 let h2:Heap:=h1.push {cls:=.type "dict_items",data:=.fields #[.ref d]}
 have k12:∀b ob,h1.get? b=some ob->h2.get? b=some ob:=fun b ob e=>Heap.get?_push_of_some _ e
 have hm2:h2.DictAt (mixKind C.prog C.w) d zs ep:=⟨ob,es,k12 _ _ d1,d2,d3,d4,d5,d6⟩
 refine wpAny_pyIter_items (s:={s with heap:=h2,toks:=t1}) ⟨_,Heap.get?_push_size _ rfl,rfl,rfl⟩ hm2 ?_
 have hne:d≠h2.objs.size:=Nat.ne_of_lt (Heap.lt_size (k12 _ _ d1))
 let h3:Heap:=h2.push {cls:=.type "dict_itemiterator",data:=.fields #[.none,.bool false,.ref d,.int 0 0,.int zs.length 0,.int ep 0,.none,.none]}
 have k23:∀b ob,h2.get? b=some ob->h3.get? b=some ob:=fun b ob e=>Heap.get?_push_of_some _ e
 have ex3:Ext A env s.heap h3:=(ex1.push _).push _
 let N:Addr->Prop:=fun a=>s.heap.get? a=none∧(h1.get? a).isSome=true
 have hA3:=hA.ext ex3 N fun a ha=>⟨ha.1,by obtain⟨b,hb⟩:=Option.isSome_iff_exists.mp ha.2;rw[k23 a b (k12 a b hb)];rfl⟩
 have hst3:Step A env o (fun a=>S a∨N a) fp {s with heap:=h3,toks:=t1}:=hst.trans ⟨⟨h3,t1,rfl⟩,fun a ha=>.inl ha,fun a ha=>ha.imp id fun q=>.inr q.1,fun y a ha=>.inl ⟨y,ha⟩,fun a b hF hn ho=>ex3.keep a b (fun e=>hF (.inl e)) ho,fun a ha=>ex3.live hA.eok.ns ha,ex3.fr⟩
 have hI0:s.heap.get? h2.objs.size=none:=(ex1.push _).fresh_at hA.eok.ns
 have toN:∀a,Reg true S (oldU A env s.heap) s.heap a->(h1.get? a).isSome=true->S a∨N a:=fun a ha hl=>ha.imp id fun h=>⟨h,hl⟩
 have hW:=walks_items (prog:=C.prog) (w:=C.w) (hr.1 hN) h2.objs.size d hne zs ep
 have hxl:zs.length=(kvs.map fun p=>[p.1.pv,p.2]).length:=by rw[List.length_map];exact hlen
 have hS0:(∃ok ov,IsItemIter h3 h2.objs.size d 0 zs.length ep ok ov)∧h3.DictAt (mixKind C.prog C.w) d zs ep:=⟨⟨_,_,Heap.get?_push_size _ rfl⟩,hm2.at fun o e=>k23 _ _ e⟩
 rw[hxl]at hW
 have gx:∀ (i:Nat) ys,(kvs.map fun p=>[p.1.pv,p.2])[i]?=some ys->∃k v,kvs[i]?=some (k,v)∧[k.pv,v]=ys:=fun i ys hy=>by
  rw[List.getElem?_map]at hy
  cases hq:kvs[i]? with
  |none=>rw[hq]at hy;cases hy
  |some p=>rw[hq]at hy;exact⟨p.1,p.2,rfl,Option.some.inj hy⟩
 refine walkT_core (C:=C) (s:={s with heap:=h3,toks:=t1}) (Γ:=Γ) (xs:=kvs.map fun p=>[p.1.pv,p.2]) hr hA3 hst3 hW (by rw[←hxl];exact hS0) (fun a ha=>?_) (fun a ha=>?_) (fun i h hi a ha=>?_) (fun i vals hv=>?_) inv tg h0 hN (fun i ys Γi hy hi=>?_) (hns env) (fun i ys Γi hy hi o' s' Q' E' hA' hn=>?_) fun s' Γ' hi hA'=>?_
 ·rw[List.mem_singleton.mp ha]
  refine⟨hst.fresh hI0,(ex1.push _).high hA.here,fun hm=>?_,fun hF=>?_,fun y hy=>?_,fun b hb=>?_⟩
  ·rcases hm with hm|hm
   ·have:=(hA.sold _ hm).1;rw[hI0]at this;cases this
   ·obtain⟨b,hb⟩:=Option.isSome_iff_exists.mp hm.2
    exact absurd (Heap.lt_size (k12 _ _ hb)) (Nat.lt_irrefl _)
  ·have:=hA.eok.frame_there hA.fra _ hF;rw[hI0]at this;cases this
  ·have:=(hA.fold y _ hy).1;rw[hI0]at this;cases this
  ·have:=hA.base.kin _ b hb;rw[hI0]at this;cases this
 ·rcases List.mem_cons.mp ha with rfl|ha
  ·exact .inl (List.mem_singleton.mpr rfl)
  ·rw[List.mem_singleton.mp ha]
   exact .inr (toN d hd (by rw[d1];rfl))
 ·rw[List.mem_singleton.mp ha]
  obtain⟨⟨ok,ov,h1⟩,_⟩:=hi
  rw[h1];rfl
 ·obtain⟨k,v,key,hx,hk,rfl⟩:=hv
  obtain⟨y,hy,ry⟩:=hget i k v hx
  refine⟨[k.pv,y],by rw[List.getElem?_map,hy];rfl,.cons ?_ (.cons ?_ .nil)⟩
  ·cases k with
   |int j=>obtain⟨t,rfl⟩:=Value.isInt_shape hk;exact .int _ _
   |str x=>obtain⟨t,rfl⟩:=Value.isStrOf_shape hk;exact .str _ _
  ·exact ry.there.mono (fun a ha=>toN a ha.1 ha.2) fun a o ω e=>k23 a o (k12 a o e)
 ·obtain⟨k,v,h1,rfl⟩:=gx i ys hy
  exact⟨htg i k v Γi h1 hi,hel env⟩
 ·obtain⟨k,v,h1,rfl⟩:=gx i ys hy
  exact step i k v Γi h1 hi A o' s' Q' E' hr ht hA' ⟨fun s'' Γ' hp hA2=>hn s'' Γ' hp.2 hA2,(fun s'' Γ' hp hA2=>nomatch hp.1),(fun s'' Γ' hp hA2=>nomatch hp.1),(fun v s'' pv Γ' hp hR=>nomatch hp.1),(fun v s'' pv Γ' hp hR=>nomatch hp.1)⟩
 ·rw[List.length_map]at hi
  exact St.nil (k Γ' hi A o s' Q E hr ht hA' he)
end
structure Laid0(C:Cx)(A:Around)(s:Shared)(x dx n2:Addr)(g:Value)(env:Env)(h:Heap):Prop where
 kd:∀y,env.kindOf y=(fnames (tsS 0)).lookup y
 room:Room C (A.deeper env)
 top:TopF (A.deeper env) env
 at_:At C (A.deeper env) env (fun ω=>False) (fun ω=>[]) [(sf,some (0,.raw (.ref x))),(("graph":Str),some (0,.raw g))] h
 srt:SorterAt C.prog C.w h x (S0 x dx n2)
 n0:s.heap.get? n2=none
 nlo:mainGlobals<n2
 nfr:∀a,a=dx∨a=n2∨((s.heap.get? a).isSome=true∧¬onStack A a)->¬frameAt (A.deeper env) env a
 keep:∀a b,¬onStack A a->a≠dx->s.heap.get? a=some b->h.get? a=some b
 fr:∀a b,onStack A a->s.heap.get? a=some b->∃sl,h.get? a=some {b with slots:=sl}
 on:∀a,onStack (A.deeper env) a↔a=env.locals∨onStack A a
 own:∀a,ownFr env a->s.heap.get? a=none
section
variable{C:Cx}
theorem init_core(k:SortK C.K)(f:FnAt C.K 73 (tsS 0) (.ref 66)){A:Around}{s:Shared}{x dx:Addr}{R:Result->Shared->Prop}{vs:List Value}{g:Value}(hr:Room C.up A)(cx:C.Ok)(B:Base C s.heap)(fx:Fra C A s.heap)
  (hbind:∀fd:FuncData,fd.params=fargs (tsS 0)->fd.defaults= .ref 66->BindsTo s fd ⟨.ref x::vs,[]⟩ [(sf,.ref x),(("graph":Str),g)])
  (hx:s.heap.get? x=some ⟨.ref TSC,some dx,.plain,#[]⟩) (hdx:s.heap.get? dx=some (dictOf [] 0)) (hxd:x≠dx) (hlo:mainGlobals<dx∧∀o,C.K.lookup dx≠some o) (hos: ¬onStack A x∧¬onStack A dx)
  (kk:∀env h t n2,Laid0 C A s x dx n2 g env h->wpAny (model C.prog C.w) (A.deeper env) (execs [nthS (fbody (tsS 0)) 4] env) (fun f s'=>R (.ok (.ret (match f with| .ret v=>v|_=>.none))) s')
   (fun e s'=>wpAny (model C.prog C.w) (A.deeper env) (leaving env e) (fun ω s''=>R (.error e) s'') (fun e' s''=>R (.error e') s'') s') {s with heap:=h,toks:=t}):
  codeAny (model C.prog C.w) A (.call (.ref 73) ⟨.ref x::vs,[]⟩) R s:=by
 obtain⟨ob,fd,f1,f2,f3,f4,f5,f6,f7,f8,f9⟩:=f.ex
 have hself:fd.scope.names.lookup sf=some .local:=by rw[f6];rfl
 have hgr:fd.scope.names.lookup ("graph":Str)=some .local:=by rw[f6];rfl
 refine code_enter (S:=fun ω=>False) (fp:=fun ω=>[]) (Γ:=[(sf,some (0,.raw (.ref x))),(("graph":Str),some (0,.raw g))]) (fun binds h1=>binds=[(sf,.ref x),(("graph":Str),g)]∧h1=s.heap) hr cx B fx f1 f2 (.of f3) f4 f5 (fun Q E hq=>?_) (fun binds h1 hp=>?_) (fun ω ω ω h=>nomatch h) (fun ω=>List.nodup_nil) fun env h2 t2 hsc hk hfr hA hkd hr' hon htop=>?_
 ·exact hbind fd f7 f8 _ _ _ _ (hq _ s.heap s.toks ⟨rfl,rfl⟩)
 ·obtain rfl:=hp.1.symm;obtain rfl:=hp.2.symm
  refine⟨fun ω ω e=>e,(show([sf,"graph"]:List Str).Nodup by decide),fun y hy=>?_,(fun ω h=>h.elim),(fun ω h=>h.elim),(fun ω ω h=>nomatch h),fun y n pv hl=>?_⟩
  ·simp only[List.mem_cons,List.not_mem_nil,or_false]at hy
   rcases hy with rfl|rfl
   ·exact .inl hself
   ·exact .inl hgr
  ·rw[List.lookup_cons]at hl
   cases hb:y==sf with
   |true=>
    rw[hb]at hl;cases hl
    rw[beq_iff_eq.mp hb]
    exact⟨_,List.mem_cons_self,.val (.raw _)⟩
   |false=>
    rw[hb]at hl
    simp only[List.lookup_cons]at hl
    cases hb2:y==("graph":Str)with
    |true=>
     rw[hb2]at hl;cases hl
     rw[beq_iff_eq.mp hb2]
     exact⟨g,by simp,.val (.raw _)⟩
    |false=>rw[hb2]at hl;cases hl
 ·have own:∀a o,s.heap.get? a=some o->¬ownFr env a:=fun a o ho h=>by have:=hfr a h;rw[ho]at this;cases this
  have hsd:∀a o,s.heap.get? a=some o->¬onStack A a->¬onStack (A.deeper env) a:=fun a o ho hn hs=>((hon a).mp hs).elim (fun e=>own a o ho (.inl e)) hn
  have nfr:∀a o,s.heap.get? a=some o->¬onStack A a->¬frameAt (A.deeper env) env a:=fun a o ho hn h=>by
   rcases h with(h|h)|h
   ·exact own a o ho (.inl h)
   ·exact hsd a o ho hn h
   ·exact own a o ho (.inr h)
  have hfx: ¬frameAt (A.deeper env) env dx:=nfr dx _ hdx hos.2
  have hx':s.heap.get? x=some ⟨.ref TSC,some dx,.plain,#[]⟩∧x≠dx∧¬onStack (A.deeper env) x:=⟨hx,hxd,hsd x _ hx hos.1⟩
  have l0:Laying C (A.deeper env) env [(sf,some (0,.raw (.ref x))),(("graph":Str),some (0,.raw g))] s.heap dx (dictOf [] 0) {s with heap:=h2,toks:=t2} s:=
   ⟨hA,⟨h2,t2,rfl⟩,hk dx _ hdx,⟨hlo.1,hlo.2,hfx⟩,fun a o ω ω ho=>hk a o ho,fun a o ω ho=>⟨o.slots,hk a o ho⟩,hfr⟩
  refine lay_dict (fun v h=>∃d,v= .ref d∧h2.get? d=none∧h.get? d=some {cls:=.type "dict",data:=.dict #[]}∧mainGlobals<d) k (by decide) l0 hx' rfl rfl (fun ω ω ω=>by show 1≤1000;decide) (fun Q hq=>?_) fun s1 v1 h1' q1 hv1 l1 T1 U1=>?_
  ·refine wpAny_Dict_empty ?_
   have ex:Ext (A.deeper env) env h2 (h2.push {cls:=.type "dict",data:=.dict #[]}):=(Ext.refl _ _ _).push _
   exact hq _ _ _ ex ⟨h2.objs.size,rfl,fresh_size,Heap.get?_push_size _ rfl,(Ext.refl _ _ _).highN hA.here⟩
  refine lay_dict (fun v ω=>v= .none) k (by decide) l1 hx' rfl rfl (fun ω ω ω=>by show 2≤1000;decide) (fun Q hq=>?_) fun s2 v2 h2' q2 hv2 l2 T2 U2=>?_
  ·exact wpAny_Constant_none (hq _ _ _ (.refl _ _ _) rfl)
  refine lay_dict (fun v ω=>∃t,v= .int 0 t) k (by decide) l2 hx' rfl rfl (fun ω ω ω=>by show 3≤1000;decide) (fun Q hq=>?_) fun s3 v3 h3' q3 hv3 l3 T3 U3=>?_
  ·exact wpAny_Constant_int (hq _ _ _ (.refl _ _ _) ⟨_,rfl⟩)
  refine lay_dict (fun v ω=>∃t,v= .int 0 t) k (by decide) l3 hx' rfl rfl (fun ω ω ω=>by show 4≤1000;decide) (fun Q hq=>?_) fun s4 v4 h4' q4 hv4 l4 T4 U4=>?_
  ·exact wpAny_Constant_int (hq _ _ _ (.refl _ _ _) ⟨_,rfl⟩)
  obtain⟨n2,rfl,hn1,hn2,hn3⟩:=hv1
  obtain⟨t3,rfl⟩:=hv3
  obtain⟨t4,rfl⟩:=hv4
  subst hv2
  have hn0:s.heap.get? n2=none:=by
   cases hq:s.heap.get? n2 with
   |none=>rfl
   |some b=>rw[hk n2 b hq]at hn1;cases hn1
  have hnl:n2≠env.locals:=fun e=>by obtain⟨m',om,_,_,hom,_⟩:=hA.eok.ns;rw[←e,hn1]at hom;cases hom
  have hnd:n2≠dx:=fun e=>by rw[e,hdx]at hn0;cases hn0
  have hnx:n2≠x:=fun e=>by rw[e,hx]at hn0;cases hn0
  have hnf: ¬frameAt (A.deeper env) env n2:=fun hf=>by have:=hA.eok.frame_there hA.fra n2 hf;rw[hn1]at this;cases this
  have hnz: ¬Fz (A.deeper env) env n2:=fun h=>hnf (.inl h)
  have o4:=U4 n2 _ hnz hnd (U3 n2 _ hnz hnd (U2 n2 _ hnz hnd (T1 n2 _ hnl hnd hn2)))
  have k0:∀a b,¬onStack A a->a≠dx->s.heap.get? a=some b->s4.heap.get? a=some b:=fun a b hs hd hb=>l4.keep a b (hsd a b hb hs) hd hb
  obtain⟨h4,t4',e4⟩:=l4.same
  subst e4
  refine kk env h4 t4' n2 ⟨fun y=>by rw[hkd y,f6],hr',htop,l4.at_,⟨rfl,hn3,?_,k0 x _ hos.1 hxd hx,⟨(q1,q2,q3,q4),t3,t4,_,l4.inst⟩,⟨_,#[],0,o4,⟨rfl,rfl,rfl⟩,rfl,?_,?_,List.nodup_nil⟩,(fun ω h=>nomatch h),(fun ω h=>nomatch h)⟩,hn0,hn3,fun a ha=>?_,k0,fun a b hs hb=>l4.fr a b ((hon a).mpr (.inr hs)) hb,hon,hfr⟩
  ·show [x,dx,n2].Nodup
   simp only[List.nodup_cons,List.mem_cons,List.not_mem_nil,or_false,not_or]
   exact⟨⟨hxd,Ne.symm hnx⟩,Ne.symm hnd,fun h=>h,List.nodup_nil⟩
  ·intro e he;simp at he
  ·exact .nil
  ·rcases ha with rfl|rfl|⟨ha,hs⟩
   ·exact hfx
   ·exact hnf
   ·obtain⟨b,hb⟩:=Option.isSome_iff_exists.mp ha
    exact nfr a b hb hs
theorem Laid0.conv{A:Around}{s:Shared}{x dx n2:Addr}{g:Value}{env:Env}{h:Heap}(l:Laid0 C A s x dx n2 g env h)(B:Base C s.heap){S:Addr->Prop}{pv:PV}(hx:s.heap.get? x=some ⟨.ref TSC,some dx,.plain,#[]⟩)(hdx:s.heap.get? dx=some (dictOf [] 0))
  (hS:∀a,S a->(s.heap.get? a).isSome=true∧¬onStack A a∧a≠x∧a≠dx) (rg:Rd C.prog C.w S s.heap g pv) (lo:∀a,a=x∨a=dx->mainGlobals<a∧(∀o,C.K.lookup a≠some o)∧¬onStack A a):
  At C (A.deeper env) env S (fun y=>if y=sf then [x,dx,n2]else []) [(sf,some (1,.srt (S0 x dx n2))),(("graph":Str),some (0,pv))] h where
 cx:=l.at_.cx
 base:=l.at_.base
 eok:=l.at_.eok
 fra:=l.at_.fra
 sold:=fun a ha=>by
  obtain⟨h1,h2,h3,h4⟩:=hS a ha
  obtain⟨b,hb⟩:=Option.isSome_iff_exists.mp h1
  refine⟨by rw[l.keep a b h2 h4 hb];rfl,l.nfr a (.inr (.inr ⟨h1,h2⟩)),fun y hy=>?_⟩
  split at hy
  ·simp only[List.mem_cons,List.not_mem_nil,or_false]at hy
   rcases hy with e|e|e
   ·exact h3 e
   ·exact h4 e
   ·rw[e,l.n0]at hb;cases hb
  ·cases hy
 disj:=fun y z a hy hz=>by
  by_cases h1:y=sf
  ·by_cases h2:z=sf
   ·rw[h1,h2]
   ·rw[if_neg h2]at hz;cases hz
  ·rw[if_neg h1]at hy;cases hy
 ndup:=fun y=>by
  split
  ·exact l.srt.nd
  ·exact List.nodup_nil
 fold:=fun y a hy=>by
  split at hy
  ·have h1:=l.srt.there a hy
   simp only[List.mem_cons,List.not_mem_nil,or_false]at hy
   rcases hy with e|e|e
   ·have:=lo a (.inl e)
    exact⟨h1,l.nfr a (.inr (.inr ⟨by rw[e,hx];rfl,this.2.2⟩)),this.1,this.2.1⟩
   ·have:=lo a (.inr e)
    exact⟨h1,l.nfr a (.inl e),this.1,this.2.1⟩
   ·refine⟨h1,l.nfr a (.inr (.inl e)),e▸l.nlo,fun o ho=>?_⟩
    have:=B.kin a o ho
    rw[e,l.n0]at this;cases this
  ·cases hy
 vars:=fun y n pv' hy=>by
  rw[List.lookup_cons]at hy
  cases hb:y==sf with
  |true=>
   rw[hb]at hy;cases hy
   rw[beq_iff_eq.mp hb]
   obtain⟨h0,v,h1,r⟩:=l.at_.vars sf 0 (.raw (.ref x)) rfl
   cases r.zero.1.raw_inv
   exact⟨h0,_,h1,by rw[if_pos rfl];exact .srt l.srt⟩
  |false=>
   rw[hb]at hy
   simp only[List.lookup_cons]at hy
   cases hb2:y==("graph":Str)with
   |true=>
    rw[hb2]at hy;cases hy
    rw[beq_iff_eq.mp hb2]
    obtain⟨h0,v,h1,r⟩:=l.at_.vars ("graph":Str) 0 (.raw g) rfl
    cases r.zero.1.raw_inv
    refine⟨h0,_,h1,?_⟩
    rw[if_neg (by decide)]
    exact .val (rg.mono (fun ω h=>h) fun a o ha e=>l.keep a o (hS a ha).2.1 (hS a ha).2.2.2 e)
   |false=>rw[hb2]at hy;cases hy
end
theorem take_get{α:Type}{L:List α}{i:Nat}{x:α}(h:L[i]?=some x):L.take (i+1)=L.take i++[x]:=by rw[List.take_add_one,h];rfl
noncomputable def addAll(G:List (Key×List Key))(a:AS):AS:=G.foldl (fun a p=>a.add p.1 p.2) a
theorem add_rdy(a:AS)(k:Key)(ps:List Key):(a.add k ps).rdy=a.rdy:=by
 have h:∀ (ps:List Key) (a:AS),(ps.foldl (fun a p=>a.addPred k p) a).rdy=a.rdy:=fun ps=>by
  induction ps with
  |nil=>exact fun a=>rfl
  |cons p ps ih=>exact fun a=>(ih _).trans (AS.addPred_view a k p).1
 unfold AS.add
 rw[h]
 unfold AS.upd AS.get
 split<;>rfl
theorem addAll_rdy:∀ (G:List (Key×List Key)) (a:AS),(addAll G a).rdy=a.rdy:=fun G=>by
 induction G with
 |nil=>exact fun a=>rfl
 |cons p G ih=>exact fun a=>(ih _).trans (add_rdy a p.1 p.2)
noncomputable def grPV(G:List (Key×List Key)):List (Key×PV):=G.map fun p=>(p.1,.list (Key.pvs p.2))
structure GrOk(G:List (Key×List Key)):Prop where
 small:∀ (i:Nat) (p:Key×List Key),G[i]?=some p->(addAll (G.take i) AS.zero).small (2*p.2.length+4)
 len:∀ (i:Nat) (p:Key×List Key),G[i]?=some p->p.2.length≤lim
noncomputable def GI(G:List (Key×List Key))(X0:SState)(i:Nat)(Γ:SGam):Prop:=∃X,X.abs=addAll (G.take i) AS.zero∧Grows X0 X∧Sle [(sf,some (1,.srt X)),(("graph":Str),some (0,.dict (grPV G)))] Γ
section
variable{C:Cx}
theorem graph_loop(T:TopK C)(hN:C.hd=false)(hl:4≤C.lev){env:Env}(hkd:∀y,env.kindOf y=(fnames (tsS 0)).lookup y)(hi:interactive env=false){G:List (Key×List Key)}(hG:GrOk G){X0:SState}(h0:X0.abs=AS.zero):
  Blk C env [(sf,some (1,.srt X0)),(("graph":Str),some (0,.dict (grPV G)))] [nthS (fbody (tsS 0)) 4] (fun fl Γ'=>fl= .next∧GI G X0 G.length Γ'):=by
 have K:KOk env (fnames (tsS 0)):=.of hkd
 refine Blk.ite (b:=true) (EvB.cmp (m1:=true) (m2:=true) (x:=.dict (grPV G)) (y:=.none) (Ev.name rfl (K.var "graph" rfl)) Ev.nne (Cop.isnot_none (b:=false) rfl)) ?_
 refine Blk.items (C:=C) (kvs:=grPV G) hN (Ev.name rfl (K.var "graph" rfl)) (GI G X0) (fun ys Γi=>match ys with|[x,y]=>("predecessors",some (0,y))::("node",some (0,x))::Γi|_=>Γi) ⟨X0,h0,⟨rfl,fun ω h=>h⟩,.refl _⟩
  (fun i k v Γi ω ω=>AsgOL.cons (AsgO.name (K.loc "node" (.inl rfl))) (AsgOL.cons (AsgO.name (K.loc "predecessors" (.inl rfl))) AsgOL.nil)) (fun i k v Γi hx hinv=>?_) fun Γ' hinv=>?_
 ·obtain⟨X,h1,h2,h3⟩:=hinv
  obtain⟨p,hp,e⟩:∃p,G[i]?=some p∧(p.1,PV.list (Key.pvs p.2))=(k,v):=by
   unfold grPV at hx
   rw[List.getElem?_map]at hx
   cases hq:G[i]? with
   |none=>rw[hq]at hx;cases hx
   |some p=>rw[hq]at hx;exact⟨p,rfl,Option.some.inj hx⟩
  cases e
  have hlp:=hG.len i p hp
  refine Blk.weak (Γ':=("predecessors",some (0,.list (Key.pvs p.2)))::("node",some (0,p.1.pv))::[(sf,some (1,.srt X)),(("graph":Str),some (0,.dict (grPV G)))]) ?_ (sle_cons_mono _ _ (sle_cons_mono _ _ h3))
  have hM:=add_ok (C:=C.l 0) (T.l 0) hN X p.1 p.2 (SState.rdy_none (by rw[h1,addAll_rdy];rfl)) (by rw[h1];exact hG.small i p hp)
  have hM:Mth (C.l 3) 87 X ([p.1.pv]++Key.pvs p.2) (addPost X p.1 p.2):=hM
  have e1:C=(C.l (C.lev - 1)).up:=(Cx.down C hl).symm
  refine Blk.exprX (EvX.dn (C:=C) (n:=3) hl (EvX.methS (C:=C.l (C.lev - 1)) (n:=0) T.sk (MethK.of T.m87) rfl (ArgsS.up hl (ArgsS.of (xs:=[p.1.pv]++Key.pvs p.2) ?_)) (hM.up (C:=C.l (C.lev - 1)) (by show 3≤C.lev - 1;omega)))) (fun Γ1 pv hR=>?_) hi
  ·refine EvL.cons (Ev.name (n:=0) rfl (K.var "node" rfl)) ?_
   exact Eq.mp (congrArg (EvL C env _ _ true) (List.append_nil (Key.pvs p.2))) (EvL.consStar (Ev.name (n:=0) rfl (K.var "predecessors" rfl)) EvL.nil (by simp only[Key.pvs,List.length_map];exact hlp))
  ·obtain⟨X',⟨_,g1,g2⟩,rfl⟩:=hR
   refine Blk.nil ⟨rfl,X',?_,⟨g2.loc.trans h2.loc,fun b hb=>g2.fp b (h2.fp b hb)⟩,.cons rfl (.cons rfl .nil)⟩
   rw[g1,h1,take_get hp]
   unfold addAll
   rw[List.foldl_append];rfl
 ·have e:(grPV G).length=G.length:=by simp[grPV]
  rw[e]at hinv
  exact Blk.nil (Blk.nil ⟨rfl,hinv⟩)
theorem init_g(T:TopK C)(hN:C.hd=false)(hl:4≤C.lev)(f:FnAt C.K 73 (tsS 0) (.ref 66))(hd66:C.K.lookup 66=some {cls:=.type "tuple",data:=.seq #[.none]}){A:Around}{s:Shared}{x dx:Addr}{R:Result->Shared->Prop}{v:Value}{G:List (Key×List Key)}(hG:GrOk G)(hr:Room C.up A)(cx:C.Ok)(B:Base C s.heap)(fx:Fra C A s.heap)
  (hx:s.heap.get? x=some ⟨.ref TSC,some dx,.plain,#[]⟩) (hdx:s.heap.get? dx=some (dictOf [] 0)) (hxd:x≠dx) (lo:∀a,a=x∨a=dx->mainGlobals<a∧(∀o,C.K.lookup a≠some o)∧¬onStack A a)
  {S:Addr->Prop} (hS:∀a,S a->(s.heap.get? a).isSome=true∧¬onStack A a∧a≠x∧a≠dx) (rg:Rd C.prog C.w S s.heap v (.dict (grPV G)))
  (kk:∀h' t' X,X.abs=addAll G AS.zero->KeepB A (fun a=>a=x∨a=dx) s.heap h'->SorterAt C.prog C.w h' x X->(∀a∈X.fp x,a=x∨a=dx∨s.heap.get? a=none)->(∀a∈X.fp x,mainGlobals<a)->R (.ok (.ret .none)) {s with heap:=h',toks:=t'}):
  codeAny (model C.prog C.w) A (.call (.ref 73) ⟨[.ref x,v],[]⟩) R s:=by
 refine init_core T.sk f hr cx B fx (fun fd p1 p2=>by
  refine BindsTo.of_defaults (T:=66) (items:=#[.none]) (n:=0) (k:=?_) p2 (B.kin _ _ hd66) rfl ?_ ?_
  rotate_left
  ·unfold bindArgs;rw[p1];rfl
  ·rfl) hx hdx hxd ⟨(lo dx (.inr rfl)).1,(lo dx (.inr rfl)).2.1⟩ ⟨(lo x (.inl rfl)).2.2,(lo dx (.inr rfl)).2.2⟩ fun env h t n2 l=>?_
 have hA:=l.conv B hx hdx hS rg lo
 have hst0:=Step.refl (A.deeper env) env S (fun y=>if y=sf then [x,dx,n2]else []) {s with heap:=h,toks:=t}
 have ne:∀s' Γ' (o:Org),o=⟨S,(fun y=>if y=sf then [x,dx,n2]else []),{s with heap:=h,toks:=t}⟩->GI G (S0 x dx n2) G.length Γ'->AtO C (A.deeper env) env o Γ' s'->R (.ok (.ret .none)) s':=fun s' Γ' o ho hinv hA'=>by
  subst ho
  obtain⟨X,h1,h2,h3⟩:=hinv
  rw[List.take_length]at h1
  obtain⟨S',fp',hB,hst⟩:=hA'.weak h3
  obtain⟨_,u,_,r⟩:=hB.vars sf 1 (.srt X) rfl
  obtain⟨a,rfl,hf,hs⟩:=r.view
  have ea:a=x:=hs.at_▸h2.loc
  subst ea
  obtain⟨h5,t5,e5⟩:=hst.same
  subst e5
  refine kk h5 t5 X h1 ⟨fun b ob hb hd e=>?_,fun b ob hb e=>?_⟩ hs (fun b hb=>?_) fun b hb=>(hB.fold sf b (hf▸hb)).2.2.1
  ·rw[not_or]at hd
   refine hst.keep b ob (l.nfr b (.inr (.inr ⟨by rw[e];rfl,hb⟩))) (fun y hy=>?_) (l.keep b ob hb hd.2 e)
   have hy:b∈(if y=sf then [a,dx,n2]else []):=hy
   split at hy
   ·simp only[List.mem_cons,List.not_mem_nil,or_false]at hy
    rcases hy with e'|e'|e'
    ·exact hd.1 e'
    ·exact hd.2 e'
    ·rw[e',l.n0]at e;cases e
   ·cases hy
  ·obtain⟨sl,g1⟩:=l.fr b ob hb e
   obtain⟨sl',g2⟩:=hst.fr b _ ((l.on b).mpr (.inr hb)) (fun e'=>by have:=l.own b (.inl e');rw[e]at this;cases this) g1
   exact⟨sl',g2⟩
  ·rcases hst.newF sf b (hf▸hb)with⟨y,hy⟩|hn
   ·have hy:b∈(if y=sf then [a,dx,n2]else []):=hy
    split at hy
    ·simp only[List.mem_cons,List.not_mem_nil,or_false]at hy
     rcases hy with e'|e'|e'
     ·exact .inl e'
     ·exact .inr (.inl e')
     ·exact .inr (.inr (e'▸l.n0))
    ·cases hy
   ·refine .inr (.inr ?_)
    cases hq:s.heap.get? b with
    |none=>rfl
    |some ob=>
     have hn:h.get? b=none:=hn
     by_cases hs':onStack A b
     ·obtain⟨sl,g⟩:=l.fr b ob hs' hq
      rw[hn]at g;cases g
     ·by_cases hd:b=dx
      ·have:=l.srt.there b (by rw[hd];exact List.mem_cons_of_mem _ List.mem_cons_self)
       rw[hn]at this;cases this
      ·have:=l.keep b ob hs' hd hq
       rw[hn]at this;cases this
 exact graph_loop T hN hl l.kd (by unfold interactive;rw[l.top.kind];rfl) hG (X0:=S0 x dx n2) rfl (A.deeper env) _ _ _ _ l.room l.top ⟨_,_,hA,hst0⟩ ⟨fun s' Γ' hp hA'=>ne s' Γ' _ rfl hp.2 hA',(fun s' Γ' hp hA'=>nomatch hp.1),(fun s' Γ' hp hA'=>nomatch hp.1),(fun v s' pv Γ' hp hA'=>nomatch hp.1),fun v s' xs Γ' hp hA'=>nomatch hp.1⟩
end
section
variable{C:Cx}{env:Env}{Γ:SGam}{rest:List Stmt}{P:AFlow->SGam->Prop}
theorem Blk.new_graph0{x:Str}{px pc pos' pos:Pos}{e:Expr}(T:TopK C)(hN:C.hd=false)(hl:4≤C.lev)(f:FnAt C.K 73 (tsS 0) (.ref 66))(hd66:C.K.lookup 66=some {cls:=.type "tuple",data:=.seq #[.none]})(hk:env.kindOf (Str.ofString "TopologicalSorter")=some .globalImplicit)(hx:env.kindOf x=some .local∨env.kindOf x=some .cell)
  {G:List (Key×List Key)} (hG:GrOk G) (hE:Ev C.up.up env (evG Γ) e true (.dict (grPV G)))
  (kk:Blk C.up.up env ((x,some (1,.sorter (addAll G AS.zero)))::Γ) rest P) (hcd:x≠"__classdict__":=by decide)
  (hs:swapsWith (.Call (.Name "TopologicalSorter" pc) [e] [] pos') (some (.Name x px)) pos.line env=pure false:=by rfl)
  (hse:starEach [e] env=(false,eval e env)::starEach [] env:=by rfl):
  Blk C.up.up env Γ (.Assign [.Name x px] (.Call (.Name "TopologicalSorter" pc) [e] [] pos') pos::rest) P:=fun A o s₀ Q E hr ht hA he=>by
 refine wpAny_execs_cons (wpAny_Assign_Name ?_ hs)
 obtain⟨S₀,fp,hA₀,hst₀⟩:=hA
 have hh₀:=hA₀.here
 refine wpAny_Call_NameR (wpAny_Name (wpAny_loadGlob hh₀.cx hh₀.base hh₀.eok hk (.inl T.gTS) ?_) rfl)
 refine callWith_K (K:=C.K) (h₀:=s₀.heap) hh₀.base.kin T.mkT.keep ?_ hse rfl
 have eb:backTo pos' (starEach [e] env)=[(false,eval e env)]:=by rw[hse];rfl
 rw[eb]
 refine Calls.spliced_cons (hE A S₀ _ s₀ _ E hr hh₀ fun g h1 t1 ex1 rg=>Calls.spliced_nil ?_)
 refine⟨(hh₀.ext ex1).base.kin,?_⟩
 show wpAny (model C.prog C.w) A (call (.ref TSC) [g] []) _ E {s₀ with heap:=h1,toks:=t1}
 refine wpAny_call ?_
 let N₁:Addr->Prop:=fun a=>s₀.heap.get? a=none∧(h1.get? a).isSome=true
 have hA:=hA₀.ext ex1 N₁ fun a ha=>ha
 have hst:Step A env o (fun a=>S₀ a∨N₁ a) fp {s₀ with heap:=h1,toks:=t1}:=hst₀.trans ⟨⟨h1,t1,rfl⟩,fun a ha=>.inl ha,fun a ha=>ha.imp id fun q=>.inr q.1,fun y a ha=>.inl ⟨y,ha⟩,fun a b hF hn ho=>ex1.keep a b (fun e=>hF (.inl e)) ho,fun a ha=>ex1.live hA₀.eok.ns ha,ex1.fr⟩
 have hrg:Rd C.prog C.w (fun a=>(S₀ a∨N₁ a)) h1 g (.dict (grPV G)):=rg.there.mono (fun a ha=>ha.1.imp id fun h=>⟨h,ha.2⟩) fun ω ω ω e=>e
 generalize hS:(fun a=>S₀ a∨N₁ a)=S at hA hst hrg
 have es:({s₀ with heap:=h1,toks:=t1}:Shared).heap=h1:=rfl
 generalize ({s₀ with heap:=h1,toks:=t1}:Shared)=s at hst es
 subst es
 have hh:=hA.here
 obtain⟨m,hm⟩:=hh.eok.ns
 refine make_K (frE hm) newsE hh.base.kin (classFits_make T.sk.ts) T.mkT.init (beq_iff_eq.mp T.mkT.fn) fun x' dx h2 F N hlt hxd=>?_
 have k12:∀a ob,a≠env.locals->s.heap.get? a=some ob->h2.get? a=some ob:=fun a ob hl e=>(N (a,ob) (List.mem_cons_of_mem _ (List.mem_cons_of_mem _ (mem_allL.mpr ⟨hl,e⟩)))).1
 have ex2:Ext A env s.heap h2:=.of_keepB k12 fun m' hm'=>by
  have:m'=m:=funext fun y=>hm'.agree hm y
  subst this;exact F.ns
 have hx2:=(N _ List.mem_cons_self)
 have hdx2:=(N _ (List.mem_cons_of_mem _ List.mem_cons_self))
 have fr1:∀a,a≠env.locals->dx≤a->s.heap.get? a=none:=fun a hl ha=>by
  cases hq:s.heap.get? a with
  |none=>rfl
  |some ob=>exact absurd (hlt (a,ob) (mem_allL.mpr ⟨hl,hq⟩)) (Nat.not_lt.mpr ha)
 have hx1:=fr1 x' hx2.2.1 (Nat.le_of_lt hxd)
 have hdx1:=fr1 dx hdx2.2.1 (Nat.le_refl _)
 have lowdx:mainGlobals<dx:=by
  have hg2:mainGlobals≠env.locals:=Nat.ne_of_lt hh.eok.high
  obtain⟨mg,hmg,_⟩:=glob_ns hh.cx hh.base
  obtain⟨ob,_,_,hob,_⟩:=hmg
  exact hlt (_,ob) (mem_allL.mpr ⟨hg2,hob⟩)
 have B2:Base C h2:=((hh.ext ex2).base).of rfl
 have hr2:Room C.up (A.under (.builtin "type.__call__" ⟨[.ref TSC,g],[]⟩)):=Room.mono (A':=A.under (.builtin "type.__call__" ⟨[.ref TSC,g],[]⟩)) hr rfl (by show A.depth+1≤A.depth+2;omega) (by
  have e:(Code.builtin "type.__call__" ⟨[.ref TSC,g],[]⟩).cUnits=1:=rfl
  show A.units+(Code.builtin "type.__call__" ⟨[.ref TSC,g],[]⟩).cUnits≤A.units+8
  rw[e];omega) C.up (Nat.le_refl _) rfl
 have hfe:(A.under (.builtin "type.__call__" ⟨[.ref TSC,g],[]⟩)).frames=A.frames:=rfl
 have nOn:∀a,¬onStack A a->¬onStack (A.under (.builtin "type.__call__" ⟨[.ref TSC,g],[]⟩)) a:=fun a ha hs=>ha ((onStack_of hfe).mp hs)
 have nS:∀a,s.heap.get? a=none->¬onStack A a:=fun a ha hs=>by have:=Fz.there hh (.inr hs);rw[ha]at this;cases this
 have off:∀a,a=x'∨a=dx->s.heap.get? a=none∧mainGlobals<a:=fun a ha=>by
  rcases ha with rfl|rfl
  ·exact⟨hx1,Nat.lt_trans lowdx hxd⟩
  ·exact⟨hdx1,lowdx⟩
 refine init_g (C:=C) (s:={s with heap:=h2}) T hN hl f hd66 hG hr2 ⟨hh.cx.g⟩ B2 ((Fra.of (C':=C) (hh.ext ex2).fra rfl).frames rfl) hx2.1 hdx2.1 (Nat.ne_of_gt hxd) (fun a ha=>⟨(off a ha).2,fun ob hob=>?_,nOn a (nS a (off a ha).1)⟩) (S:=S) (fun a ha=>?_) (hrg.mono (fun ω h=>h) fun a ob ha e=>ex2.keep a ob (fun hz=>(hA.sold a ha).2.1 (.inl hz)) e) fun h3 t3 X hX hk3 hs hf hlo=>⟨rfl,?_⟩
 ·have:=hh.base.kin a ob hob;rw[(off a ha).1]at this;cases this
 ·obtain⟨g1,g2,g3⟩:=hA.sold a ha
  obtain⟨b,hb⟩:=Option.isSome_iff_exists.mp g1
  refine⟨by rw[ex2.keep a b (fun hz=>g2 (.inl hz)) hb];rfl,nOn a fun hs=>g2 (.inl (.inr hs)),fun e=>?_,fun e=>?_⟩
  ·rw[e,hx1]at hb;cases hb
  ·rw[e,hdx1]at hb;cases hb
 have ex3:Ext A env s.heap h3:=⟨fun a ob hl e=>hk3.keep a ob (fun hs=>hl (.inr ((onStack_of hfe).mp hs))) (fun e'=>by rw[(off a e').1]at e;cases e) (ex2.keep a ob hl e),fun m' hm'=>hk3.ns (fun e=>e.elim (fun e=>hx2.2.1 e.symm) fun e=>hdx2.2.1 e.symm) (ex2.ns m' hm'),fun a ob hs hl e=>by
  obtain⟨sl,h1⟩:=ex2.fr a ob hs hl e
  obtain⟨sl',h2⟩:=hk3.fr a _ ((onStack_of hfe).mpr hs) h1
  exact⟨sl',h2⟩⟩
 refine wpAny_storeVar (C:=C.up.up) (s:={s with heap:=h3,toks:=t3}) (hA.eok.ext hA.fra ex3) hx hcd fun h'' t'' ek g1 g2 kx ω=>?_
 have hkv:isVar (env.kindOf x)=true:=by rcases hx with h|h<;>rw[h]<;>rfl
 have hfr:∀a∈X.fp x',s.heap.get? a=none∧mainGlobals<a:=fun a ha=>by
  refine⟨?_,hlo a ha⟩
  rcases hf a ha with e|e|e
  ·exact(off a (.inl e)).1
  ·exact(off a (.inr e)).1
  ·exact ex2.fresh hh.eok.ns e
 have r:OwnT C.up.up (fun ω=>False) h3 1 (.ref x') (.srt X) (X.fp x'):=.srt hs
 have hA4:=hA.put ex3 (fun ω=>False) r (fun a ha ω=>ha.elim) hs.nd hfr hkv ek g1 g2 kx
 have hst4:=Step.put (s':=s) hst hA ex3 (fun ω=>False) hfr kx t''
 have:=At.toSorter (Γ:=Γ) hA4 fun y hy e' he'=>he'
 rw[hX]at this
 exact kk A o _ Q E hr ht ⟨_,_,this,hst4⟩ he
theorem Blk.new_graph{x:Str}{px pc pos' pos:Pos}{e:Expr}(T:TopK C)(hN:C.hd=false)(hl:6≤C.lev)(f:FnAt C.K 73 (tsS 0) (.ref 66))(hd66:C.K.lookup 66=some {cls:=.type "tuple",data:=.seq #[.none]})(hk:env.kindOf (Str.ofString "TopologicalSorter")=some .globalImplicit)(hx:env.kindOf x=some .local∨env.kindOf x=some .cell)
  {G:List (Key×List Key)} (hG:GrOk G) (hE:Ev C env (evG Γ) e true (.dict (grPV G)))
  (kk:Blk C env ((x,some (1,.sorter (addAll G AS.zero)))::Γ) rest P) (hcd:x≠"__classdict__":=by decide)
  (hs:swapsWith (.Call (.Name "TopologicalSorter" pc) [e] [] pos') (some (.Name x px)) pos.line env=pure false:=by rfl)
  (hse:starEach [e] env=(false,eval e env)::starEach [] env:=by rfl):
  Blk C env Γ (.Assign [.Name x px] (.Call (.Name "TopologicalSorter" pc) [e] [] pos') pos::rest) P:=by
 have e0:(C.l (C.lev - 2)).up.up=C:=by
  cases C
  unfold Cx.up Cx.l
  simp only[Cx.mk.injEq,true_and,and_true]
  simp only at hl
  omega
 have:=@Blk.new_graph0 (C.l (C.lev - 2)) env Γ rest P x px pc pos' pos e (T.l _) hN (by show 4≤C.lev - 2;omega) f hd66 hk hx G hG
 rw[e0]at this
 exact this hE kk hcd hs hse
end
inductive DInv(C:Cx)(A:Around)(env:Env)(own:Str->Prop)(s:Shared)(h₀:Heap)(Γ:Gam)(dp:Nat)(keys:List Key)(vals:List PV)(I D:Addr)(St:Nat->Heap->Prop)(Bad G F0:Addr->Prop)(k:Nat)(s':Shared):Prop
 |mk (h':Heap) (t' i:Nat) (ys:List Value):k=keys.length+1 - i->i≤keys.length->s'={s with heap:=h',toks:=t'}->St i h'->EnvOk C h' env->(∀y e u,Γ.lookup y=some (some e)->VarAt h₀ env y u->VarAt h' env y u)->
   (∀a o,¬Chg A env own I D a->h₀.get? a=some o->h'.get? a=some o)->(∀a,Bad a->(h'.get? a).isSome=true)->h'.DictOf (mixKind C.prog C.w) D ((keys.take i).zip ys)->Els C dp G F0 Bad h' ys (vals.take i)->Sk A env h₀ h'->DInv C A env own s h₀ Γ dp keys vals I D St Bad G F0 k s'
theorem take_some{α:Type}{L:List α}{i:Nat}{x:α}(h:L[i]?=some x):L.take (i+1)=L.take i++[x]:=by rw[List.take_add_one,h];rfl
section
variable{C:Cx}{env:Env}
theorem dcomp_loop{Γ:Gam}{kx vx iter:Expr}{scope:Scope}{pos px:Pos}{x:Str}{own:Str->Prop}{A:Around}{S U Bad G F0:Addr->Prop}{md m:Bool}{α:Type}{L:List α}{g:α->PV}{kf:α->Key}{vf:α->PV}{dp:Nat}{I D:Addr}{fp:List Addr}{P:Nat->Value->Prop}{St:Nat->Heap->Prop}{h:Heap}{o₀:Obj}{t:Nat}{s:Shared}{R:Result->Shared->Prop}
  (hr:Room C A) (b:Begun C A env Γ own md (L.map g) I D fp P St S U Bad G F0 h o₀) (hD:h.DictOf (mixKind C.prog C.w) D []) (hown:own x) (hxk:env.kindOf x=some .local∨env.kindOf x=some .cell) (hΓ:Γ.lookup x=some none)
  (hk:∀a∈L,Ev C env ((x,some (bn md,g a))::Γ) kx m (kf a).pv) (hv:∀a∈L,EvE C env ((x,some (bn md,g a))::Γ) vx dp (vf a)) (hnd:(L.map kf).Nodup) (hsz:L.length≤lim)
  (hR:∀h' t',(∀a o,¬Chg A env own I D a->h.get? a=some o->h'.get? a=some o)->(∀a,Bad a->a≠I->(h'.get? a).isSome=true)->EnvOk C h' env->(∀y e u,Γ.lookup y=some (some e)->VarAt h env y u->VarAt h' env y u)->
   (∃ys,h'.DictOf (mixKind C.prog C.w) D ((L.map kf).zip ys)∧Els C dp G F0 Bad h' ys (L.map vf))->Sk A env h h'->R (.ok .next) {s with heap:=h',toks:=t'})
  (hcd:x≠"__classdict__":=by decide):
  codeAny (model C.prog C.w) A (.compLoop (.DictComp kx vx [⟨.Name x px,iter,[],0⟩] scope pos) 0 (.ref I) (.ref D) env) R {s with heap:=h,toks:=t}:=by
 obtain⟨hh,W,hst,hP,hqu,hBad,hBs,hBx,hUB,hSG,hfG,hfp,hap,hD0⟩:=b
 refine codeAny_compLoop_testsD (DInv C A env own s h Γ dp (L.map kf) (L.map vf) I D St Bad G F0) (fun k s' hIn=>?_) (L.length+1) ⟨h,t,0,[],by simp,Nat.zero_le _,rfl,hst,hh.eok,fun ω ω ω ω e=>e,fun ω ω ω e=>e,fun a ha=>(hBx a ha).1,by simpa using hD,⟨[],.nil,List.nodup_nil,fun ω h=>nomatch h⟩,Sk.refl _⟩
 obtain⟨H,tk,i,ys,hkk,hi,rfl,hst',ek',vk',hkc,hb',hD',hys',hsk⟩:=hIn
 rw[List.length_map]at hkk hi
 have nSI:∀a,onStack A a->a≠I:=fun a ha e=>hap.2.2.1 (.inr (e▸ha))
 have nSD:∀a,onStack A a->a≠D:=fun a ha e=>hap.2.1 (.inr (e▸ha))
 have nc:∀a,¬Bad a->¬Chg A env own I D a:=fun a hb hc=>hb (hc.elim (fun e=>e▸hBad.2.1) fun h=>h.elim (fun e=>e▸hBad.1) fun h=>h.elim (fun h=>h.elim (fun e=>e▸hBad.2.2.1) (hBs a)) fun h=>h.elim fun y h=>hBad.2.2.2 y h.1 a h.2)
 have hk':∀a o,¬Bad a->h.get? a=some o->H.get? a=some o:=fun a o hb ho=>hkc a o (nc a hb) ho
 have hBB:∀a,Bad a->mainGlobals<a∧∀o,C.K.lookup a≠some o:=fun a ha=>(hBx a ha).2
 have hH:Here C A S U env Γ H:=hh.move Bad ek' vk' hk' hUB hBB hsk
 have frG:∀ (h₂:Heap),(∀a o,¬Bad a->H.get? a=some o->h₂.get? a=some o)->(∀a,Bad a->(h₂.get? a).isSome=true)->∀a,h₂.get? a=none->(G a∧F0 a)∧¬Bad a:=fun h₂ k2 b2 a ha=>by
  have nb: ¬Bad a:=fun hb=>by have:=b2 a hb;rw[ha]at this;cases this
  refine⟨hfG a ?_,nb⟩
  cases hq:h.get? a with
  |none=>rfl
  |some o=>rw[k2 a o nb (hk' a o nb hq)]at ha;cases ha
 have nIl:∀a,a≠I->a∉[I]:=fun a h hm=>h (List.mem_singleton.mp hm)
 have nbI:∀a,¬Bad a->a≠I:=fun a hb e=>hb (e▸hBad.1)
 have nD:∀a,¬Bad a->a≠D:=fun a hb e=>hb (e▸hBad.2.1)
 have hylen:ys.length=i:=by have:=hys'.length;rw[this];simp;omega
 by_cases hlt:i<L.length
 rotate_left
 ·have hin:i=L.length:=Nat.le_antisymm hi (Nat.not_lt.mp hlt)
  refine W.done _ _ _ (by rw[List.length_map];exact hin▸hst') fun h₁ tk₁ hk₁=>?_
  have k1:∀a o,a≠I->H.get? a=some o->h₁.get? a=some o:=fun a o ha ho=>hk₁ a o (nIl a ha) ho
  have ek1:EnvOk C h₁ env:=ek'.move (fun a=>a=I) k1 (fun e=>hap.2.2.1 (.inl e.symm)) fun x c hc e=>(hap.2.2.2 x c hc).2 e
  refine hR h₁ tk₁ (fun a o hb ho=>k1 a o (fun e=>hb (.inr (.inl e))) (hkc a o hb ho)) (fun a ha hne=>?_) ek1 (fun y e u hy hu=>(vk' y e u hy hu).move (fun a=>a=I) k1 (fun e=>hap.2.2.1 (.inl e.symm)) fun x c hc e=>(hap.2.2.2 x c hc).2 e) ⟨ys,?_,?_⟩ (hsk.trans (.of_keep fun a o hs ω ho=>k1 a o (nSI a hs) ho))
  ·obtain⟨o,ho⟩:=Option.isSome_iff_exists.mp (hb' a ha)
   rw[k1 a o hne ho];rfl
  ·have:=DictOf.at hD' fun o e=>k1 D o (Ne.symm hap.1) e
   rwa[List.take_of_length_le (by rw[List.length_map,hin];exact Nat.le_refl _)]at this
  ·have:=hys'.mono fun a o ha ho=>k1 a o (nbI a ha) ho
   rwa[List.take_of_length_le (by rw[List.length_map,hin];exact Nat.le_refl _)]at this
 refine W.item i _ _ _ (by rw[List.length_map];exact hlt) hst' fun v h₁ tk₁ hPv hst₁ hk₁=>?_
 have k1:∀a o,a≠I->H.get? a=some o->h₁.get? a=some o:=fun a o ha ho=>hk₁ a o (nIl a ha) ho
 have k1':∀a o,¬Bad a->H.get? a=some o->h₁.get? a=some o:=fun a o hb ho=>k1 a o (nbI a hb) ho
 obtain⟨oI,TI,hoI,hcI,hTI⟩:=hqu _ _ hst₁
 have b1:∀a,Bad a->(h₁.get? a).isSome=true:=fun a ha=>by
  by_cases hne:a=I
  ·exact hne▸so hoI
  ·exact some_keep (hb' a ha) fun o=>k1 a o hne
 have ek1:EnvOk C h₁ env:=ek'.move (fun a=>a=I) k1 (fun e=>hap.2.2.1 (.inl e.symm)) fun x c hc e=>(hap.2.2.2 x c hc).2 e
 have vk1:∀y e u,Γ.lookup y=some (some e)->VarAt H env y u->VarAt h₁ env y u:=fun y e u ω hu=>hu.move (fun a=>a=I) k1 (fun e=>hap.2.2.1 (.inl e.symm)) fun x c hc e=>(hap.2.2.2 x c hc).2 e
 have hh1:Here C A S U env Γ h₁:=hH.move Bad ek1 vk1 k1' hUB hBB (.of_keep fun a o hs ω ho=>k1 a o (nSI a hs) ho)
 obtain⟨z,hz,rx⟩:=hP i v hPv
 obtain⟨a,ha,rfl⟩:∃a,L[i]?=some a∧g a=z:=by
  rw[List.getElem?_map]at hz
  cases hq:L[i]? with
  |none=>rw[hq]at hz;cases hz
  |some a=>rw[hq]at hz;exact⟨a,rfl,Option.some.inj hz⟩
 have haL:a∈L:=List.mem_of_getElem? ha
 have nbM:∀a,(if md then S a else U a)->¬Bad a:=fun a ha=>hUB a (by cases md;exact ha;exact hh.sub a ha)
 have rx1:Rd C.prog C.w (fun a=>if md then S a else U a) h₁ v (g a):=rx.mono (fun ω z=>z) fun a o ha ho=>k1' a o (nbM a ha) (hk' a o (nbM a ha) ho)
 refine(Asg.name hxk hcd:Asg C env Γ (.Name x px) md (g a) [x] _) A S U _ v _ _ hr hh1 rx1 fun h₂ t₂ hh2 kx2 vk2=>?_
 have nbF:∀a,¬Bad a->¬Fz A env a∧∀y∈[x],env.cells.lookup y≠some a:=fun a hb=>⟨fun h=>hb (h.elim (fun e=>e▸hBad.2.2.1) (hBs a)),fun y hy hc=>hb (hBad.2.2.2 y (by rw[List.mem_singleton.mp hy];exact hown) a hc)⟩
 have k2:∀a o,¬Bad a->h₁.get? a=some o->h₂.get? a=some o:=fun a o hb ho=>kx2.keep a o (fun e=>(nbF a hb).1 (.inl e)) (nbF a hb).2 ho
 have kI:∀o,h₁.get? I=some o->h₂.get? I=some o:=fun o ho=>kx2.keep I o (fun e=>hap.2.2.1 (.inl e)) (fun y ω hc=>(hap.2.2.2 y I hc).2 rfl) ho
 have kD:∀o,h₁.get? D=some o->h₂.get? D=some o:=fun o ho=>kx2.keep D o (fun e=>hap.2.1 (.inl e)) (fun y ω hc=>(hap.2.2.2 y D hc).1 rfl) ho
 have hst₂:St (i+1) h₂:=W.frame _ _ _ hst₁ fun b hb o ho=>(hfp b hb).elim (fun e=>by rw[e]at ho⊢;exact kI o ho) fun hb=>k2 b o hb ho
 have nFp:∀b∈fp,¬Fz A env b:=fun b hb=>(hfp b hb).elim (fun e=>e▸hap.2.2.1) fun hb=>(nbF b hb).1
 have nDp:∀b∈fp,b≠D:=fun b hb=>(hfp b hb).elim (fun e=>e▸hap.1) (nD b)
 have b2:∀a,Bad a->(h₂.get? a).isSome=true:=fun a ha=>kx2.live a (b1 a ha)
 refine wpAny_tests_nil ?_
 rw[if_pos rfl]
 refine hk a haL A S U {s with heap:=h₂,toks:=t₂} _ _ hr hh2 fun kv h₃ t₃ e₃ rk=>?_
 have hh3:=hh2.ext e₃
 refine hv a haL A S U {s with heap:=h₃,toks:=t₃} _ _ hr hh3 fun vv h₄ t₄ fv e₄ rv hndv hfv=>?_
 have e34:=e₃.trans e₄
 have live4:∀a,(h₂.get? a).isSome=true->(h₄.get? a).isSome=true:=fun a ha=>e34.live hh2.eok.ns ha
 have hsk4:Sk A env h h₄:=((hsk.trans (.of_keep fun a o hs ω ho=>k1 a o (nSI a hs) ho)).trans (.of_keep fun a o hs hl ho=>kx2.keep a o hl (fun y ω hc=>by
  obtain⟨u,o2,ho2,hd2⟩:=hh1.eok.call y a hc
  exact hh1.fra.ne ho2 (by rw[hd2];nofun) hs) ho)).trans e34.fr
 have kH3:∀a o,¬Bad a->H.get? a=some o->h₃.get? a=some o:=fun a o hb ho=>e₃.keep a o (nbF a hb).1 (k2 a o hb (k1' a o hb ho))
 have b3:∀a,Bad a->(h₃.get? a).isSome=true:=fun a ha=>e₃.live hh2.eok.ns (b2 a ha)
 have hG3:=frG h₃ kH3 b3
 have cH4:∀a o,¬Chg A env own I D a->H.get? a=some o->h₄.get? a=some o:=fun a o hb ho=>e34.keep a o (fun e=>hb (.inr (.inr (.inl e)))) (kx2.keep a o (fun e=>hb (.inr (.inr (.inl (.inl e))))) (fun y hy hc=>hb (.inr (.inr (.inr ⟨y,by rw[List.mem_singleton.mp hy];exact hown,hc⟩)))) (k1 a o (fun e=>hb (.inr (.inl e))) ho))
 have hD4:h₄.DictOf (mixKind C.prog C.w) D (((L.map kf).take i).zip ys):=DictOf.at hD' fun o e=>e34.keep D o hap.2.1 (kD o (k1 D o (Ne.symm hap.1) e))
 have hkey:(L.map kf)[i]?=some (kf a):=by rw[List.getElem?_map,ha];rfl
 have hvx:(L.map vf)[i]?=some (vf a):=by rw[List.getElem?_map,ha];rfl
 have hzl:(((L.map kf).take i).zip ys).length≤i:=by rw[List.length_zip];exact Nat.le_trans (Nat.min_le_right _ _) (by rw[hylen];exact Nat.le_refl _)
 have hnew:∀p∈((L.map kf).take i).zip ys,p.1≠kf a:=fun p hp e=>by
  have h1:=(List.of_mem_zip hp).1
  obtain⟨j,hj,e1⟩:=List.getElem_of_mem h1
  rw[List.getElem_take]at e1
  rw[List.length_take]at hj
  have h2:=List.getElem?_eq_some_iff.mp hkey
  obtain⟨h3,h4⟩:=h2
  exact(List.pairwise_iff_getElem.mp hnd) j i (by omega) h3 (by omega) (by rw[e1,h4];exact e)
 refine wpAny_dictSet_pairs (knd:=mixKind C.prog C.w) (s:={s with heap:=h₄,toks:=t₄}) rk.key hD4 (fun h₅ hl₅ hs₅=>?_) (by unfold lim at hsz;show _≤2^24;omega)
 have est:stored (((L.map kf).take i).zip ys) (kf a) vv=((L.map kf).take (i+1)).zip (ys++[vv]):=by
  unfold stored
  rw[if_neg]
  ·rw[take_some hkey,List.zip_append (by rw[hylen,List.length_take,List.length_map];omega)];rfl
  ·simp only[List.any_eq_true,not_exists,not_and,decide_eq_true_eq]
   exact fun p hp e=>hnew p hp e
 rw[est]at hl₅
 have kD5:∀a o,a≠D->h₄.get? a=some o->h₅.get? a=some o:=fun a o ha ho=>(hs₅.2 a ha).trans ho
 have b5:∀a,Bad a->(h₅.get? a).isSome=true:=fun a ha=>by
  by_cases hDa:a=D
  ·obtain⟨o,_,_,h,_⟩:=hl₅
   rw[hDa,h];rfl
  ·rw[hs₅.2 a hDa];exact live4 a (b2 a ha)
 have ek4:EnvOk C h₄ env:=hh2.eok.ext hh2.fra e34
 have ek5:EnvOk C h₅ env:=ek4.move (fun a=>a=D) kD5 (fun e=>hap.2.1 (.inl e.symm)) fun x c hc e=>(hap.2.2.2 x c hc).1 e
 have k35:∀a o,¬Bad a->h₃.get? a=some o->h₅.get? a=some o:=fun a o hb ho=>kD5 a o (nD a hb) (e₄.keep a o (nbF a hb).1 ho)
 have hys3:Els C dp G F0 Bad h₃ ys ((L.map vf).take i):=hys'.mono kH3
 refine⟨L.length+1 - (i+1),by omega,h₅,t₄+1,i+1,ys++[vv],by rw[List.length_map],by rw[List.length_map];exact hlt,rfl,?_,ek5,fun y e u hy hu=>?_,fun a o hb ho=>kD5 a o (fun e=>hb (.inl e)) (cH4 a o hb (hkc a o hb ho)),b5,hl₅,?_,hsk4.trans (.of_keep fun a o hs ω ho=>kD5 a o (nSD a hs) ho)⟩
 ·exact W.frame _ _ _ hst₂ fun b hb o ho=>kD5 b o (nDp b hb) (e34.keep b o (nFp b hb) ho)
 ·exact((vk2 y u (fun hm=>by rw[List.mem_singleton.mp hm,hΓ]at hy;cases hy) (vk1 y e u hy (vk' y e u hy hu))).ext hh2.eok hh2.fra e34).move (fun a=>a=D) kD5 (fun e=>hap.2.1 (.inl e.symm)) fun x c hc e=>(hap.2.2.2 x c hc).1 e
 ·rw[take_some hvx]
  refine Els.snoc (h₀:=h₃) (hys3.mono k35) (fun a=>by cases h₃.get? a<;>simp) hys3 ?_ hndv (fun a ha=>?_) k35
  ·have rg:∀a,(dp=0∧Reg true S U h₃ a)->dp=0∧G a∧¬Bad a:=fun a ha=>by
    refine⟨ha.1,?_⟩
    rcases ha.2 with ha|ha
    ·exact⟨hSG a ha,hUB a (hh.sub a ha)⟩
    ·exact⟨(hG3 a ha).1.1,(hG3 a ha).2⟩
   exact rv.mono rg (fun a o ha ho=>kD5 a o (nD a (rg a ha).2.2) ho) fun a ha o ho=>kD5 a o (nD a (hG3 a (hfv a ha).1).2) ho
  ·exact⟨(hfv a ha).1,(hG3 a (hfv a ha).1).1.2,(hfv a ha).2,(hG3 a (hfv a ha).1).2⟩
theorem EvK.dcomp{Γ:Gam}{kx vx iter:Expr}{scope:Scope}{pos px:Pos}{x:Str}{md m:Bool}{α:Type}{L:List α}{g:α->PV}{kf:α->Key}{vf:α->PV}{dp:Nat}(hs:ScopeOk scope env)(h1:EvI C env Γ iter md (L.map g))(hown:ownP scope x)(hΓ:(inner scope Γ).lookup x=some none)
  (hk:∀D cells,∀a∈L,Ev C (CE scope env D cells) ((x,some (bn md,g a))::inner scope Γ) kx m (kf a).pv) (hv:∀D cells,∀a∈L,EvE C (CE scope env D cells) ((x,some (bn md,g a))::inner scope Γ) vx dp (vf a)) (hnd:(L.map kf).Nodup) (hsz:L.length≤lim)
  (hcd:x≠"__classdict__":=by decide) (hf:∀env x,foldedSetIterable iter env x=pure x:=by intro _ _;rfl):
  EvK C env Γ (.DictComp kx vx [⟨.Name x px,iter,[],0⟩] scope pos) (dp+1) (.dict (L.map fun a=>(kf a,vf a))):=fun A S U s Q E hr hh hq=>by
 show wpAny (model C.prog C.w) A (comprehension (.DictComp kx vx [⟨.Name x px,iter,[],0⟩] scope pos) scope env _ newDict false (eval iter env)) Q E s
 refine comp_env (C:=C) (c:=⟨.Name x px,iter,[],0⟩) (cs:=[]) (o₀:={cls:=.type "dict",data:=.dict #[]}) (use:=none) rfl ⟨rfl,hf⟩ hs h1 rfl (fun h=>wpAny_newObj_type h) hr hh
  (fun Bad D h'=>∃ys,h'.DictOf (mixKind C.prog C.w) D ((L.map kf).zip ys)∧Els C dp (fun a=>S a∨s.heap.get? a=none) (fun a=>s.heap.get? a=none) Bad h' ys (L.map vf)) (fun I D L' h t cells fp P St S' U' Bad R b hR=>?_) fun L' D h' t' m' Bad g1 g2 g3 ex hbL hbD hacc lowD lowL hm'=>?_
 ·have hD:h.DictOf (mixKind C.prog C.w) D []:=by
   refine⟨_,#[],0,b.at_,⟨rfl,rfl,rfl⟩,rfl,?_,?_,List.nodup_nil⟩
   ·intro e he;simp at he
   ·exact .nil
  have main:=dcomp_loop (kx:=kx) (vx:=vx) (iter:=iter) (scope:=scope) (pos:=pos) (px:=px) (t:=t) (s:=s) hr b hD hown (CE_local hown) hΓ (hk L' cells) (hv L' cells) hnd hsz (fun h' t' k1 k2 k3 k4 k5 k6=>hR h' t' k1 k2 k3 k4 k5 k6) hcd
  exact codeAny_compStart_dict main (b.W.self 0 _ _ _ b.st main)
 ·obtain⟨ys,hD',fps,f1,f2,f3⟩:=hacc
  have nL:∀a,¬Bad a->a≠L':=fun a hb e=>hb (e▸hbL)
  have nD:∀a,¬Bad a->a≠D:=fun a hb e=>hb (e▸hbD)
  refine⟨m',hm',fun h'' hs''=>?_⟩
  have kk:∀a o,a≠L'->h'.get? a=some o->h''.get? a=some o:=fun a o ha ho=>(hs''.2 a ha).trans ho
  have hsw:Ext A env s.heap h'':=ex.sameBut hs'' g1 (by
   rintro rfl
   obtain⟨m0,o,_,_,ho,_⟩:=hh.eok.ns
   rw[g1]at ho;cases ho)
  have hzip:(L.map fun a=>(kf a,vf a)).map (·.1)=L.map kf:=by rw[List.map_map];rfl
  have hval:(L.map fun a=>(kf a,vf a)).map (·.2)=L.map vf:=by rw[List.map_map];rfl
  refine hq (.ref D) h'' t' (D::fps) hsw (.dict lowD (by rw[hzip];exact DictOf.at hD' fun o e=>kk D o (Ne.symm g2) e) ?_) (List.nodup_cons.mpr ⟨fun hm=>nD D (f3 D hm).2.2 rfl,f2⟩) (fun a ha=>?_)
  ·rw[hval]
   have hfp:dp=0->fps=[]:=fun hz=>OwnTs.nil_of hz f1
   refine f1.strong.mono (fun a ha=>⟨ha.1.2.1,?_⟩) (fun a o ha ho=>kk a o (nL a ha.1.2.2) ho) fun a ha o ho=>kk a o (nL a (f3 a ha).2.2) ho
   rw[hfp ha.1.1]
   simpa using nD a ha.1.2.2
  ·rcases List.mem_cons.mp ha with rfl|ha
   ·exact⟨g3,lowD⟩
   ·exact⟨(f3 a ha).1,(f3 a ha).2.1⟩
theorem EvK.ev{Γ:Gam}{e:Expr}{k:Nat}{x:PV}(h:EvK C env Γ e k x){md:Bool}:Ev C env Γ e md x:=Ev.uns fun A S U s Q E hr hh hq=>
 h A S U s Q E hr hh fun v h' t' f ex r ω hf=>hq v h' t' ex (r.rd (fun a ha=>ha.1) fun a ha=>.inr (hf a ha).1)
theorem TurnOk.pair{Γ:Gam}{dp:Nat}{scope:Scope}{elt:Expr}{x y:Str}{px py tp:Pos}{iter:Expr}{ifs:List Expr}{k:Int}{tk:Nat}{cs:List Comprehension}{md:Bool}{u v:PV}{b:Bool}{out:List PV}{L:Addr}{cells:List (Str×Addr)}
  (hx:ownP scope x) (hy:ownP scope y) (hΓx:Γ.lookup x=some none) (hΓy:Γ.lookup y=some none) (hT:EvT C (CE scope env L cells) ((y,some (bn md,v))::(x,some (bn md,u))::Γ) ifs b)
  (hyes:b=true->Cl C (CE scope env L cells) (ownP scope) elt dp cs ((y,some (bn md,v))::(x,some (bn md,u))::Γ) out) (hn:b=false->out=[]) (hN:C.hd=false) (hcx:x≠"__classdict__":=by decide) (hcy:y≠"__classdict__":=by decide):
  TurnOk C (CE scope env L cells) (ownP scope) elt dp ⟨.Tuple [.Name x px,.Name y py] tk tp,iter,ifs,k⟩ cs Γ md (.tuple [u,v]) out:=by
 have hy':((x,some (bn md,u))::Γ).lookup y=some none∨((x,some (bn md,u))::Γ).lookup y=some (some (bn md,u)):=by
  rw[List.lookup_cons]
  cases y==x with
  |true=>exact .inr rfl
  |false=>exact .inl hΓy
 refine⟨[x]++([y]++[]),_,b,Asg.tuple (AsgL.cons (Asg.name (CE_local hx) hcx) (AsgL.cons (Asg.name (CE_local hy) hcy) AsgL.nil)) (fun ω=>rfl) (fun ω=>rfl) hN,fun z e he=>?_,fun z hz=>?_,hT,hyes,hn⟩
 ·rw[List.lookup_cons]
  cases h1:z==y with
  |true=>rw[beq_iff_eq.mp h1,hΓy]at he;cases he
  |false=>
   show List.lookup z _=_
   rw[List.lookup_cons]
   cases h2:z==x with
   |true=>rw[beq_iff_eq.mp h2,hΓx]at he;cases he
   |false=>exact he
 ·simp only[List.cons_append,List.nil_append,List.mem_cons,List.not_mem_nil,or_false]at hz
  rcases hz with rfl|rfl
  ·exact⟨hx,fun e he=>by rw[hΓx]at he;cases he⟩
  ·exact⟨hy,fun e he=>by rw[hΓy]at he;cases he⟩
end
noncomputable def s05(i:Nat):Stmt:=nthS PySem.Challenge.pw_km0021_05.main.body i
theorem Ev.to{C:Cx}{env:Env}{Γ:Gam}{e:Expr}{md:Bool}{x y:PV}(h:x=y)(E:Ev C env Γ e md x):Ev C env Γ e md y:=h▸E
noncomputable def forBody:Stmt->List Stmt
 | .For _ _ b _ _=>b
 |_=>[]
noncomputable def Bl(n:Nat)(bg:Int->Int)(S:List Int):List Int:=(upto n).map fun j=>if j∈S then bg j else -1
theorem Bl_len(n:Nat)(bg:Int->Int)(S:List Int):(Bl n bg S).length=n:=by simp[Bl,upto_len]
theorem Bl_ix{n:Nat}{bg:Int->Int}{S:List Int}{j:Int}(h0:0≤j)(h1:j<n):ix (Bl n bg S) j=if j∈S then bg j else -1:=by
 unfold ix Bl upto
 obtain⟨m,rfl⟩:=Int.eq_ofNat_of_zero_le h0
 have hm:m<n:=by omega
 simp[List.getD,hm]
theorem Bl_set{n:Nat}{bg:Int->Int}{S:List Int}{j:Int}(h0:0≤j)(h1:j<n):(Bl n bg S).set j.toNat (bg j)=Bl n bg (S++[j]):=by
 obtain⟨m,rfl⟩:=Int.eq_ofNat_of_zero_le h0
 apply List.ext_getElem?
 intro i
 rw[List.getElem?_set]
 unfold Bl upto
 simp only[Int.toNat_natCast,List.length_map,List.length_range,List.getElem?_map,Int.toNat_natCast]
 by_cases hi:m=i
 ·subst hi
  have hm:m<n:=by omega
  simp[hm]
 ·rw[if_neg hi]
  by_cases hn:i<n
  ·rw[List.getElem?_range hn]
   have hne: ¬(i:Int)=(m:Int):=fun e=>hi (by omega)
   simp[hne]
  ·have hnone:(List.range n)[i]?=none:=List.getElem?_eq_none (by simp;omega)
   rw[hnone];rfl
theorem map_set_int(L:List Int)(k:Nat)(v:Int):(L.map PV.int).set k (.int v)=(L.set k v).map PV.int:=by rw[List.map_set]
theorem map_int_app(L:List Int)(j:Int):L.map PV.int++[.int j]=(L++[j]).map PV.int:=by simp
theorem exists_min:∀ (L:List Int),L≠[]->∃m∈L,∀a∈L,m≤a
 |[],h=>absurd rfl h
 |[x],_=>⟨x,by simp,by simp⟩
 |x::y::l,_=>by
  obtain⟨m,hm,h⟩:=exists_min (y::l) (by simp)
  by_cases hx:x≤m
  ·refine⟨x,List.mem_cons_self ..,fun a ha=>?_⟩
   rcases List.mem_cons.mp ha with rfl|ha
   ·exact Int.le_refl _
   ·exact Int.le_trans hx (h a ha)
  ·refine⟨m,List.mem_cons_of_mem _ hm,fun a ha=>?_⟩
   rcases List.mem_cons.mp ha with rfl|ha
   ·omega
   ·exact h a ha
theorem exists_max:∀ (L:List Int),L≠[]->∃m∈L,∀a∈L,a≤m
 |[],h=>absurd rfl h
 |[x],_=>⟨x,by simp,by simp⟩
 |x::y::l,_=>by
  obtain⟨m,hm,h⟩:=exists_max (y::l) (by simp)
  by_cases hx:m≤x
  ·refine⟨x,List.mem_cons_self ..,fun a ha=>?_⟩
   rcases List.mem_cons.mp ha with rfl|ha
   ·exact Int.le_refl _
   ·exact Int.le_trans (h a ha) hx
  ·refine⟨m,List.mem_cons_of_mem _ hm,fun a ha=>?_⟩
   rcases List.mem_cons.mp ha with rfl|ha
   ·omega
   ·exact h a ha
theorem Bl_congr{n:Nat}{bg:Int->Int}{S S':List Int}(h:∀j,j∈S↔j∈S'):Bl n bg S=Bl n bg S':=by
 unfold Bl
 apply List.map_congr_left
 intro j _
 by_cases hj:j∈S
 ·rw[if_pos hj,if_pos ((h j).mp hj)]
 ·rw[if_neg hj,if_neg fun e=>hj ((h j).mpr e)]
theorem upto_nd(n:Nat):(upto (n:Int)).Nodup:=by
 unfold upto
 rw[Int.toNat_natCast]
 exact List.pairwise_map.mpr (List.nodup_range.imp fun h e=>h (Int.ofNat.inj e))
noncomputable abbrev AS.got(a:AS)(ks:List Key):AS:={a.out ks with rdy:=some [],npass:=a.npass+ks.length,nfin:=a.nfin}
theorem AS.got_nil{a:AS}(h:a.rdy=some []):a.got []=a:=by
 cases a
 simp only at h
 subst h
 unfold AS.got AS.out
 simp
theorem less_filter:∀ (ks ot:List Key),ot.Nodup->AS.less ot ks=ot.filter (fun k=>decide (k∉ks))
 |[],ot,_=>by
  have:(fun k:Key=>decide (k∉([]:List Key)))=fun ω=>true:=by funext k;simp
  rw[this,List.filter_eq_self.mpr (fun ω ω=>rfl)];rfl
 |k::ks,ot,h=>by
  have ih:=less_filter ks (ot.erase k) (h.erase k)
  have e:AS.less ot (k::ks)=AS.less (ot.erase k) ks:=rfl
  rw[e,ih,h.erase_eq_filter,List.filter_filter]
  apply List.filter_congr
  intro x _
  by_cases hx:x=k<;>simp[hx]
theorem unInt{l:List Key}(h:∀k∈l,∃j:Int,k= .int j):∃L:List Int,l=L.map Key.int:=by
 induction l with
 |nil=>exact⟨[],rfl⟩
 |cons k l ih=>
  obtain⟨L,hL⟩:=ih fun k hk=>h k (List.mem_cons_of_mem _ hk)
  obtain⟨j,hj⟩:=h k (List.mem_cons_self ..)
  exact⟨j::L,by rw[hL,hj];rfl⟩
theorem mem_kint{L:List Int}{j:Int}:Key.int j∈L.map Key.int↔j∈L:=by
 constructor
 ·intro h
  obtain⟨x,hx,e⟩:=List.mem_map.mp h
  cases e;exact hx
 ·exact fun h=>List.mem_map.mpr ⟨j,h,rfl⟩
theorem nodup_kint{L:List Int}:(L.map Key.int).Nodup↔L.Nodup:=by
 constructor
 ·intro h
  exact(List.pairwise_map.mp h).imp fun hn e=>hn (by rw[e])
 ·intro h
  exact List.pairwise_map.mpr (h.imp fun hn e=>hn (by cases e;rfl))
theorem rlen_down:∀n:Nat,n<66->rlen ((n:Int) - 1) (-1) (-1)=n∧Builtin.Range.small ((n:Int) - 1) (-1) (-1)=true:=by decide +kernel
noncomputable def downto(n:Nat):List Int:=(List.range n).map fun(i:Nat)=>((n:Int) - 1)+(i:Int)*(-1)
theorem downto_get{n i:Nat}{j:Int}(h:(downto n)[i]?=some j):j=(n:Int) - 1 - i∧i<n:=by
 unfold downto at h
 rw[List.getElem?_map]at h
 cases hq:(List.range n)[i]? with
 |none=>rw[hq]at h;cases h
 |some k=>
  rw[hq]at h
  have h2:=List.getElem?_eq_some_iff.mp hq
  obtain⟨h3,h4⟩:=h2
  rw[List.getElem_range]at h4
  rw[List.length_range]at h3
  have e:j=((n:Int) - 1)+(k:Int)*(-1):=(Option.some.inj h).symm
  subst h4
  exact⟨by omega,h3⟩
theorem ix_get{L:List (List Int)}{j:Int}(h0:0≤j)(hj:j<L.length):(L.map PV.ints)[j.toNat]?=some (.ints (ix L j)):=by
 have hlt:j.toNat<L.length:=by omega
 rw[List.getElem?_map,List.getElem?_eq_getElem hlt]
 unfold ix
 simp[List.getD,hlt]
section
variable{C:Cx}{env:Env}{Γ:Gam}{names:List (Str×NameKind)}
theorem V.down(T:TopK C)(K:KOk env names)(hk:names.lookup ("range":Str)=some .globalImplicit){e e2 e3:Expr}{p p':Pos}{n:Nat}(hn:n<66)(h:Ev C env Γ e false (.int ((n:Int) - 1)))(h2:Ev C env Γ e2 false (.int (-1)))(h3:Ev C env Γ e3 false (.int (-1)))
  (hN:C.hd=false) (hse:∀env,starEach [e,e2,e3] env=(false,eval e env)::starEach [e2,e3] env:=by intro _;rfl) (hse2:∀env,starEach [e2,e3] env=(false,eval e2 env)::starEach [e3] env:=by intro _;rfl) (hse3:∀env,starEach [e3] env=(false,eval e3 env)::starEach [] env:=by intro _;rfl)
  (hne:∀env,∃x rest,backTo p' (starEach [e,e2,e3] env)=(false,x)::rest:=by intro _;exact⟨_,_,rfl⟩) (hpl:∀env,(backTo p' (starEach [e,e2,e3] env)).any (·.1)=false:=by intro _;rfl):
  EvI C env Γ (.Call (.Name "range" p) [e,e2,e3] [] p') true ((downto n).map .int):=by
 obtain⟨h4,h5⟩:=rlen_down n hn
 have:=EvI.rng (C:=C) (env:=env) (Γ:=Γ) (e:=.Call (.Name "range" p) [e,e2,e3] [] p') (md:=true) (a:=(n:Int) - 1) (b:=-1) (c:=-1) (Ev.call (m1:=true) (V.builtin (v:=.type "range") (K.glb _ hk) (T.none (x:="range") (by decide)) (by decide +kernel)) (EvL.cons (Ev.imm h rfl) (EvL.cons (Ev.imm h2 rfl) (EvL.cons (Ev.imm h3 rfl) EvL.nil hse3) hse2) hse) (Built.range3 (by decide) (by decide)) hne hpl) h5 (by rw[h4];omega)
 have e:rints ((n:Int) - 1) (-1) (-1)=downto n:=by unfold rints downto;rw[h4]
 rwa[e]at this
end
structure Plan5(n:Nat)(need:Int->List Int)(hrs bg:Int->Int):Prop where
 inr:∀j:Int,0≤j->j<n->∀p∈need j,0≤p∧p<j
 h0:∀j:Int,0≤j->j<n->0≤hrs j
 lo0:∀j:Int,0≤j->j<n->0≤bg j
 lop:∀j:Int,0≤j->j<n->∀p∈need j,bg p+hrs p≤bg j
 att:∀j:Int,0≤j->j<n->bg j=0∨∃p∈need j,bg j=bg p+hrs p
structure Turn5(n:Nat)(need:Int->List Int)(hrs bg:Int->Int)(a:AS)(pr:Key->List Key)(dn ot rd:List Int)(c:Int):Prop where
 run:AS.Run a pr (dn.map Key.int) (ot.map Key.int) (rd.map Key.int)
 has:∀k,a.has k=true↔∃j:Int,k= .int j∧0≤j∧j<n
 pr:∀j:Int,0≤j->j<n->pr (.int j)=(need j).map Key.int
 c0:0≤c
 dne:∀j∈dn,bg j+hrs j≤c
 ote:∀j∈ot,c≤bg j+hrs j
 rde:∀j∈rd,bg j=c
section
variable{n:Nat}{need:Int->List Int}{hrs bg:Int->Int}{a:AS}{pr:Key->List Key}{dn ot rd:List Int}{c:Int}
theorem Turn5.rng(h:Turn5 n need hrs bg a pr dn ot rd c){j:Int}(hj:a.has (.int j)=true):0≤j∧j<n:=by
 obtain⟨i,e,h1⟩:=(h.has _).mp hj
 cases e;exact h1
theorem Turn5.ot_rng(h:Turn5 n need hrs bg a pr dn ot rd c){j:Int}(hj:j∈ot):0≤j∧j<n:=h.rng (h.run.oth _ (mem_kint.mpr hj))
theorem Turn5.dn_rng(h:Turn5 n need hrs bg a pr dn ot rd c){j:Int}(hj:j∈dn):0≤j∧j<n:=h.rng (h.run.dnh _ (mem_kint.mpr hj))
theorem Turn5.rd_rng(h:Turn5 n need hrs bg a pr dn ot rd c){j:Int}(hj:j∈rd):0≤j∧j<n:=h.rng ((h.run.rdm _).mp (mem_kint.mpr hj)).1
theorem Turn5.rd_iff(h:Turn5 n need hrs bg a pr dn ot rd c)(j:Int):j∈rd↔(0≤j∧j<n)∧j∉dn∧j∉ot∧∀p∈need j,p∈dn:=by
 have:=h.run.rdm (.int j)
 rw[mem_kint,mem_kint,mem_kint]at this
 rw[this]
 constructor
 ·rintro⟨h1,h2,h3,h4⟩
  have hr:=h.rng h1
  refine⟨hr,h2,h3,fun p hp=>?_⟩
  have:=h4 (.int p) (by rw[h.pr j hr.1 hr.2];exact mem_kint.mpr hp)
  exact mem_kint.mp this
 ·rintro⟨h1,h2,h3,h4⟩
  refine⟨(h.has _).mpr ⟨j,rfl,h1⟩,h2,h3,fun p hp=>?_⟩
  rw[h.pr j h1.1 h1.2]at hp
  obtain⟨q,hq,rfl⟩:=List.mem_map.mp hp
  exact mem_kint.mpr (h4 q hq)
theorem Turn5.get(P:Plan5 n need hrs bg)(h:Turn5 n need hrs bg a pr dn ot rd c):
  Turn5 n need hrs bg {a.out (rd.map Key.int)with rdy:=some [],npass:=a.npass+(rd.map Key.int).length,nfin:=a.nfin} pr dn (ot++rd) [] c where
 run:=by rw[List.map_append];exact h.run.get
 has:=fun k=>by rw[←h.has k];exact iff_of_eq (congrArg (· =true) ((AS.out_view (rd.map Key.int) a).2.1 k))
 pr:=h.pr
 c0:=h.c0
 dne:=h.dne
 ote:=fun j hj=>by
  rcases List.mem_append.mp hj with hj|hj
  ·exact h.ote j hj
  ·have:=h.rde j hj
   have hr:=h.rd_rng hj
   have:=P.h0 j hr.1 hr.2
   omega
 rde:=fun j hj=>nomatch hj
theorem Turn5.all(P:Plan5 n need hrs bg)(h:Turn5 n need hrs bg a pr dn [] [] c):∀j:Int,0≤j->j<n->j∈dn:=by
 have:∀ (m:Nat) (j:Int),j.toNat=m->0≤j->j<n->j∈dn:=by
  intro m
  induction m using Nat.strongRecOn with
  |_ m ih=>
   intro j hm h0 hn
   by_cases hd:j∈dn
   ·exact hd
   ·refine absurd ((h.rd_iff j).mpr ⟨⟨h0,hn⟩,hd,(by simp),fun p hp=>?_⟩) (by simp)
    have hp2:=P.inr j h0 hn p hp
    exact ih p.toNat (by omega) p rfl hp2.1 (by omega)
 exact fun j h0 hn=>this _ j rfl h0 hn
theorem Turn5.len(h:Turn5 n need hrs bg a pr dn ot rd c):dn.length≤n:=by
 have h1:=nodup_len_le dn (upto n) (nodup_kint.mp h.run.dnn) fun j hj=>mem_upto.mpr (h.dn_rng hj)
 rw[upto_len]at h1;exact h1
theorem Turn5.otn(h:Turn5 n need hrs bg a pr dn ot rd c):ot.Nodup:=nodup_kint.mp h.run.otn
theorem Turn5.ot_len(h:Turn5 n need hrs bg a pr dn ot rd c):ot.length≤n:=by
 have h1:=nodup_len_le ot (upto n) h.otn fun j hj=>mem_upto.mpr (h.ot_rng hj)
 rw[upto_len]at h1;exact h1
theorem Turn5.rd_len(h:Turn5 n need hrs bg a pr dn ot rd c):rd.length≤n:=by
 have h1:=nodup_len_le rd (upto n) (nodup_kint.mp h.run.rdn) fun j hj=>mem_upto.mpr (h.rd_rng hj)
 rw[upto_len]at h1;exact h1
theorem has_dec(a:AS)(s j:Key):(a.dec s).has j=a.has j:=by
 unfold AS.dec
 split
 ·exact AS.has_upd a s j fun ω=>rfl
 ·exact AS.has_upd a s j fun ω=>rfl
set_option tactic.hygienic true in
theorem done1_has(k j:Key):∀a:AS,(a.done1 k).has j=a.has j:=fun a=>by
 unfold AS.done1
 split
 ·rename_i x hx
  have hf:∀ (ss:List Key) (b:AS),(ss.foldl AS.dec b).has j=b.has j:=by
   intro ss
   induction ss with
   |nil=>intro b;rfl
   |cons s ss ih=>intro b;rw[List.foldl_cons,ih,has_dec]
  show(x.succ.foldl AS.dec (a.upd k (AN.setNp (-2)))).has j=_
  rw[hf]
  exact AS.has_upd a k j fun ω=>rfl
 ·rfl
theorem Turn5.step(P:Plan5 n need hrs bg)(h:Turn5 n need hrs bg a pr dn ot [] c){c':Int}{ov:List Int}(hov:ov.Nodup)(hne:ov≠[])(hm:∀j∈ov,j∈ot∧bg j+hrs j=c')(hle:∀j∈ot,c'≤bg j+hrs j):
  a.canDone (ov.map Key.int)∧∃rd',Turn5 n need hrs bg ((ov.map Key.int).foldl AS.done1 a) pr (dn++ov) (ot.filter fun j=>!decide (j∈ov)) rd' c':=by
 have hk:∀k∈ov.map Key.int,k∈ot.map Key.int:=fun k hk=>by
  obtain⟨j,hj,rfl⟩:=List.mem_map.mp hk
  exact mem_kint.mpr (hm j hj).1
 obtain⟨hc,rk,hR⟩:=AS.Run.dones _ h.run (nodup_kint.mpr hov) hk
 refine⟨hc,?_⟩
 have hlk:AS.less (ot.map Key.int) (ov.map Key.int)=(ot.filter fun j=>!decide (j∈ov)).map Key.int:=by
  rw[less_filter _ _ (nodup_kint.mpr h.otn),List.filter_map]
  congr 1
  apply List.filter_congr
  intro x hx
  simp only[Function.comp,mem_kint,decide_not]
 rw[hlk,←List.map_append]at hR
 have hhas:∀ (ks:List Key) (a:AS) (k:Key),(ks.foldl AS.done1 a).has k=a.has k:=by
  intro ks
  induction ks with
  |nil=>intro a k;rfl
  |cons x ks ih=>intro a k;rw[List.foldl_cons,ih,done1_has]
 have hH:∀k,((ov.map Key.int).foldl AS.done1 a).has k=true↔∃j:Int,k= .int j∧0≤j∧j<n:=fun k=>by rw[hhas];exact h.has k
 obtain⟨rd',rfl⟩:=unInt (l:=rk) fun k hk=>by
  obtain⟨j,e,_⟩:=(hH k).mp ((hR.rdm k).mp hk).1
  exact⟨j,e⟩
 obtain⟨j0,hj0⟩:∃j,j∈ov:=List.exists_mem_of_ne_nil ov hne
 have hcc:c≤c':=by
  have h1:=hm j0 hj0
  have h2:=h.ote j0 h1.1
  omega
 have base:∀j,j∈rd'↔(0≤j∧j<n)∧j∉(dn++ov)∧j∉(ot.filter fun j=>!decide (j∈ov))∧∀p∈need j,p∈(dn++ov):=fun j=>by
  have:=hR.rdm (.int j)
  rw[mem_kint,mem_kint,mem_kint]at this
  rw[this]
  constructor
  ·rintro⟨h1,h2,h3,h4⟩
   obtain⟨i,e,hr⟩:=(hH _).mp h1
   cases e
   refine⟨hr,h2,h3,fun p hp=>?_⟩
   have:=h4 (.int p) (by rw[h.pr j hr.1 hr.2];exact mem_kint.mpr hp)
   exact mem_kint.mp this
  ·rintro⟨h1,h2,h3,h4⟩
   refine⟨(hH _).mpr ⟨j,rfl,h1⟩,h2,h3,fun p hp=>?_⟩
   rw[h.pr j h1.1 h1.2]at hp
   obtain⟨q,hq,rfl⟩:=List.mem_map.mp hp
   exact mem_kint.mpr (h4 q hq)
 have hdn:∀j∈dn++ov,bg j+hrs j≤c':=fun j hj=>by
  rcases List.mem_append.mp hj with hj|hj
  ·have:=h.dne j hj;omega
  ·exact Int.le_of_eq (hm j hj).2
 refine⟨rd',hR,hH,h.pr,Int.le_trans h.c0 hcc,hdn,fun j hj=>hle j (List.mem_filter.mp hj).1,fun j hj=>?_⟩
 obtain⟨hr,h1,h2,h3⟩:=(base j).mp hj
 have hnot: ¬(j∈ot):=fun ho=>by
  by_cases hq:j∈ov
  ·exact h1 (List.mem_append.mpr (.inr hq))
  ·exact h2 (List.mem_filter.mpr ⟨ho,by simpa using hq⟩)
 have hnd:j∉dn:=fun hd=>h1 (List.mem_append.mpr (.inl hd))
 have hex:∃p∈need j,p∉dn:=by
  refine Classical.byContradiction fun hne=>?_
  have hall:∀p∈need j,p∈dn:=fun p hp=>Classical.byContradiction fun hn=>hne ⟨p,hp,hn⟩
  exact absurd ((h.rd_iff j).mpr ⟨hr,hnd,hnot,hall⟩) (by simp)
 obtain⟨p,hp,hpd⟩:=hex
 have hpe:bg p+hrs p=c':=by
  rcases List.mem_append.mp (h3 p hp)with hq|hq
  ·exact absurd hq hpd
  ·exact(hm p hq).2
 have l1:=P.lop j hr.1 hr.2 p hp
 have c0:=h.c0
 rcases P.att j hr.1 hr.2 with e|⟨q,hq,e⟩
 ·omega
 ·have:=hdn q (h3 q hq)
  omega
end
structure Adds5(n:Nat)(need:Int->List Int)(lo up:Int)(a:AS)(pr:Key->List Key):Prop where
 pre:AS.Pre a pr
 rng:∀k,a.has k=true->∃j:Int,k= .int j∧0≤j∧j<n
 got:∀j:Int,0≤j->lo≤j->j<n->a.has (.int j)=true
 oth:∀k,(∀j:Int,k≠.int j)->pr k=[]
 pr:∀j:Int,pr (.int j)=if 0≤j∧j<n then((if lo≤j then(need j).take 1 else [])++if j<up then(need j).drop 1 else []).map Key.int else []
section
variable{n:Nat}{need:Int->List Int}{hrs bg:Int->Int}{a:AS}{pr:Key->List Key}{lo up:Int}
set_option tactic.hygienic true in
theorem Adds5.zero:Adds5 n need n 0 AS.zero (fun ω=>[])where
 pre:=AS.Pre.zero
 rng:=fun k h=>by cases h
 got:=fun j h0 h1 h2=>by omega
 oth:=fun k ω=>rfl
 pr:=fun j=>by
  split
  ·rename_i h
   rw[if_neg (by omega),if_neg (by omega)];rfl
  ·rfl
theorem pre_small(h:AS.Pre a pr)(n m t:Nat)(hr:∀k,a.has k=true->∃j:Int,k= .int j∧0≤j∧j<n)(hm:∀k,(pr k).length≤m)(hb:n*m+n+t≤lim):a.small t∧a.scLen (n*m+n):=by
 have hL:∀k,a.has k=true->k∈(upto n).map Key.int:=fun k hk=>by
  obtain⟨j,rfl,h0,h1⟩:=hr k hk
  exact mem_kint.mpr (mem_upto.mpr ⟨h0,h1⟩)
 have hl:((upto n).map Key.int).length≤n:=by simp[upto_len]
 have l1:=h.len _ n hL hl
 have l2:=h.sc_len _ n m hL hl hm
 refine⟨⟨by omega,fun x hx=>?_⟩,by omega,fun k=>by have:=l2 k;omega⟩
 have hf:=AS.find_of_mem h.nd hx
 have:a.scOf x.key=x.succ:=by unfold AS.scOf;rw[hf]
 have:=l2 x.key
 rw[‹a.scOf x.key=x.succ›]at this
 omega
theorem Adds5.len(h:Adds5 n need lo up a pr)(sz:∀j,(need j).length≤50)(k:Key):(pr k).length≤100:=by
 cases k with
 |int j=>
  have:=sz j
  rw[h.pr j]
  split
  ·rw[List.length_map,List.length_append]
   split<;>split<;>simp<;>omega
  ·simp
 |str t=>rw[h.oth (.str t) (fun j e=>by cases e)];simp
theorem Adds5.small(h:Adds5 n need lo up a pr)(sz:∀j,(need j).length≤50)(hn:n≤16):a.small 1000∧a.scLen (n*100+n):=
 pre_small h.pre n 100 1000 h.rng (h.len sz) (by have h2:10000≤lim:=(by decide);omega)
theorem Adds5.one(h:Adds5 n need lo up a pr){i:Int}(h0:0≤i)(hi:i<n){ps:List Int}(hps:∀p∈ps,0≤p∧p<n){lo' up':Int}(hlo:lo'=lo∨(lo=i+1∧lo'=i))
  (hpr:∀j:Int,0≤j->j<n->((if lo'≤j then(need j).take 1 else [])++if j<up' then(need j).drop 1 else [])=((if lo≤j then(need j).take 1 else [])++if j<up then(need j).drop 1 else [])++if j=i then ps else []):
  Adds5 n need lo' up' (a.add (.int i) (ps.map Key.int)) (fun j=>if j= .int i then pr j++ps.map Key.int else pr j):=by
 obtain⟨p1,q1⟩:=h.pre.add (.int i) (ps.map Key.int)
 refine⟨p1,fun k hk=>?_,fun j hj hl hjn=>?_,fun k hk=>?_,fun j=>?_⟩
 ·rw[q1]at hk
  simp only[Bool.or_eq_true,decide_eq_true_eq]at hk
  rcases hk with(hk|hk)|hk
  ·exact h.rng k hk
  ·exact⟨i,hk,h0,hi⟩
  ·obtain⟨p,hp,rfl⟩:=List.mem_map.mp hk
   exact⟨p,rfl,hps p hp⟩
 ·rw[q1]
  simp only[Bool.or_eq_true,decide_eq_true_eq]
  by_cases hji:j=i
  ·exact .inl (.inr (by rw[hji]))
  ·exact .inl (.inl (h.got j hj (by omega) hjn))
 ·have hne: ¬(k=Key.int i):=hk i
  simp only[hne,if_false]
  exact h.oth k hk
 ·by_cases hji:j=i
  ·subst hji
   have hc:0≤j∧j<n:=⟨h0,hi⟩
   show(if Key.int j=Key.int j then pr (.int j)++ps.map Key.int else pr (.int j))=_
   rw[if_pos rfl,h.pr j,if_pos hc,if_pos hc,hpr j h0 hi,if_pos rfl,List.map_append (l₂:=ps)]
  ·have hne: ¬(Key.int j=Key.int i):=fun e=>hji (by cases e;rfl)
   show(if Key.int j=Key.int i then pr (.int j)++ps.map Key.int else pr (.int j))=_
   rw[if_neg hne,h.pr j]
   by_cases hc:0≤j∧j<n
   ·rw[if_pos hc,if_pos hc,hpr j hc.1 hc.2,if_neg hji,List.append_nil]
   ·rw[if_neg hc,if_neg hc]
theorem Adds5.down(h:Adds5 n need (lo+1) 0 a pr)(h0:0≤lo)(hi:lo<n)(hin:∀p∈need lo,0≤p∧p<n):∃pr',Adds5 n need lo 0 (a.add (.int lo) (((need lo).take 1).map Key.int)) pr':=
 ⟨_,h.one h0 hi (fun p hp=>hin p (List.mem_of_mem_take hp)) (.inr ⟨rfl,rfl⟩) fun j hj hjn=>by
  rw[if_neg (show ¬j<0 by omega),List.append_nil,List.append_nil]
  by_cases e:j=lo
  ·rw[if_pos (by omega),if_neg (by omega),if_pos e,e];rfl
  ·rw[if_neg e,List.append_nil]
   by_cases h1:lo≤j
   ·rw[if_pos h1,if_pos (by omega)]
   ·rw[if_neg h1,if_neg (by omega)]⟩
theorem Adds5.upw(h:Adds5 n need 0 up a pr)(h0:0≤up)(hi:up<n)(hin:∀p∈need up,0≤p∧p<n):∃pr',Adds5 n need 0 (up+1) (a.add (.int up) (((need up).drop 1).map Key.int)) pr':=
 ⟨_,h.one h0 hi (fun p hp=>hin p (List.mem_of_mem_drop hp)) (.inl rfl) fun j hj hjn=>by
  rw[if_pos hj]
  by_cases e:j=up
  ·rw[if_pos (by omega),if_neg (by omega),if_pos e,e,List.append_nil]
  ·rw[if_neg e,List.append_nil]
   by_cases h1:j<up
   ·rw[if_pos h1,if_pos (by omega)]
   ·rw[if_neg h1,if_neg (by omega)]⟩
theorem Adds5.start(P:Plan5 n need hrs bg)(sz:∀j,(need j).length≤50)(hn:n≤9)(h:Adds5 n need 0 n a pr):
  a.rdy=none∧a.nodes.length≤3000∧a.closed∧a.acyc∧∃rd,Turn5 n need hrs bg a.prep pr [] [] rd 0:=by
 have s2:=(h.small sz (by omega)).2
 have hb:a.scLen 1000:=⟨by have:=s2.1;omega,fun k=>by have:=s2.2 k;omega⟩
 have hpr:∀j:Int,0≤j->j<n->pr (.int j)=(need j).map Key.int:=fun j h0 h1=>by rw[h.pr j,if_pos ⟨h0,h1⟩,if_pos h0,if_pos h1,List.take_append_drop]
 refine⟨h.pre.rdy,by have:=hb.1;omega,h.pre.closed,?_,?_⟩
 ·refine h.pre.acyc (fun k=>match k with| .int j=>j.toNat|_=>0) fun k p hp=>?_
  cases k with
  |str t=>rw[h.oth (.str t) (fun j e=>by cases e)]at hp;cases hp
  |int j=>
   by_cases hj:0≤j∧j<n
   ·rw[hpr j hj.1 hj.2]at hp
    obtain⟨q,hq,rfl⟩:=List.mem_map.mp hp
    have:=P.inr j hj.1 hj.2 q hq
    show q.toNat<j.toNat
    omega
   ·rw[h.pr j,if_neg hj]at hp;cases hp
 ·obtain⟨rk,hR⟩:=h.pre.prep hb
  have hh:∀k,a.prep.has k=a.has k:=fun k=>rfl
  have hH:∀k,a.prep.has k=true↔∃j:Int,k= .int j∧0≤j∧j<n:=fun k=>by
   rw[hh]
   exact⟨h.rng k,fun⟨j,e,h0,h1⟩=>by rw[e];exact h.got j h0 h0 h1⟩
  obtain⟨rd,rfl⟩:=unInt (l:=rk) fun k hk=>by
   obtain⟨j,e,_⟩:=(hH k).mp ((hR.rdm k).mp hk).1
   exact⟨j,e⟩
  refine⟨rd,hR,hH,hpr,Int.le_refl _,(fun j hj=>nomatch hj),(fun j hj=>nomatch hj),fun j hj=>?_⟩
  obtain⟨h1,_,_,h4⟩:=(hR.rdm (.int j)).mp (mem_kint.mpr hj)
  obtain⟨i,e,hr⟩:=(hH _).mp h1
  cases e
  rw[hpr j hr.1 hr.2]at h4
  have hnil:need j=[]:=by
   cases hx:need j with
   |nil=>rfl
   |cons p r=>exact absurd (h4 (.int p) (by rw[hx];simp)) (by simp)
  rcases P.att j hr.1 hr.2 with e|⟨q,hq,e⟩
  ·exact e
  ·rw[hnil]at hq;cases hq
noncomputable def gr5(n:Nat)(need:Int->List Int):List (Key×List Key):=(downto n).map fun j=>(.int j,((need j).take 1).map Key.int)
theorem gr5_len:(gr5 n need).length=n:=by unfold gr5 downto;simp
theorem gr5_adds(hin:∀j:Int,0≤j->j<n->∀p∈need j,0≤p∧p<j):∀i:Nat,i≤n->∃pr,Adds5 n need ((n:Int) - i) 0 (addAll ((gr5 n need).take i) AS.zero) pr
 |0,_=>⟨fun ω=>[],by rw[List.take_zero,Int.natCast_zero,Int.sub_zero];exact Adds5.zero⟩
 |i+1,hi=>by
  obtain⟨pr,h⟩:=gr5_adds hin i (by omega)
  have hg:(gr5 n need)[i]?=some (.int ((n:Int) - 1 - i),((need ((n:Int) - 1 - i)).take 1).map Key.int):=by
   unfold gr5 downto
   rw[List.map_map,List.getElem?_map,List.getElem?_range (by omega)]
   have e:((n:Int) - 1)+(i:Int)*(-1)=(n:Int) - 1 - i:=by omega
   simp only[Option.map_some,Function.comp,e]
  have e1:(n:Int) - i=((n:Int) - 1 - i)+1:=by omega
  have e2:(n:Int) - ((i+1:Nat):Int)=(n:Int) - 1 - i:=by omega
  rw[e1]at h
  obtain⟨pr',h'⟩:=h.down (by omega) (by omega) fun p hp=>by have:=hin _ (by omega) (by omega) p hp;omega
  refine⟨pr',?_⟩
  rw[e2,take_get hg]
  unfold addAll at h'⊢
  rw[List.foldl_append]
  exact h'
theorem gr5_ok(hin:∀j:Int,0≤j->j<n->∀p∈need j,0≤p∧p<j)(sz:∀j,(need j).length≤50)(hn:n≤16):GrOk (gr5 n need):=by
 have hlim:(10000:Nat)≤lim:=by decide
 have hp:∀ (i:Nat) (p:Key×List Key),(gr5 n need)[i]?=some p->p.2.length≤1∧i<n:=fun i p h=>by
  obtain⟨hlt,e⟩:=List.getElem?_eq_some_iff.mp h
  rw[gr5_len]at hlt
  refine⟨?_,hlt⟩
  have:=List.mem_of_getElem? h
  unfold gr5 at this
  obtain⟨j,_,rfl⟩:=List.mem_map.mp this
  simp only[List.length_map,List.length_take];omega
 refine⟨fun i p h=>?_,fun i p h=>by have:=(hp i p h).1;omega⟩
 obtain⟨h1,h2⟩:=hp i p h
 obtain⟨pr,hA⟩:=gr5_adds hin i (by omega)
 exact small_mono (hA.small sz hn).1 (by omega)
end
noncomputable abbrev g5(needs:List (List Int))(hours:List Int)(a:AS)(B busy:List Int)(c:Int):SGam:=
 [("needs",some (0,.mat needs)),("hours",some (0,.ints hours)),("sorter",some (1,.sorter a)),("ends",some (1,.ints B)),("busy",some (1,.ints busy)),("clock",some (0,.int c))]
noncomputable abbrev En(hours:List Int)(bg:Int->Int)(j:Int):Int:=bg j+ix hours j
noncomputable def loop5:Stmt:=nthS (fbody (s05 8)) 6
section
variable{C:Cx}{env:Env}
theorem V.notEB{Γ:Gam}{p:Pos}{l r:Expr}{xs:List PV}(h1:Ev C env Γ l false (.list xs))(h2:Ev C env Γ r false (.list []))(hx:(PV.list xs).ok=true)(hm:behindInMarks .NotEq r=false:=by with_unfolding_all rfl):EvB C env Γ (.Compare l [.NotEq] [r] p) (!xs.isEmpty):=by
 have:=V.cmpB (p:=p) h1 h2 (Cop.ne (y:=.list []) hx rfl) hm
 rwa[eqv_nil_list]at this
theorem giv5(T:TopK C)(hN:C.hd=false)(hl:4≤C.lev)(K:KOk env (fnames (s05 8)))
  {needs:List (List Int)} {hours:List Int} {need:Int->List Int} {hrs bg:Int->Int} {a:AS} {pr:Key->List Key} {dn ot rd B:List Int} {c:Int} (hn:needs.length≤9)
  (P:Plan5 needs.length need hrs bg) (h:Turn5 needs.length need hrs bg a pr dn ot rd c) {rest:List Stmt} {Q:AFlow->SGam->Prop}
  (k:Blk C env (("given",some (0,.tuple (rd.map .int)))::g5 needs hours (a.got (rd.map .int)) B ot c) rest Q):
  Blk C env (g5 needs hours a B ot c) (nthS (forBody loop5) 0::nthS (forBody loop5) 1::nthS (forBody loop5) 2::rest) Q:=by
 have hlim:(100:Nat)≤lim:=by decide
 have hrl:=h.rd_len
 have hol:=h.ot_len
 have h':=h.get P
 have hrk:((rd.map Key.int).length)≤lim:=by simp;omega
 have hin:∀k∈rd.map Key.int,(a.find k).isSome=true:=fun k hk=>by
  obtain⟨j,hj,rfl⟩:=List.mem_map.mp hk
  exact((h.run.rdm _).mp (mem_kint.mpr hj)).1
 refine Blk.assign (n:=0) (pv:=.bool a.active) (V.k0 (V.methP (C:=C) (m:=3) (n:=1) (a:=a) (xs:=[]) T.sk (MethK.of T.m106) (by omega) rfl (K.var "sorter" rfl) (fun ω=>EvL.nil) (fn_active (C:=C.l 3) (T.l 3) hN h.run.rdy hrk))) (K.loc "active" (.inl rfl)) ?_
 refine Blk.assignX (EvX.methA (C:=C) (m:=3) (n:=0) (a:=a) (xs:=[]) T.sk (MethK.of T.m99) (by omega) rfl EvL.nil (fnm_get_ready (C:=C.l 3) (T.l 3) hN h.run.rdy hrk hin)) (K.loc "given" (.inl rfl)) fun Γ1 pv hR=>?_
 obtain⟨rfl,rfl⟩:=hR
 rw[pvs_ints]
 refine Blk.weak (Γ':=("active",some (0,.bool a.active))::("given",some (0,.tuple (rd.map .int)))::g5 needs hours (a.got (rd.map .int)) B ot c) ?_ (.cons rfl (.cons rfl (.cons rfl (.cons rfl (.cons rfl (.cons rfl (.cons rfl (.cons rfl .nil))))))))
 have hact:a.active=(!rd.isEmpty|| !ot.isEmpty):=by
  rw[h.run.active]
  cases ot<;>cases rd<;>rfl
 refine Blk.iteX (R:=fun Γ' b=>Sle (("given",some (0,.tuple (rd.map .int)))::g5 needs hours (a.got (rd.map .int)) B ot c) Γ'∧b=false) (EvXB.ors (EvXL.cons (R1:=fun Γ' b=>Γ'=_∧b=false) (EvXB.of (V.cmpB (V.typeT T K rfl (V.name rfl (K.var "given" rfl))) (V.tyName (x:="tuple") (v:=.type "tuple") T K (by decide) rfl (by decide +kernel)) Cop.isnot_type)) ?_ ?_)) ?_
 ·rintro Γ' ⟨rfl,h⟩;cases h
 ·rintro Γ' ⟨rfl,_⟩
  refine EvXL.cons (R1:=fun Γ' b=>Sle (("active",some (0,.bool a.active))::("given",some (0,.tuple (rd.map .int)))::g5 needs hours (a.got (rd.map .int)) B ot c) Γ'∧b=false) (EvXB.cmp (EvX.methA (C:=C) (m:=3) (n:=0) (a:=a.got (rd.map .int)) (xs:=[]) T.sk (MethK.of T.m99) (by omega) rfl EvL.nil (fnm_get_ready (C:=C.l 3) (T.l 3) hN (ks:=[]) rfl (by decide) (by simp))) ?_) ?_ ?_
  ·rintro Γ' x ⟨rfl,rfl⟩
   refine⟨.tuple [],!(PV.tuple []).eqv (.tuple []),V.nilT,Cop.ne rfl rfl,?_,?_⟩
   ·have e:=AS.got_nil (a:=a.got (rd.map .int)) rfl
    unfold AS.got at e⊢
    rw[e]
    exact .cons rfl (.cons rfl (.cons rfl (.cons rfl (.cons rfl (.cons rfl (.cons rfl (.cons rfl .nil)))))))
   ·rw[eqv_nil_tuple];rfl
  ·rintro Γ' ⟨_,h⟩;cases h
  ·rintro Γ' ⟨hs,_⟩
   have hs2:Sle (("given",some (0,.tuple (rd.map .int)))::g5 needs hours (a.got (rd.map .int)) B ot c) Γ':=Sle.trans (.cons rfl (.cons rfl (.cons rfl (.cons rfl (.cons rfl (.cons rfl (.cons rfl .nil))))))) hs
   have lk:∀ {x:Str} {e},(("active",some (0,.bool a.active))::("given",some (0,.tuple (rd.map .int)))::g5 needs hours (a.got (rd.map .int)) B ot c:SGam).lookup x=some (some e)->(evG Γ').lookup x=some (some e):=fun hx=>hs _ _ hx
   refine EvXL.cons (R1:=fun Γ'' b=>Γ''=Γ'∧b=false) ?_ ?_ ?_
   ·have e:false=(a.active !=(!(rd.map PV.int).isEmpty|| !(ot.map PV.int).isEmpty)):=by
     rw[hact];cases rd<;>cases ot<;>rfl
    rw[e]
    exact EvXB.of (V.cmpB (V.name (lk rfl) (K.var "active" rfl)) (Ev.or_val (V.notET (V.name (lk rfl) (K.var "given" rfl)) V.nilT (ok_tints _)) fun ω=>V.notE (V.name (lk rfl) (K.var "busy" rfl)) V.nilE (ok_ints _)) Cop.isnot_bool)
   ·rintro Γ'' ⟨_,h⟩;cases h
   ·rintro Γ'' ⟨rfl,_⟩
    exact EvXL.nil ⟨hs2,rfl⟩
 ·rintro Γ' b ⟨hs,rfl⟩
  exact Blk.nil (k.weak hs)
theorem begin5(T:TopK C)(hN:C.hd=false)(hi:interactive env=false)(K:KOk env (fnames (s05 8)))
  {needs:List (List Int)} {hours:List Int} {bg:Int->Int} {a a':AS} {pr:Key->List Key} {dn ot rd:List Int} {c:Int} (hn:needs.length≤9) (hh:hours.length=needs.length) (sz:∀j,(ix needs j).length≤50)
  (P:Plan5 needs.length (ix needs) (ix hours) bg) (h:Turn5 needs.length (ix needs) (ix hours) bg a pr dn ot rd c) {rest:List Stmt} {Q:AFlow->SGam->Prop}
  (k:Blk C env (g5 needs hours a' (Bl needs.length (En hours bg) (dn++(ot++rd))) (ot++rd) c) rest Q):
  Blk C env (("given",some (0,.tuple (rd.map .int)))::g5 needs hours a' (Bl needs.length (En hours bg) (dn++ot)) ot c) (nthS (forBody loop5) 3::rest) Q:=by
 have hlim:(100:Nat)≤lim:=by decide
 have hrl:=h.rd_len
 have hol:=h.ot_len
 have hdl:=h.len
 refine Blk.forT (C:=C) (L:=rd) (g:=.int) (EvI.tuple (Ev.name (n:=0) (md:=true) rfl (K.var "given" rfl)) (by simp;omega)) (fun i Γi=>Sle (g5 needs hours a' (Bl needs.length (En hours bg) (dn++(ot++rd.take i))) (ot++rd.take i) c) Γi)
  (fun j Γi=>("job",some (0,.int j))::Γi) ?_ (fun j Γi ω=>AsgO.name (K.loc "job" (.inl rfl))) (fun i j Γi hj hsle=>?_) fun Γ' hsle=>?_
 ·simp only[List.take_zero,List.append_nil]
  exact .cons rfl (.cons rfl (.cons rfl (.cons rfl (.cons rfl (.cons rfl .nil)))))
 ·refine Blk.weak (Γ':=("job",some (0,.int j))::g5 needs hours a' (Bl needs.length (En hours bg) (dn++(ot++rd.take i))) (ot++rd.take i) c) ?_ (sle_cons_mono _ _ hsle)
  have hjm:=List.mem_of_getElem? hj
  have hjr:=h.rd_rng hjm
  have hv:=h.rde j hjm
  have htk:rd.take (i+1)=rd.take i++[j]:=by rw[List.take_add_one,hj];rfl
  have hBl:=Bl_len needs.length (En hours bg) (dn++(ot++rd.take i))
  generalize hB:Bl needs.length (En hours bg) (dn++(ot++rd.take i))=B at hBl⊢
  have hq:(ix needs j).filter (fun p=>decide (ix B p<0)||decide (c<ix B p))=[]:=List.filter_eq_nil_iff.mpr fun p hp=>by
   have hpr:=P.inr j hjr.1 hjr.2 p hp
   have hpd:=((h.rd_iff j).mp hjm).2.2.2 p hp
   have e:ix B p=bg p+ix hours p:=by rw[←hB,Bl_ix hpr.1 (by omega),if_pos (List.mem_append.mpr (.inl hpd))]
   have h1:=h.dne p hpd
   have h2:=P.lo0 p hpr.1 (by omega)
   have h3:=P.h0 p hpr.1 (by omega)
   rw[e]
   simp only[Bool.or_eq_true,decide_eq_true_eq]
   omega
  have kc:∀ {scope:Scope} {D:Addr} {cells:List (Str×Addr)} {x:Str},isVar (scope.names.lookup x)=true->isVar ((CE scope env D cells).kindOf x)=true:=fun{scope D cells x} hx=>(KOk.ce (scope:=scope) (env:=env) (L:=D) (cells:=cells)).var x hx
  have szj:=sz j
  have hnil:PV.ints (((ix needs j).filter fun p=>decide (ix B p<0)||decide (c<ix B p)).map id)= .ints []:=by rw[hq];rfl
  refine Blk.ite (b:=!([]:List PV).isEmpty) (V.notEB (xs:=[]) (Ev.to hnil (EvC.ev (V.filt (L:=ix needs j) (g:=.int) (g':=.int) (h:=id) (q:=fun p=>decide (ix B p<0)||decide (c<ix B p)) (md:=false) K (EvI.list (V.itemN (L:=needs) (g:=.ints) (V.name rfl (K.var "needs" rfl)) (V.name rfl (K.var "job" rfl)) hjr.1 hjr.2 rfl (by omega)) (by simp;omega)) (by decide) (.inl rfl) rfl
   (fun D cells p hp=>?_) (fun D cells p hp ω=>V.e0 (V.name rfl (kc rfl))) (by omega)))) V.nilE rfl) ?_
  ·have hpr:=P.inr j hjr.1 hjr.2 p hp
   refine EvB.or2 (V.cmpB (V.itemN (L:=B) (g:=.int) (V.name rfl (kc rfl)) (V.name rfl (kc rfl)) hpr.1 (by omega) hBl (by omega)) V.int Cop.lt_int) fun ω=>V.cmpB (V.itemN (L:=B) (g:=.int) (V.name rfl (kc rfl)) (V.name rfl (kc rfl)) hpr.1 (by omega) hBl (by omega)) (V.name (n:=0) rfl (kc rfl)) ?_
   exact Cop.gt_int
  refine Blk.nil ?_
  refine Blk.setitem (C:=C) (x:="ends") (n₀:=1) (ys:=B.map .int) (upd:=id) (y:=.int (c+ix hours j)) (j:=j) (V.t (V.add (V.name rfl (K.var "clock" rfl)) (V.item (L:=hours) (g:=.int) (V.name rfl (K.var "hours" rfl)) (V.name rfl (K.var "job" rfl)) hjr.1 (by omega) (by omega)))) (EvF.list rfl) (Ev.name (n:=0) rfl (K.var "job" rfl)) hjr.1 (by simp;omega) (by simp;omega) ?_
  refine Blk.append (C:=C) (x:="busy") (n₀:=1) (ys:=(ot++rd.take i).map .int) (upd:=id) (y:=.int j) (EvF.list rfl) (Ev.name (n:=0) rfl (K.var "job" rfl)) (by simp;omega) hi (Blk.nil ?_)
  show Sle _ _
  have e:c+ix hours j=En hours bg j:=by show _=bg j+ix hours j;rw[hv]
  simp only[id_eq,map_set_int,map_int_app,e]
  rw[←hB,Bl_set hjr.1 hjr.2,htk]
  simp only[List.append_assoc]
  exact .cons rfl (.cons rfl (.cons rfl (.cons rfl (.cons rfl (.cons rfl .nil)))))
 ·rw[List.take_length]at hsle
  exact k.weak hsle
end
noncomputable def ifBody:Stmt->List Stmt
 | .If _ b _ _=>b
 |_=>[]
section
variable{C:Cx}{env:Env}
theorem end5(T:TopK C)(hN:C.hd=false)(hl:4≤C.lev)(hi:interactive env=false)(K:KOk env (fnames (s05 8)))
  {needs:List (List Int)} {hours:List Int} {need:Int->List Int} {bg:Int->Int} {a:AS} {pr:Key->List Key} {dn ot:List Int} {c:Int} (hn:needs.length≤9) (hh:hours.length=needs.length)
  (P:Plan5 needs.length need (ix hours) bg) (h:Turn5 needs.length need (ix hours) bg a pr dn ot [] c) {Q:AFlow->SGam->Prop}
  (hnil:ot=[]->∀Γ',Sle (g5 needs hours a (Bl needs.length (En hours bg) (dn++ot)) ot c) Γ'->Q .next Γ')
  (hnext:∀a' dn' ot' rd' c',Turn5 needs.length need (ix hours) bg a' pr dn' ot' rd' c'->dn.length+1≤dn'.length->∀Γ',Sle (g5 needs hours a' (Bl needs.length (En hours bg) (dn'++ot')) ot' c') Γ'->Q .next Γ'):
  Blk C env (g5 needs hours a (Bl needs.length (En hours bg) (dn++ot)) ot c) [nthS (forBody loop5) 4] Q:=by
 have hlim:(100:Nat)≤lim:=by decide
 have hol:=h.ot_len
 have hdl:=h.len
 have hBn:=Bl_len needs.length (En hours bg) (dn++ot)
 have hB:∀j∈ot,ix (Bl needs.length (En hours bg) (dn++ot)) j=En hours bg j:=fun j hj=>by
  have hr:=h.ot_rng hj
  rw[Bl_ix hr.1 hr.2,if_pos (List.mem_append.mpr (.inr hj))]
 refine Blk.ite (b:=!(ot.map PV.int).isEmpty) (V.notEB (V.name rfl (K.var "busy" rfl)) V.nilE (ok_ints _)) ?_
 cases hot:ot with
 |nil=>
  subst hot
  exact Blk.nil (Blk.nil (hnil rfl _ (.refl _)))
 |cons o1 o2=>
  rw[←hot]
  have hne:ot≠[]:=by rw[hot];simp
  have he:(!(ot.map PV.int).isEmpty)=true:=by rw[hot];rfl
  rw[he]
  obtain⟨c',hc1,hc2⟩:=exists_min (ot.map (En hours bg)) (by simpa using hne)
  generalize hBB:Bl needs.length (En hours bg) (dn++ot)=B at hBn hB
  have hmap:(ot.map (ix B))=ot.map (En hours bg):=List.map_congr_left hB
  have kc:∀ {scope:Scope} {D:Addr} {cells:List (Str×Addr)} {x:Str},isVar (scope.names.lookup x)=true->isVar ((CE scope env D cells).kindOf x)=true:=fun{scope D cells x} hx=>(KOk.ce (scope:=scope) (env:=env) (L:=D) (cells:=cells)).var x hx
  refine Blk.assign (n:=0) (pv:=.int c') (V.k0 (V.minL (ns:=ot.map (ix B)) T K hN rfl (EvC.ev (V.map (L:=ot) (g:=.int) (g':=.int) (h:=ix B) (md:=false) K (EvI.list (V.name rfl (K.var "busy" rfl)) (by simp;omega)) (by decide) (.inl rfl) rfl (fun D cells j hj=>V.e0 (V.itemN (L:=B) (g:=.int) (V.name rfl (kc rfl)) (V.name rfl (kc rfl)) (h.ot_rng hj).1 (h.ot_rng hj).2 hBn (by omega))) (by omega))) (by rw[hmap];exact hc1) (by rw[hmap];exact hc2))) (K.loc "clock" (.inr rfl)) ?_
  have q1:(ot.filter fun j=>ix B j==c')=ot.filter fun j=>En hours bg j==c':=List.filter_congr fun j hj=>by rw[hB j hj]
  refine Blk.assign_lc (C:=C) (dp:=0) (out:=(ot.filter fun j=>En hours bg j==c').map .int) ?_ (K.loc "over" (.inr rfl)) ?_
  ·rw[←q1,←List.map_id (ot.filter fun j=>ix B j==c')]
   exact V.filt (L:=ot) (g:=.int) (g':=.int) (h:=id) (q:=fun j=>ix B j==c') (md:=false) K (EvI.list (V.name rfl (K.var "busy" rfl)) (by simp;omega)) (by decide) (.inl rfl) rfl (fun D cells j hj=>V.cmpB (V.itemN (L:=B) (g:=.int) (V.name rfl (kc rfl)) (V.name rfl (kc rfl)) (h.ot_rng hj).1 (h.ot_rng hj).2 hBn (by omega)) (V.name (n:=0) rfl (kc rfl)) Cop.eq_int) (fun D cells j hj ω=>V.e0 (V.name rfl (kc rfl))) (by omega)
  have hfl:(ot.filter fun j=>En hours bg j==c').length≤ot.length:=List.length_filter_le _ _
  have hfm:∀j∈ot.filter (fun j=>En hours bg j==c'),j∈ot∧bg j+ix hours j=c':=fun j hj=>by
   obtain⟨h1,h2⟩:=List.mem_filter.mp hj
   exact⟨h1,by simpa using h2⟩
  have hfn:(ot.filter fun j=>En hours bg j==c').Nodup:=h.otn.filter _
  have hfe:(ot.filter fun j=>En hours bg j==c')≠[]:=by
   obtain⟨j,hj,e⟩:=List.mem_map.mp hc1
   exact List.ne_nil_of_mem (List.mem_filter.mpr ⟨hj,by simpa using e⟩)
  generalize (ot.filter fun j=>En hours bg j==c')=ov at hfl hfm hfn hfe
  refine Blk.freeze (x:="over") rfl ?_
  refine Blk.weak (Γ':=("over",some (0,.ints ov))::g5 needs hours a B ot c') ?_ (.cons rfl (.cons rfl (.cons rfl (.cons rfl (.cons rfl (.cons rfl (.cons rfl .nil)))))))
  have tail:∀ov:List Int,ov.length≤ot.length->(∀j∈ov,j∈ot∧bg j+ix hours j=c')->ov.Nodup->ov≠[]->∀ {e1 e2:Stmt},e1=nthS (ifBody (nthS (forBody loop5) 4)) 3->e2=nthS (ifBody (nthS (forBody loop5) 4)) 4->Blk C env (("over",some (0,.ints ov))::g5 needs hours a B ot c') [e1,e2] (aft C env [] Q):=by
   intro ov hfl hfm hfn hfe e1 e2 he1 he2
   subst he1 he2
   have hle:∀j∈ot,c'≤bg j+ix hours j:=fun j hj=>hc2 _ (List.mem_map.mpr ⟨j,hj,rfl⟩)
   obtain⟨hcan,rd',h'⟩:=h.step P hfn hfe hfm hle
   have hov:∀j∈ov,j∈ot:=fun j hj=>(hfm j hj).1
   have hBl:B=Bl needs.length (En hours bg) ((dn++ov)++ot.filter fun j=>!decide (j∈ov)):=by
    rw[←hBB]
    refine Bl_congr fun j=>?_
    simp only[List.mem_append,List.mem_filter,Bool.not_eq_true',decide_eq_false_iff_not]
    by_cases hj:j∈ov
    ·simp[hj,hov j hj]
    ·simp[hj]
   have hlen:dn.length+1≤(dn++ov).length:=by
    have:0<ov.length:=List.length_pos_iff.mpr hfe
    simp only[List.length_append];omega
   have hn2:=fun Γ' hs=>hnext _ _ _ rd' c' h' hlen Γ' hs
   rw[←hBl]at hn2
   refine Blk.assign_lc (C:=C) (dp:=0) (out:=(ot.filter fun j=>!decide (j∈ov)).map .int) ?_ (K.loc "busy" (.inl rfl)) ?_
   ·rw[←List.map_id (ot.filter fun j=>!decide (j∈ov))]
    exact V.filt (L:=ot) (g:=.int) (g':=.int) (h:=id) (q:=fun j=>!decide (j∈ov)) (md:=false) K (EvI.list (V.name rfl (K.var "busy" rfl)) (by simp;omega)) (by decide) (.inl rfl) rfl (fun D cells j hj=>V.notinIB (V.name rfl (kc rfl)) (V.name (n:=0) rfl (kc rfl))) (fun D cells j hj ω=>V.e0 (V.name rfl (kc rfl))) (by omega)
   generalize (ot.filter fun j=>!decide (j∈ov))=left at hn2
   refine Blk.weak (Γ':=("over",some (0,.ints ov))::g5 needs hours a B left c') ?_ (.cons rfl (.cons rfl (.cons rfl (.cons rfl (.cons rfl (.cons rfl (.cons rfl .nil)))))))
   refine Blk.ite (b:=(c'.fmod 3==0)) (V.cmpB (V.mod (V.name rfl (K.var "clock" rfl)) V.int (by decide)) V.int Cop.eq_int) ?_
   cases c'.fmod 3==0 with
   |true=>
    have hM:FnM (C.l 3) 120 a (ov.map .int) .none ((ov.map Key.int).foldl AS.done1 a):=by
     have:=fnm_done (C:=C.l 3) (T.l 3) hN (ks:=ov.map Key.int) h.run.rdy (by simp;omega) hcan
     rwa[pvs_ints]at this
    refine Blk.exprX (EvX.methSA (C:=C) (m:=3) (n:=0) (a:=a) T.sk (MethK.of T.m120) (by omega) rfl (ArgsS.lone (Ev.name (n:=0) rfl (K.var "over" rfl)) (by simp;omega)) hM) (fun Γ1 pv hR=>?_) hi
    obtain⟨rfl,rfl⟩:=hR
    refine Blk.nil (Blk.nil (Blk.nil (hn2 _ ?_)))
    exact .cons rfl (.cons rfl (.cons rfl (.cons rfl (.cons rfl (.cons rfl .nil)))))
   |false=>
    refine Blk.forT (C:=C) (L:=ov) (g:=.int) (EvI.list (Ev.name (n:=0) (md:=true) rfl (K.var "over" rfl)) (by simp;omega)) (fun i Γi=>Sle (g5 needs hours (((ov.take i).map Key.int).foldl AS.done1 a) B left c') Γi)
     (fun j Γi=>("job",some (0,.int j))::Γi) ?_ (fun j Γi ω=>AsgO.name (K.loc "job" (.inl rfl))) (fun i j Γi hj hsle=>?_) fun Γ' hsle=>?_
    ·exact .cons rfl (.cons rfl (.cons rfl (.cons rfl (.cons rfl (.cons rfl .nil)))))
    ·refine Blk.weak (Γ':=("job",some (0,.int j))::g5 needs hours (((ov.take i).map Key.int).foldl AS.done1 a) B left c') ?_ (sle_cons_mono _ _ hsle)
     obtain⟨x,x1,x2,x3,l,x4,x5⟩:=canDone_at (ov.map Key.int) a i (.int j) hcan (by rw[List.getElem?_map,hj];rfl)
     rw[←List.map_take]at x1 x3 x4
     have hM:=fnm_done (C:=C.l 3) (T.l 3) hN (ks:=[.int j]) x4 (by show 1≤lim;omega) ⟨⟨x,x1,x2,x3,l,x4,x5⟩,trivial⟩
     refine Blk.exprX (EvX.methA (C:=C) (m:=3) (n:=0) T.sk (MethK.of T.m120) (by omega) rfl (EvL.cons (Ev.name (n:=0) rfl (K.var "job" rfl)) EvL.nil) hM) (fun Γ1 pv hR=>?_) hi
     obtain⟨rfl,rfl⟩:=hR
     refine Blk.nil ?_
     show Sle _ _
     have e:((ov.take (i+1)).map Key.int).foldl AS.done1 a=[Key.int j].foldl AS.done1 (((ov.take i).map Key.int).foldl AS.done1 a):=by
      rw[List.take_add_one,hj,List.map_append,List.foldl_append];rfl
     rw[e]
     exact .cons rfl (.cons rfl (.cons rfl (.cons rfl (.cons rfl (.cons rfl .nil)))))
    ·rw[List.take_length]at hsle
     exact Blk.nil (Blk.nil (Blk.nil (hn2 _ hsle)))
  refine Blk.ite (b:=(c'.fmod 3==2)) (V.cmpB (V.mod (V.name rfl (K.var "clock" rfl)) V.int (by decide)) V.int Cop.eq_int) ?_
  cases c'.fmod 3==2 with
  |true=>
   refine Blk.assign (n:=1) (pv:=.ints (ov.take 1)) (V.k1 ?_) (K.loc "over" (.inr rfl)) ?_
   ·rw[List.map_take]
    exact EvN.slice_to (md:=false) (m2:=false) (k:=1) (V.name (n:=0) rfl (K.var "over" rfl)) V.int (by decide) (by simp;omega)
   ·refine Blk.freeze (x:="over") rfl (Blk.nil (Blk.weak (Γ':=("over",some (0,.ints (ov.take 1)))::g5 needs hours a B ot c') (tail (ov.take 1) (by simp only[List.length_take];omega) (fun j hj=>hfm j (List.mem_of_mem_take hj)) (hfn.sublist (List.take_sublist ..)) (fun e=>?_) rfl rfl) (.cons rfl (.cons rfl (.cons rfl (.cons rfl (.cons rfl (.cons rfl (.cons rfl .nil)))))))))
    cases ov with
    |nil=>exact hfe rfl
    |cons x l=>cases e
  |false=>exact Blk.nil (tail ov hfl hfm hfn hfe rfl rfl)
end
theorem downto_len(n:Nat):(downto n).length=n:=by unfold downto;simp
theorem downto_nd(n:Nat):(downto n).Nodup:=by
 unfold downto
 exact List.pairwise_map.mpr (List.nodup_range.imp fun h e=>h (by omega))
theorem mem_downto{n:Nat}{j:Int}(h:j∈downto n):0≤j∧j<n:=by
 obtain⟨i,hi⟩:=List.getElem?_of_mem h
 obtain⟨e,hlt⟩:=downto_get hi
 omega
theorem grPV5(needs:List (List Int)):grPV (gr5 needs.length (ix needs))=(downto needs.length).map fun j=>(Key.int j,PV.ints ((ix needs j).take 1)):=by
 unfold grPV gr5
 rw[List.map_map]
 refine List.map_congr_left fun j ω=>?_
 simp only[Function.comp,pvs_ints]
section
variable{C:Cx}
theorem over_fn(T:TopK C)(hN:C.hd=false)(hl:6≤C.lev)(f146:FnAt C.K 146 (s05 8) .none)
  (f73:FnAt C.K 73 (tsS 0) (.ref 66)) (hd66:C.K.lookup 66=some {cls:=.type "tuple",data:=.seq #[.none]})
  {needs:List (List Int)} {hours:List Int} {bg:Int->Int} {M:Int} (hn0:0<needs.length) (hn:needs.length≤9) (hh:hours.length=needs.length) (sz:∀j,(ix needs j).length≤50)
  (P:Plan5 needs.length (ix needs) (ix hours) bg) (hM:∃j:Int,0≤j∧j<needs.length∧bg j+ix hours j=M) (hle:∀j:Int,0≤j->j<needs.length->bg j+ix hours j≤M):Fn C 146 [.mat needs,.ints hours] (.int M):=by
 refine Fn.ofB (C:=C) f146 ["needs","hours"] rfl (by decide) (fun x hx=>?_) (fun fd vs h1 h2 h3 h4=>?_) fun env K hi=>?_
 ·simp only[List.mem_cons,List.not_mem_nil,or_false]at hx
  rcases hx with rfl|rfl
  ·exact .inr rfl
  ·exact .inl rfl
 ·obtain⟨u,w,rfl⟩:=len_two h4
  unfold bindArgs;rw[h1,h2];rfl
 have hlim:(10000:Nat)≤lim:=by decide
 have h1000:needs.length≤1000:=by omega
 have nl:∀ {Γ:Gam} {md:Bool} {p p' p2:Pos},Γ.lookup ("needs":Str)=some (some (0,.mat needs))->Ev C env Γ (.Call (.Name "len" p) [.Name "needs" p2] [] p') md (.int needs.length):=fun{Γ md p p' p2} hΓ=>by
  have:=V.len (C:=C) (env:=env) (Γ:=Γ) (p:=p) (p':=p') (md:=md) (e:=.Name "needs" p2) T K rfl (xs:=needs.map PV.ints) (V.name hΓ (K.var "needs" rfl)) (map_lim h1000)
  rwa[List.length_map]at this
 have kc:∀ {scope:Scope} {D:Addr} {cells:List (Str×Addr)} {x:Str},isVar (scope.names.lookup x)=true->isVar ((CE scope env D cells).kindOf x)=true:=fun{scope D cells x} hx=>(KOk.ce (scope:=scope) (env:=env) (L:=D) (cells:=cells)).var x hx
 refine Blk.new_graph (C:=C) (G:=gr5 needs.length (ix needs)) T hN hl f73 hd66 (K.glb _ rfl) (K.loc "sorter" (.inl rfl)) (gr5_ok P.inr sz (by omega)) ?_ ?_
 ·rw[grPV5]
  refine EvK.ev (k:=2) (EvK.dcomp (C:=C) (dp:=1) (m:=false) (md:=true) (L:=downto needs.length) (g:=.int) (kf:=.int) (vf:=fun j=>.ints ((ix needs j).take 1)) (ScopeOk.ofK K (by decide)) (V.down T K rfl (by omega) (V.sub (nl rfl) V.int) (V.neg V.int) (V.neg V.int) hN) (.inl rfl) rfl (fun D cells j hj=>V.name rfl (kc rfl)) (fun D cells j hj=>?_) ?_ (by rw[downto_len];omega))
  ·have hr:=mem_downto hj
   have szj:=sz j
   show EvE _ _ _ _ 1 (.list (((ix needs j).take 1).map .int))
   rw[List.map_take]
   refine EvE.of_new (md:=false) (EvN.slice_to (m2:=false) (k:=1) (V.itemN (L:=needs) (g:=.ints) (V.name rfl (kc rfl)) (V.name rfl (kc rfl)) hr.1 hr.2 rfl h1000) V.int (by decide) (by simp;omega)) (fun x hx=>?_)
   exact ints_imm _ x (List.mem_of_mem_take hx)
  ·exact nodup_kint.mpr (downto_nd _)
 obtain⟨pr0,hA0⟩:=gr5_adds P.inr needs.length (Nat.le_refl _)
 rw[List.take_of_length_le (Nat.le_of_eq gr5_len),Int.sub_self]at hA0
 generalize addAll (gr5 needs.length (ix needs)) AS.zero=a0 at hA0
 refine Blk.forT (C:=C) (L:=upto (needs.length:Int)) (g:=.int) (V.rngN (V.range1 T K rfl (nl rfl)) h1000 hN)
  (fun i Γi=>∃a pr,Adds5 needs.length (ix needs) 0 i a pr∧Sle [("needs",some (0,.mat needs)),("hours",some (0,.ints hours)),("sorter",some (1,.sorter a))] Γi)
  (fun j Γi=>("job",some (0,.int j))::Γi) ⟨_,_,hA0,.cons rfl (.cons rfl (.cons rfl .nil))⟩ (fun j Γi ω=>AsgO.name (K.loc "job" (.inl rfl))) (fun i j Γi hj hinv=>?_) fun Γ' hinv=>?_
 ·obtain⟨a,pr,hA,hsle⟩:=hinv
  obtain⟨j0,jn,ej⟩:=upto_getN hj
  rw[←ej]at hA
  obtain⟨pr',hA'⟩:=hA.upw j0 jn fun p hp=>by have:=P.inr j j0 jn p hp;omega
  have hsj:=sz j
  refine Blk.weak (Γ':=("job",some (0,.int j))::[("needs",some (0,.mat needs)),("hours",some (0,.ints hours)),("sorter",some (1,.sorter a))]) ?_ (sle_cons_mono _ _ hsle)
  have hM1:=fnm_add (C:=C.l 3) (T.l 3) hN (by show 3≤3;omega) (.int j) (((ix needs j).drop 1).map Key.int) hA.pre.rdy (small_mono (hA.small sz (by omega)).1 (by simp;omega))
  rw[pvs_ints]at hM1
  have hix:=ix_get j0 jn
  refine Blk.exprX (EvX.methSA (C:=C) (m:=3) (n:=0) (a:=a) T.sk (MethK.of T.m87) (by omega) rfl (ArgsS.of (xs:=.int j::((ix needs j).drop 1).map .int) ?_) hM1) (fun Γ1 pv hR=>?_) hi
  ·refine EvL.cons (Ev.name (n:=0) rfl (K.var "job" rfl)) ?_
   rw[List.map_drop,←List.append_nil (List.drop 1 _)]
   exact EvL.consStar (EvN.ev (EvN.slice_from (m2:=true) (k:=1) (Ev.item (m2:=true) (Ev.name (n:=0) rfl (K.var "needs" rfl)) (Ev.name (n:=0) rfl (K.var "job" rfl)) j0 (by omega) hix) Ev.int (by omega) (by simp;omega))) EvL.nil (by simp;omega)
  obtain⟨rfl,rfl⟩:=hR
  refine Blk.nil ⟨_,pr',?_,.cons rfl (.cons rfl (.cons rfl .nil))⟩
  have e:((i+1:Nat):Int)=j+1:=by omega
  rw[e];exact hA'
 ·obtain⟨a,pr,hA,hsle⟩:=hinv
  rw[upto_len,Int.toNat_natCast]at hA
  obtain⟨p1,p2,p3,p4,rd0,hT0⟩:=hA.start P sz hn
  refine Blk.weak ?_ hsle
  refine Blk.exprX (EvX.methA (C:=C) (m:=3) (n:=0) (a:=a) (xs:=[]) T.sk (MethK.of T.m92) (by omega) rfl EvL.nil (fnm_prepare (C:=C.l 3) (T.l 3) hN (by show 1≤3;omega) p1 p2 p3 p4)) (fun Γ1 pv hR=>?_) hi
  obtain⟨rfl,rfl⟩:=hR
  refine Blk.assign (n:=1) (pv:=.ints (Bl needs.length (En hours bg) ([]++[]))) (V.k1 ?_) (K.loc "ends" (.inr rfl)) ?_
  ·have e:(Bl needs.length (En hours bg) ([]++[])).map PV.int=(List.replicate ((needs.length:Int)).toNat [PV.int (-1)]).flatten:=by
    rw[Int.toNat_natCast]
    unfold Bl upto
    rw[Int.toNat_natCast]
    generalize needs.length=m
    apply List.ext_getElem?
    intro i
    have hf:(List.replicate m [PV.int (-1)]).flatten=List.replicate m (PV.int (-1)):=by
     induction m with
     |zero=>rfl
     |succ m ih=>rw[List.replicate_succ,List.flatten_cons,ih,List.replicate_succ];rfl
    rw[hf]
    by_cases hi:i<m
    ·simp[hi]
    ·simp[hi]
   rw[e]
   exact EvN.mul (m2:=true) (V.evn (V.list (V.consL (V.neg V.int) V.nilL) (by show 1≤lim;omega))) (nl rfl) (by omega) (by omega) (by simp;omega)
  refine Blk.assign (n:=1) (pv:=.ints []) EvK.nil (K.loc "busy" (.inl rfl)) ?_
  refine Blk.assign (n:=0) (pv:=.int 0) (V.k0 V.int) (K.loc "clock" (.inr rfl)) ?_
  refine Blk.forT (C:=C) (L:=upto (needs.length+1:Int)) (g:=.int) (V.rngI (V.range1 T K rfl (V.add (nl rfl) V.int)) (by omega) (by omega))
   (fun i Γi=>∃a pr dn ot rd c,Turn5 needs.length (ix needs) (ix hours) bg a pr dn ot rd c∧min i needs.length≤dn.length∧Sle (g5 needs hours a (Bl needs.length (En hours bg) (dn++ot)) ot c) Γi)
   (fun j Γi=>("turn",some (0,.int j))::Γi) ⟨_,_,_,_,_,_,hT0,by simp,.cons rfl (.cons rfl (.cons rfl (.cons rfl (.cons rfl (.cons rfl .nil)))))⟩ (fun j Γi ω=>AsgO.name (K.loc "turn" (.inl rfl))) (fun i j Γi hj hinv=>?_) fun Γ' hinv=>?_
  ·obtain⟨a,pr,dn,ot,rd,c,hT,hi',hsle⟩:=hinv
   refine Blk.weak (Γ':=g5 needs hours a (Bl needs.length (En hours bg) (dn++ot)) ot c) ?_ (.trans (b:=("turn",some (0,.int j))::g5 needs hours a (Bl needs.length (En hours bg) (dn++ot)) ot c) (.cons rfl (.cons rfl (.cons rfl (.cons rfl (.cons rfl (.cons rfl .nil)))))) (sle_cons_mono _ _ hsle))
   refine giv5 (C:=C) T hN (by omega) K hn P hT ?_
   refine begin5 (C:=C) T hN hi K hn hh sz P hT ?_
   refine end5 (C:=C) T hN (by omega) hi K hn hh P (hT.get P) (fun he Γ' hs=>?_) fun a' dn' ot' rd' c' hT' hlen Γ' hs=>?_
   ·have hg:=hT.get P
    refine⟨_,pr,dn,_,[],c,hg,?_,hs⟩
    rw[he]at hg
    have hall:=hg.all P
    have:=nodup_len_le (upto needs.length) dn (upto_nd _) fun j hj=>hall j (mem_upto.mp hj).1 (mem_upto.mp hj).2
    rw[upto_len]at this
    omega
   ·exact⟨a',pr,dn',ot',rd',c',hT',by omega,hs⟩
  ·obtain⟨a,pr,dn,ot,rd,c,hT,hi',hsle⟩:=hinv
   have hlen:(upto ((needs.length:Int)+1)).length=needs.length+1:=by rw[upto_len];omega
   rw[hlen]at hi'
   have hall:∀j:Int,0≤j->j<needs.length->j∈dn:=fun j h0 h1=>by
    refine Classical.byContradiction fun hd=>?_
    have:=nodup_len_le (j::dn) (upto needs.length) (List.nodup_cons.mpr ⟨hd,nodup_kint.mp hT.run.dnn⟩) fun x hx=>by
     rcases List.mem_cons.mp hx with rfl|hx
     ·exact mem_upto.mpr ⟨h0,h1⟩
     ·exact mem_upto.mpr (hT.dn_rng hx)
    rw[upto_len,List.length_cons]at this
    omega
   have eB:Bl needs.length (En hours bg) (dn++ot)=(upto needs.length).map (En hours bg):=by
    unfold Bl
    refine List.map_congr_left fun j hj=>?_
    have:=mem_upto.mp hj
    rw[if_pos (List.mem_append.mpr (.inl (hall j this.1 this.2)))]
   rw[eB]at hsle
   refine Blk.weak ?_ hsle
   have hne:(upto (needs.length:Int)).map (En hours bg)≠[]:=fun e=>by
    have:=congrArg List.length e
    rw[List.length_map,upto_lenN]at this
    exact absurd this (Nat.ne_of_gt hn0)
   obtain⟨m,hm1,hm2⟩:=exists_min _ hne
   have m0:0≤m:=by
    obtain⟨j,hj,e⟩:=List.mem_map.mp hm1
    have:=mem_upto.mp hj
    have h2:=P.lo0 j this.1 this.2
    have h3:=P.h0 j this.1 this.2
    have e:bg j+ix hours j=m:=e
    omega
   have hMm:M∈(upto (needs.length:Int)).map (En hours bg):=by
    obtain⟨j,h0,h1,e⟩:=hM
    exact List.mem_map.mpr ⟨j,mem_upto.mpr ⟨h0,h1⟩,e⟩
   have hMle:∀x∈(upto (needs.length:Int)).map (En hours bg),x≤M:=fun x hx=>by
    obtain⟨j,hj,rfl⟩:=List.mem_map.mp hx
    have:=mem_upto.mp hj
    exact hle j this.1 this.2
   refine Blk.ret (pv:=.int M) (V.t (Ev.to (x:=if decide (m≥0)then .int M else .int (-1)) (by rw[decide_eq_true m0];rfl) (V.iteB (b:=decide (m≥0)) (V.cmpB (V.minL T K hN rfl (V.name (n:=1) rfl (K.var "ends" rfl)) hm1 hm2) V.int Cop.ge_int) (fun ω=>V.maxL T K hN rfl (V.name (n:=1) rfl (K.var "ends" rfl)) hMm hMle) fun ω=>V.neg V.int))) rfl
end
noncomputable def boolsPV(r:List Bool):PV:=.list (r.map .bool)
noncomputable abbrev PV.bmat(M:List (List Bool)):PV:=.list (M.map boolsPV)
theorem ix_set{α:Type}[Inhabited α]{L:List α}{n:Nat}(hl:L.length=n){i j:Int}(hi:0≤i)(hin:i<n)(hj:0≤j)(hjn:j<n)(v:α):ix (L.set i.toNat v) j=if j=i then v else ix L j:=by
 unfold ix
 obtain⟨a,rfl⟩:=Int.eq_ofNat_of_zero_le hi
 obtain⟨b,rfl⟩:=Int.eq_ofNat_of_zero_le hj
 simp only[Int.toNat_natCast,List.getD,List.getElem?_set]
 by_cases h:a=b
 ·subst h
  have:a<L.length:=by omega
  simp[this]
 ·have h2: ¬(b:Int)=(a:Int):=by omega
  rw[if_neg h,if_neg h2]
theorem ix_map_upto{α:Type}[Inhabited α]{n:Nat}(f:Int->α){j:Int}(h0:0≤j)(h1:j<n):ix ((upto n).map f) j=f j:=by
 unfold ix upto
 obtain⟨m,rfl⟩:=Int.eq_ofNat_of_zero_le h0
 have hm:m<n:=by omega
 simp[List.getD,hm]
theorem ix_getm{α:Type}[Inhabited α]{β:Type}{g:α->β}{L:List α}{n:Nat}(hl:L.length=n){k:Int}(h0:0≤k)(h1:k<n):(L.map g)[k.toNat]?=some (g (ix L k)):=by
 have hlt:k.toNat<L.length:=by omega
 rw[List.getElem?_map,List.getElem?_eq_getElem hlt]
 unfold ix
 simp[List.getD,hlt]
theorem Blk.abs{Γ:SGam}{ss:List Stmt}{P:AFlow->SGam->Prop}(h:∀P':AFlow->SGam->Prop,(∀fl Γ',P fl Γ'->P' fl Γ')->Blk C env Γ ss P'):Blk C env Γ ss P:=h P fun ω ω x=>x
noncomputable def mkM(n:Nat)(f:Int->Int->Bool):List (List Bool):=(upto (n:Int)).map fun x=>(upto (n:Int)).map fun y=>f x y
noncomputable def fw0(D:List (List Int))(a b:Int):Bool:=decide (a∈ix D b)
noncomputable def fwS(f:Int->Int->Bool)(m x y:Int):Bool:=f x y||(f x m&&f m y)
noncomputable def fwN(D:List (List Int)):Nat->Int->Int->Bool
 |0=>fw0 D
 |i+1=>fwS (fwN D i) i
noncomputable def fwP(f:Int->Int->Bool)(m a b x y:Int):Bool:=if x<a∨x=a∧y<b then fwS f m x y else f x y
section
variable{n:Nat}{f g:Int->Int->Bool}{D:List (List Int)}
theorem mk_len:(mkM n f).length=n:=by unfold mkM;rw[List.length_map];exact upto_lenN
theorem mk_row{a:Int}(h0:0≤a)(h1:a<n):ix (mkM n f) a=(upto (n:Int)).map (f a):=ix_map_upto _ h0 h1
theorem mk_rlen{a:Int}(h0:0≤a)(h1:a<n):(ix (mkM n f) a).length=n:=by rw[mk_row h0 h1,List.length_map];exact upto_lenN
theorem mk_at{a b:Int}(h0:0≤a)(h1:a<n)(h2:0≤b)(h3:b<n):ix (ix (mkM n f) a) b=f a b:=by rw[mk_row h0 h1];exact ix_map_upto _ h2 h3
theorem mk_congr(h:∀a b:Int,0≤a->a<n->0≤b->b<n->f a b=g a b):mkM n f=mkM n g:=
 List.map_congr_left fun a ha=>List.map_congr_left fun b hb=>h a b (mem_upto.mp ha).1 (mem_upto.mp ha).2 (mem_upto.mp hb).1 (mem_upto.mp hb).2
theorem map_upto_set{α:Type}{h:Int->α}{b:Int}(h0:0≤b)(h1:b<n)(v:α):((upto (n:Int)).map h).set b.toNat v=(upto (n:Int)).map fun y=>if y=b then v else h y:=by
 obtain⟨c,rfl⟩:=Int.eq_ofNat_of_zero_le h0
 refine List.ext_getElem (by simp) fun i h2 h3=>?_
 rw[List.getElem_set]
 simp only[List.length_set,List.length_map,upto_lenN]at h2
 have e:∀h4:i<(upto (n:Int)).length,(upto (n:Int))[i]=(i:Int):=fun h4=>by unfold upto;simp
 rw[List.getElem_map,List.getElem_map,e]
 by_cases hc:c=i
 ·subst hc;simp
 ·have h5: ¬(i:Int)=(c:Int):=by omega
  rw[if_neg (by simpa using hc),if_neg h5]
theorem mk_set{a b:Int}(h0:0≤a)(h1:a<n)(h2:0≤b)(h3:b<n)(v:Bool):(mkM n f).set a.toNat ((ix (mkM n f) a).set b.toNat v)=mkM n fun x y=>if x=a∧y=b then v else f x y:=by
 rw[mk_row h0 h1,map_upto_set h2 h3]
 unfold mkM
 rw[map_upto_set h0 h1]
 refine List.map_congr_left fun x ω=>?_
 by_cases hx:x=a
 ·subst hx;simp
 ·simp[hx]
theorem fwP_col(f:Int->Int->Bool)(m a b x:Int):fwP f m a b x m=f x m:=by
 unfold fwP fwS;split
 ·cases f x m<;>simp
 ·rfl
theorem fwP_row(f:Int->Int->Bool)(m a b y:Int):fwP f m a b m y=f m y:=by
 unfold fwP fwS;split
 ·cases f m y<;>simp
 ·rfl
theorem fwN_tr:∀ (m:Nat) (p a b:Int),0≤p->p<m->fwN D m a p=true->fwN D m p b=true->fwN D m a b=true
 |0,p,a,b,h0,h1,_,_=>by omega
 |m+1,p,a,b,h0,h1,ha,hb=>by
  have ih:=fwN_tr m
  unfold fwN fwS at ha hb⊢
  simp only[Bool.or_eq_true,Bool.and_eq_true]at ha hb⊢
  by_cases hp:p=m
  ·subst hp
   exact .inr ⟨ha.elim id (·.1),hb.elim id (·.2)⟩
  ·have hp2:p<m:=by omega
   rcases ha with ha|⟨ha1,ha2⟩<;>rcases hb with hb|⟨hb1,hb2⟩
   ·exact .inl (ih p a b h0 hp2 ha hb)
   ·exact .inr ⟨ih p a m h0 hp2 ha hb1,hb2⟩
   ·exact .inr ⟨ha1,ih p m b h0 hp2 ha2 hb⟩
   ·exact .inr ⟨ha1,hb2⟩
theorem fwN_mono:∀ (m:Nat) (a b:Int),fw0 D a b=true->fwN D m a b=true
 |0,a,b,h=>h
 |m+1,a,b,h=>by unfold fwN fwS;rw[fwN_mono m a b h];rfl
theorem fwN_least{R:Int->Int->Prop}(h1:∀a b,a∈ix D b->R a b)(h2:∀a b c,R a b->R b c->R a c):∀ (m:Nat) (a b:Int),fwN D m a b=true->R a b
 |0,a,b,h=>h1 a b (of_decide_eq_true h)
 |m+1,a,b,h=>by
  unfold fwN fwS at h
  simp only[Bool.or_eq_true,Bool.and_eq_true]at h
  rcases h with h|⟨h3,h4⟩
  ·exact fwN_least h1 h2 m a b h
  ·exact h2 _ _ _ (fwN_least h1 h2 m a m h3) (fwN_least h1 h2 m m b h4)
end
noncomputable abbrev d5(D:List (List Int))(n:Nat)(M:List (List Bool)):SGam:=[("leads",some (2,.bmat M)),("jobs",some (0,.rng 0 n 1)),("needs",some (0,.mat D))]
noncomputable def WT1(D:List (List Int))(n m:Nat)(Γ:SGam):Prop:=Sle (d5 D n (mkM n (fwN D m))) Γ
noncomputable def WT2(D:List (List Int))(n m a:Nat)(Γ:SGam):Prop:=Sle (("middle",some (0,.int m))::d5 D n (mkM n (fwP (fwN D m) m a 0))) Γ
noncomputable def WT3(D:List (List Int))(n m a b:Nat)(Γ:SGam):Prop:=Sle (("a",some (0,.int a))::("middle",some (0,.int m))::d5 D n (mkM n (fwP (fwN D m) m a b))) Γ
section
variable{C:Cx}{env:Env}
theorem bools_imm(L:List Bool):∀x∈L.map PV.bool,x.imm=true:=fun x hx=>by
 obtain⟨a,_,rfl⟩:=List.mem_map.mp hx;rfl
theorem leads_fn(T:TopK C)(hN:C.hd=false)(f151:FnAt C.K 151 (s05 9) .none){D:List (List Int)}{n:Nat}(hDl:D.length=n)(hn:n≤9):
  Fn C 151 [.mat D] (.bmat (mkM n (fwN D n))):=by
 refine Fn.ofB (C:=C) f151 ["needs"] rfl (by decide) (fun x hx=>?_) (fun fd vs h1 h2 h3 h4=>?_) fun env K hi=>?_
 ·simp only[List.mem_cons,List.not_mem_nil,or_false]at hx
  rcases hx with rfl
  exact .inr rfl
 ·obtain⟨u,rfl⟩:=len_one h4
  unfold bindArgs;rw[h1,h2];rfl
 have hlim:(10000:Nat)≤lim:=by decide
 have kc:∀ {scope:Scope} {env:Env} {D:Addr} {cells:List (Str×Addr)} {x:Str},isVar (scope.names.lookup x)=true->isVar ((CE scope env D cells).kindOf x)=true:=fun{scope env D cells x} hx=>(KOk.ce (scope:=scope) (env:=env) (L:=D) (cells:=cells)).var x hx
 have h1000:n≤1000:=by omega
 have nl:∀ {Γ:Gam} {md:Bool} {p p' p2:Pos},Γ.lookup ("needs":Str)=some (some (0,.mat D))->Ev C env Γ (.Call (.Name "len" p) [.Name "needs" p2] [] p') md (.int n):=fun{Γ md p p' p2} hΓ=>by
  have:=V.len (C:=C) (env:=env) (Γ:=Γ) (p:=p) (p':=p') (md:=md) (e:=.Name "needs" p2) T K rfl (xs:=D.map PV.ints) (V.name hΓ (K.var "needs" rfl)) (map_lim (by omega))
  rwa[List.length_map,hDl]at this
 refine Blk.assign (n:=0) (pv:=.rng 0 n 1) (EvK.of_ev (V.range1 T K rfl (nl rfl))) (K.loc "jobs" (.inr rfl)) ?_
 refine Blk.assign_lc (C:=C) (dp:=1) (out:=(mkM n (fw0 D)).map boolsPV) (V.map (L:=upto (n:Int)) (g:=.int) (g':=boolsPV) (h:=fun a=>(upto (n:Int)).map fun b=>fw0 D a b) (md:=false) K (V.rngN (V.name (n:=0) rfl (K.var "jobs" rfl)) h1000 hN) (by decide) (.inr rfl) rfl
  (fun D' cells a ha=>EvE.of_new (EvK.n (EvC.k (V.map (L:=upto (n:Int)) (g:=.int) (g':=.bool) (h:=fun b=>fw0 D a b) (md:=false) KOk.ce (V.rngN (V.name rfl (kc rfl)) h1000 hN) (by decide) (.inl rfl) rfl
   (fun D' cells' b hb=>V.e0 (V.inI (V.name rfl (kc rfl)) (V.itemN (L:=D) (g:=.ints) (V.name rfl (kc rfl)) (V.name rfl (kc rfl)) (mem_upto.mp hb).1 (mem_upto.mp hb).2 hDl h1000))) (upto_lim h1000)))) (bools_imm _)) (upto_lim h1000)) (K.loc "leads" (.inl rfl)) ?_
 refine Blk.forT (C:=C) (L:=upto (n:Int)) (g:=.int) (V.rngN (Ev.name (n:=0) rfl (K.var "jobs" rfl)) h1000 hN)
  (WT1 D n) (fun j Γi=>("middle",some (0,.int j))::Γi) (.refl _) (fun j Γi ω=>AsgO.name (K.loc "middle" (.inl rfl))) (fun m im Γi hm hsle=>?_) fun Γ' hsle=>?_
 ·obtain⟨m0,mn,em⟩:=upto_getN hm
  subst em
  refine Blk.abs fun P1 hP1=>?_
  refine Blk.weak (Γ':=("middle",some (0,.int m))::d5 D n (mkM n (fwN D m))) ?_ (sle_cons_mono _ _ hsle)
  have e0:mkM n (fwN D m)=mkM n (fwP (fwN D m) m (0:Nat) 0):=mk_congr fun a b h0 h1 h2 h3=>(if_neg (by omega)).symm
  refine Blk.forT (C:=C) (L:=upto (n:Int)) (g:=.int) (V.rngN (Ev.name (n:=0) rfl (K.var "jobs" rfl)) h1000 hN)
   (WT2 D n m) (fun j Γi=>("a",some (0,.int j))::Γi) (e0▸ .refl _) (fun j Γi ω=>AsgO.name (K.loc "a" (.inl rfl))) (fun a ia Γi ha hsle=>?_) fun Γ' hsle=>?_
  ·obtain⟨a0,an,ea⟩:=upto_getN ha
   subst ea
   refine Blk.abs fun P2 hP2=>?_
   refine Blk.weak (Γ':=("a",some (0,.int a))::("middle",some (0,.int m))::d5 D n (mkM n (fwP (fwN D m) m a 0))) ?_ (sle_cons_mono _ _ hsle)
   refine Blk.forT (C:=C) (L:=upto (n:Int)) (g:=.int) (V.rngN (Ev.name (n:=0) rfl (K.var "jobs" rfl)) h1000 hN)
    (WT3 D n m a) (fun j Γi=>("b",some (0,.int j))::Γi) (.refl _) (fun j Γi ω=>AsgO.name (K.loc "b" (.inl rfl))) (fun b ib Γi hb hsle=>?_) fun Γ' hsle=>?_
   ·obtain⟨b0,bn,eb⟩:=upto_getN hb
    subst eb
    refine Blk.abs fun P3 hP3=>?_
    refine Blk.weak (Γ':=("b",some (0,.int b))::("a",some (0,.int a))::("middle",some (0,.int m))::d5 D n (mkM n (fwP (fwN D m) m a b))) ?_ (sle_cons_mono _ _ hsle)
    have ec:=fwP_col (fwN D m) m a b a
    have er:=fwP_row (fwN D m) m a b b
    have es:∀v,v=fwS (fwN D m) m a b->mkM n (fun x y=>if x=a∧y=b then v else fwP (fwN D m) m a b x y)=mkM n (fwP (fwN D m) m a (b+1:Nat)):=fun v hv=>mk_congr fun x y h0 h1 h2 h3=>by
     unfold fwP
     by_cases hxy:x=a∧y=b
     ·rw[if_pos hxy,if_pos (by omega),hv,hxy.1,hxy.2]
     ·rw[if_neg hxy]
      by_cases h:x<a∨x=a∧y<b
      ·rw[if_pos h,if_pos (by omega)]
      ·rw[if_neg h,if_neg (by omega)]
    have cell:∀ {Γ:Gam} {x y:Str} {p1 p2 p3 p4 p5:Pos} {u v:Int} {nu nv:Nat},Γ.lookup ("leads":Str)=some (some (2,.bmat (mkM n (fwP (fwN D m) m a b))))->Γ.lookup x=some (some (nu,.int u))->Γ.lookup y=some (some (nv,.int v))->isVar (env.kindOf x)=true->isVar (env.kindOf y)=true->(x==("__debug__":Str))=false->(y==("__debug__":Str))=false->0≤u->u<n->0≤v->v<n->Ev C env Γ (.Subscript (.Subscript (.Name "leads" p1) (.Name x p2) p3) (.Name y p4) p5) false (.bool (fwP (fwN D m) m a b u v)):=fun{Γ x y p1 p2 p3 p4 p5 u v nu nv} g1 g2 g3 k1 k2 d1 d2 u0 un v0 vn=>by
     have:=V.itemN (C:=C) (env:=env) (Γ:=Γ) (p:=p5) (L:=ix (mkM n (fwP (fwN D m) m a b)) u) (g:=.bool) (V.itemN (p:=p3) (L:=mkM n (fwP (fwN D m) m a b)) (g:=boolsPV) (V.name (p:=p1) g1 (K.var "leads" rfl)) (V.name (p:=p2) g2 k1 d1) u0 un mk_len h1000) (V.name (p:=p4) g3 k2 d2) v0 vn (mk_rlen u0 un) h1000
     rwa[mk_at u0 un v0 vn]at this
    refine Blk.ite (b:=(fwP (fwN D m) m a b a m&&fwP (fwN D m) m a b m b)) (EvB.and2 (EvB.val (cell rfl rfl rfl (K.var "a" rfl) (K.var "middle" rfl) rfl rfl a0 an m0 mn)) fun ω=>EvB.val (cell rfl rfl rfl (K.var "middle" rfl) (K.var "b" rfl) rfl rfl m0 mn b0 bn)) ?_
    rw[ec,er]
    cases hc:(fwN D m a m&&fwN D m m b)with
    |true=>
     have e1:fwS (fwN D m) m a b=true:=by unfold fwS;rw[hc];cases fwN D m a b<;>rfl
     have e2:=es true e1.symm
     refine Blk.setitem (C:=C) (x:="leads") (n₀:=2) (ys:=(ix (mkM n (fwP (fwN D m) m a b)) a).map .bool) (y:=.bool true) (j:=b) (V.t V.bool) (EvF.item (C:=C) (xs:=(mkM n (fwP (fwN D m) m a b)).map boolsPV) (k:=a) (q:=boolsPV (ix (mkM n (fwP (fwN D m) m a b)) a)) rfl (Ev.name (n:=0) rfl (K.var "a" rfl)) a0 (by omega) (ix_getm mk_len a0 an) ⟨_,rfl⟩) (Ev.name (n:=0) rfl (K.var "b" rfl)) b0 (by rw[List.length_map,mk_rlen a0 an];exact bn) (map_lim (by rw[mk_rlen a0 an];exact h1000)) (Blk.nil (Blk.nil (hP3 .next _ ?_)))
     have e3:PV.bmat (mkM n (fwP (fwN D m) m a (b+1:Nat)))= .list (((mkM n (fwP (fwN D m) m a b)).map boolsPV).set (a:Int).toNat (.list (((ix (mkM n (fwP (fwN D m) m a b)) a).map .bool).set (b:Int).toNat (.bool true)))):=by
      rw[←e2]
      show PV.list _=_
      rw[←mk_set (f:=fwP (fwN D m) m a b) a0 an b0 bn true,List.map_set]
      unfold boolsPV
      rw[List.map_set]
     show Sle (_::_::("leads",some (2,PV.bmat _))::_) _
     rw[e3]
     exact .cons rfl (.cons rfl (.cons rfl (.cons rfl (.cons rfl .nil))))
    |false=>
     have e1:fwS (fwN D m) m a b=fwN D m a b:=by unfold fwS;rw[hc];cases fwN D m a b<;>rfl
     have e2:mkM n (fwP (fwN D m) m a b)=mkM n (fwP (fwN D m) m a (b+1:Nat)):=by
      rw[←es _ e1.symm]
      refine mk_congr fun x y h0 h1 h2 h3=>?_
      by_cases hxy:x=a∧y=b
      ·rw[if_pos hxy,hxy.1,hxy.2]
       exact if_neg (by omega)
      ·rw[if_neg hxy]
     refine Blk.nil (Blk.nil (hP3 .next _ ?_))
     show Sle (_::_::d5 D n (mkM n (fwP (fwN D m) m a (b+1:Nat)))) _
     rw[←e2]
     exact .cons rfl (.cons rfl (.cons rfl (.cons rfl (.cons rfl .nil))))
   ·rw[upto_lenN]at hsle
    have e:mkM n (fwP (fwN D m) m a n)=mkM n (fwP (fwN D m) m (a+1:Nat) 0):=mk_congr fun x y h0 h1 h2 h3=>by
     unfold fwP
     by_cases h:x<a∨x=a∧y<n
     ·rw[if_pos h,if_pos (by omega)]
     ·rw[if_neg h,if_neg (by omega)]
    refine Blk.nil (hP2 .next _ ?_)
    show Sle (_::d5 D n (mkM n (fwP (fwN D m) m (a+1:Nat) 0))) _
    rw[←e]
    exact .trans (.cons rfl (.cons rfl (.cons rfl (.cons rfl .nil)))) hsle
  ·rw[upto_lenN]at hsle
   have e:mkM n (fwP (fwN D m) m n 0)=mkM n (fwN D (m+1)):=mk_congr fun x y h0 h1 h2 h3=>if_pos (by omega)
   refine Blk.nil (hP1 .next _ ?_)
   show Sle (d5 D n (mkM n (fwN D (m+1)))) _
   rw[←e]
   exact .trans (.cons rfl (.cons rfl (.cons rfl .nil))) hsle
 ·rw[upto_lenN]at hsle
  refine Blk.weak ?_ hsle
  exact Blk.freeze (x:="leads") rfl (Blk.ret (Ev.name (n:=0) rfl (K.var "leads" rfl)) rfl)
end
end Ts
namespace Ts
noncomputable def sm(L:List Int)(f:Int->Int):Int:=(L.map f).sum
theorem sm_cons(j:Int)(L:List Int)(f:Int->Int):sm (j::L) f=f j+sm L f:=by unfold sm;rw[List.map_cons,List.sum_cons]
theorem sm_app(L M:List Int)(f:Int->Int):sm (L++M) f=sm L f+sm M f:=by unfold sm;rw[List.map_append,List.sum_append]
theorem sm_congr{L:List Int}{f g:Int->Int}(h:∀j∈L,f j=g j):sm L f=sm L g:=by unfold sm;rw[List.map_congr_left h]
theorem sm_le{f g:Int->Int}:∀ {L:List Int},(∀j∈L,f j≤g j)->sm L f≤sm L g
 |[],_=>Int.le_refl _
 |j::L,h=>by
  rw[sm_cons,sm_cons]
  exact Int.add_le_add (h j List.mem_cons_self) (sm_le fun k hk=>h k (List.mem_cons_of_mem _ hk))
theorem sm_zero:∀L:List Int,sm L (fun ω=>0)=0
 |[]=>rfl
 |j::L=>by rw[sm_cons,sm_zero L];rfl
theorem sm_add(f g:Int->Int):∀L:List Int,sm L (fun j=>f j+g j)=sm L f+sm L g
 |[]=>rfl
 |j::L=>by rw[sm_cons,sm_cons,sm_cons,sm_add f g L];omega
theorem sm_sub(f g:Int->Int):∀L:List Int,sm L (fun j=>f j - g j)=sm L f - sm L g
 |[]=>rfl
 |j::L=>by rw[sm_cons,sm_cons,sm_cons,sm_sub f g L];omega
theorem sm_nn{L:List Int}{f:Int->Int}(h:∀j∈L,0≤f j):0≤sm L f:=by
 have:=sm_le (L:=L) (f:=fun ω=>0) h
 rwa[sm_zero]at this
theorem sm_filter(q:Int->Bool)(f:Int->Int):∀L:List Int,sm (L.filter q) f=sm L fun j=>if q j then f j else 0
 |[]=>rfl
 |j::L=>by
  rw[List.filter_cons,sm_cons]
  cases hq:q j with
  |true=>rw[if_pos rfl,sm_cons,sm_filter q f L];rfl
  |false=>
   have:sm (L.filter q) f=sm L fun j=>if q j then f j else 0:=sm_filter q f L
   simp[this]
noncomputable def con5(lo hi:Int)(p q:Bool):Int:=cond p (cond q 0 hi) (cond q (-lo) 0)
noncomputable def meet(U W:Int->Bool):Int->Bool:=fun v=>U v&&W v
noncomputable def join(U W:Int->Bool):Int->Bool:=fun v=>U v||W v
structure Latt(Cl:(Int->Bool)->Prop):Prop where
 meet:∀U W,Cl U->Cl W->Cl (meet U W)
 join:∀U W,Cl U->Cl W->Cl (join U W)
noncomputable def Sub5(G:(Int->Bool)->Int):Prop:=∀U W,G (meet U W)+G (join U W)≤G U+G W
theorem con_b{lo hi:Int}(h:lo≤hi)(a b c d:Bool):con5 lo hi (a&&c) (b&&d)+con5 lo hi (a||c) (b||d)≤con5 lo hi a b+con5 lo hi c d:=by
 have k1:(0:Int)+0≤hi+ -lo:=by omega
 have k2:(0:Int)+0≤-lo+hi:=by omega
 cases a<;>cases b<;>cases c<;>cases d<;>first|exact Int.le_refl _|exact Int.le_of_eq (Int.add_comm _ _)|exact k1|exact k2
theorem con_l{lo hi g:Int}(a b:Bool)(h1: ¬0≤g+con5 lo (hi - 1) a b)(a1:0≤g+con5 lo hi a b):a=true∧b=false:=by
 cases a<;>cases b<;>first|exact⟨rfl,rfl⟩|exact absurd a1 h1
theorem con_r{lo hi g:Int}(a b:Bool)(h1: ¬0≤g+con5 (lo+1) hi a b)(a1:0≤g+con5 lo hi a b):a=false∧b=true:=by
 cases a<;>cases b<;>first|exact⟨rfl,rfl⟩|exact absurd a1 h1
theorem con_x0{lo hi g1 g2 g3 g4:Int}(h:lo+1≤hi)(h1: ¬0≤g1+(hi - 1))(h2: ¬0≤g2+ -(lo+1))(a3:0≤g3+0)(a4:0≤g4+0)(a5:g3+g4≤g1+g2):False:=by omega
theorem con_x{lo hi g1 g2 g3 g4:Int}(h:lo+1≤hi)(a b c d:Bool)(h1: ¬0≤g1+con5 lo (hi - 1) a b)(h2: ¬0≤g2+con5 (lo+1) hi c d)(a1:0≤g1+con5 lo hi a b)(a2:0≤g2+con5 lo hi c d)
  (a3:0≤g3+con5 lo hi (a&&c) (b&&d)) (a4:0≤g4+con5 lo hi (a||c) (b||d)) (a5:g3+g4≤g1+g2):False:=by
 obtain⟨rfl,rfl⟩:=con_l a b h1 a1
 obtain⟨rfl,rfl⟩:=con_r c d h2 a2
 exact con_x0 h h1 h2 a3 a4 a5
theorem con_sub{lo hi:Int}(h:lo≤hi)(u v:Int):Sub5 fun U=>con5 lo hi (U u) (U v):=fun U W=>con_b h (U u) (U v) (W u) (W v)
theorem Sub5.add{G H:(Int->Bool)->Int}(hG:Sub5 G)(hH:Sub5 H):Sub5 fun U=>G U+H U:=fun U W=>by
 have:=hG U W
 have:=hH U W
 show G _+H _+(G _+H _)≤G _+H _+(G _+H _)
 omega
theorem one5{Cl:(Int->Bool)->Prop}(hC:Latt Cl){G:(Int->Bool)->Int}(hG:Sub5 G)(u v:Int):∀ (m:Nat) (lo hi:Int),(hi - lo).toNat=m->lo≤hi->(∀U,Cl U->0≤G U+con5 lo hi (U u) (U v))->
  ∃t,lo≤t∧t≤hi∧∀U,Cl U->0≤G U+con5 t t (U u) (U v)
 |0,lo,hi,hm,hle,h=>by
  have e:hi=lo:=by omega
  subst e
  exact⟨hi,Int.le_refl _,Int.le_refl _,h⟩
 |m+1,lo,hi,hm,hle,h=>by
  by_cases h1:∀U,Cl U->0≤G U+con5 lo (hi - 1) (U u) (U v)
  ·obtain⟨t,a,b,c⟩:=one5 hC hG u v m lo (hi - 1) (by omega) (by omega) h1
   exact⟨t,a,by omega,c⟩
  ·by_cases h2:∀U,Cl U->0≤G U+con5 (lo+1) hi (U u) (U v)
   ·obtain⟨t,a,b,c⟩:=one5 hC hG u v m (lo+1) hi (by omega) (by omega) h2
    exact⟨t,by omega,b,c⟩
   ·exfalso
    obtain⟨U,hU⟩:=Classical.not_forall.mp h1
    obtain⟨W,hW⟩:=Classical.not_forall.mp h2
    obtain⟨cU,hU⟩:=Classical.not_imp.mp hU
    obtain⟨cW,hW⟩:=Classical.not_imp.mp hW
    have a1:=h U cU
    have a2:=h W cW
    have a3:=h _ (hC.meet U W cU cW)
    have a4:=h _ (hC.join U W cU cW)
    have a5:=hG U W
    exact con_x (by omega) (U u) (U v) (W u) (W v) hU hW a1 a2 a3 a4 a5
theorem cons_sub(u v:Int->Int)(lo hi:Int->Int):∀L:List Int,(∀j∈L,lo j≤hi j)->Sub5 fun U=>sm L fun j=>con5 (lo j) (hi j) (U (u j)) (U (v j))
 |[],_=>fun U W=>Int.le_refl _
 |k::L,hk=>fun U W=>by
  have:=Sub5.add (con_sub (hk k List.mem_cons_self) (u k) (v k)) (cons_sub u v lo hi L fun j hj=>hk j (List.mem_cons_of_mem _ hj)) U W
  simp only[sm_cons]
  exact this
theorem hoff{Cl:(Int->Bool)->Prop}(hC:Latt Cl)(u v:Int->Int)(lo hi:Int->Int):∀ (L:List Int),L.Nodup->(∀j∈L,lo j≤hi j)->∀G:(Int->Bool)->Int,Sub5 G->(∀U,Cl U->0≤G U+sm L fun j=>con5 (lo j) (hi j) (U (u j)) (U (v j)))->
  ∃x:Int->Int,(∀j∈L,lo j≤x j∧x j≤hi j)∧∀U,Cl U->0≤G U+sm L fun j=>con5 (x j) (x j) (U (u j)) (U (v j))
 |[],_,_,G,hG,h=>⟨fun ω=>0,(fun j hj=>nomatch hj),h⟩
 |i::L,hnd,hle,G,hG,h=>by
  obtain⟨hi1,hnd⟩:=List.nodup_cons.mp hnd
  have hle':∀j∈L,lo j≤hi j:=fun j hj=>hle j (List.mem_cons_of_mem _ hj)
  obtain⟨t,t1,t2,t3⟩:=one5 hC (Sub5.add hG (cons_sub u v lo hi L hle')) (u i) (v i) _ (lo i) (hi i) rfl (hle i List.mem_cons_self) fun U hU=>by
   have:=h U hU
   rw[sm_cons]at this
   omega
  obtain⟨x,x1,x2⟩:=hoff hC u v lo hi L hnd hle' (fun U=>G U+con5 t t (U (u i)) (U (v i))) (Sub5.add hG (con_sub (Int.le_refl t) (u i) (v i))) fun U hU=>by
   have:=t3 U hU
   show 0≤G U+con5 t t (U (u i)) (U (v i))+_
   omega
  have ne:∀j∈L,j≠i:=fun j hj e=>hi1 (e▸hj)
  refine⟨fun j=>if j=i then t else x j,fun j hj=>?_,fun U hU=>?_⟩
  ·rcases List.mem_cons.mp hj with rfl|hj
   ·simp only[if_true];exact⟨t1,t2⟩
   ·simp only[if_neg (ne j hj)];exact x1 j hj
  ·have:=x2 U hU
   rw[sm_cons]
   have e:(sm L fun j=>con5 (if j=i then t else x j) (if j=i then t else x j) (U (u j)) (U (v j)))=sm L fun j=>con5 (x j) (x j) (U (u j)) (U (v j)):=sm_congr fun j hj=>by simp only[if_neg (ne j hj)]
   rw[e]
   simp only[if_true]
   omega
theorem least_by{α:Type}(P:α->Prop)(c:α->Int)(h0:∀a,P a->0≤c a)(h:∃a,P a):∃a,P a∧∀b,P b->c a≤c b:=by
 have:∀ (m:Nat) (a:α),(c a).toNat=m->P a->∃a,P a∧∀b,P b->c a≤c b:=by
  intro m
  induction m using Nat.strongRecOn with
  |_ m ih=>
   intro a hm ha
   by_cases hall:∀b,P b->c a≤c b
   ·exact⟨a,ha,hall⟩
   ·obtain⟨b,hb⟩:=Classical.not_forall.mp hall
    obtain⟨hb1,hb2⟩:=Classical.not_imp.mp hb
    have:=h0 b hb1
    exact ih (c b).toNat (by omega) b rfl hb1
 obtain⟨a,ha⟩:=h
 exact this _ a rfl ha
noncomputable def grp5(t:Int->Int->Bool):Nat->List (List Int)
 |0=>[[]]
 |i+1=>grp5 t i++((grp5 t i).filter fun g=>(g.filter fun a=>t a i).isEmpty).map fun g=>g++[(i:Int)]
structure Lead5(n:Nat)(need:Int->List Int)(t:Int->Int->Bool):Prop where
 base:∀a b:Int,0≤b->b<n->a∈need b->t a b=true
 tr:∀a p b:Int,0≤p->p<n->t a p=true->t p b=true->t a b=true
 up:∀a b:Int,t a b=true->a<b
 least:∀R:Int->Int->Prop,(∀a b:Int,0≤b->b<n->a∈need b->R a b)->(∀a b c,R a b->R b c->R a c)->∀a b,t a b=true->R a b
section
variable{n:Nat}{need:Int->List Int}{t:Int->Int->Bool}
theorem grp_in:∀ {m:Nat} {g:List Int},g∈grp5 t m->∀j∈g,0≤j∧j<m
 |0,g,hg,j,hj=>by rw[List.mem_singleton.mp hg]at hj;cases hj
 |m+1,g,hg,j,hj=>by
  rcases List.mem_append.mp hg with hg|hg
  ·have:=grp_in hg j hj;omega
  ·obtain⟨g',hg',rfl⟩:=List.mem_map.mp hg
   rcases List.mem_append.mp hj with hj|hj
   ·have:=grp_in (List.mem_filter.mp hg').1 j hj;omega
   ·have:=List.mem_singleton.mp hj;omega
theorem grp_free(L:Lead5 n need t):∀ {m:Nat} {g:List Int},g∈grp5 t m->∀a∈g,∀b∈g,t a b=false
 |0,g,hg,a,ha=>by rw[List.mem_singleton.mp hg]at ha;cases ha
 |m+1,g,hg,a,ha=>by
  intro b hb
  rcases List.mem_append.mp hg with hg|hg
  ·exact grp_free L hg a ha b hb
  ·obtain⟨g',hg',rfl⟩:=List.mem_map.mp hg
   obtain⟨h1,h2⟩:=List.mem_filter.mp hg'
   have hup: ¬b<a∨b<a:=by omega
   cases hq:t a b with
   |false=>rfl
   |true=>
    exfalso
    have hab:=L.up a b hq
    rcases List.mem_append.mp ha with ha|ha
    ·rcases List.mem_append.mp hb with hb|hb
     ·rw[grp_free L h1 a ha b hb]at hq;cases hq
     ·rw[List.mem_singleton.mp hb]at hq
      have:a∈g'.filter fun a=>t a m:=List.mem_filter.mpr ⟨ha,hq⟩
      rw[List.isEmpty_iff.mp h2]at this
      cases this
    ·have e:=List.mem_singleton.mp ha
     rcases List.mem_append.mp hb with hb|hb
     ·have:=grp_in h1 b hb;omega
     ·have:=List.mem_singleton.mp hb;omega
theorem upto_succ(m:Nat):upto ((m+1:Nat):Int)=upto (m:Int)++[(m:Int)]:=by
 unfold upto
 rw[Int.toNat_natCast,Int.toNat_natCast,List.range_succ,List.map_append];rfl
theorem grp_mem{q:Int->Bool}(hq:∀a b,q a=true->q b=true->t a b=false):∀m:Nat,(upto (m:Int)).filter q∈grp5 t m
 |0=>List.mem_singleton.mpr rfl
 |m+1=>by
  rw[upto_succ,List.filter_append]
  have ih:=grp_mem hq m
  cases h:q (m:Int)with
  |false=>
   have e:[(m:Int)].filter q=[]:=by simp[h]
   rw[e,List.append_nil]
   exact List.mem_append.mpr (.inl ih)
  |true=>
   have e:[(m:Int)].filter q=[(m:Int)]:=by simp[h]
   rw[e]
   refine List.mem_append.mpr (.inr (List.mem_map.mpr ⟨_,List.mem_filter.mpr ⟨ih,?_⟩,rfl⟩))
   rw[List.isEmpty_iff,List.filter_eq_nil_iff]
   intro a ha
   rw[hq a m (List.mem_filter.mp ha).2 h]
   exact Bool.false_ne_true
theorem grp_sum{x:Int->Int}(hx:∀j:Int,0≤j->j<n->0≤x j):∀ {m:Nat},m≤n->∀ {g:List Int},g∈grp5 t m->sm g x≤sm (upto (m:Int)) fun j=>if j∈g then x j else 0
 |0,_,g,hg=>by rw[List.mem_singleton.mp hg];exact Int.le_refl _
 |m+1,hm,g,hg=>by
  rw[upto_succ,sm_app]
  have e:∀f:Int->Int,sm [(m:Int)] f=f m:=fun f=>by rw[sm_cons];exact Int.add_zero _
  rw[e]
  have x0:=hx m (by omega) (by omega)
  rcases List.mem_append.mp hg with hg|hg
  ·have ih:=grp_sum hx (by omega) hg
   split<;>omega
  ·obtain⟨g',hg',rfl⟩:=List.mem_map.mp hg
   have hg':=(List.mem_filter.mp hg').1
   have ih:=grp_sum hx (by omega) hg'
   rw[if_pos (List.mem_append.mpr (.inr (List.mem_singleton.mpr rfl))),sm_app,e]
   have:(sm (upto (m:Int)) fun j=>if j∈g' then x j else 0)≤sm (upto (m:Int)) fun j=>if j∈g'++[(m:Int)]then x j else 0:=sm_le fun j hj=>by
    have hr:=mem_upto.mp hj
    by_cases h1:j∈g'
    ·rw[if_pos h1,if_pos (List.mem_append.mpr (.inl h1))];exact Int.le_refl _
    ·rw[if_neg h1]
     split
     ·exact hx j hr.1 (by omega)
     ·exact Int.le_refl _
   omega
end
end Ts
namespace Ts
theorem min_in{a b k:Int}(h1:a≤k)(h2:k<b):min b (k+1) - min a (k+1)=min b k - min a k+1:=by
 rw[Int.min_eq_right h2,Int.min_eq_left (Int.le_trans h1 (Int.le_add_one (Int.le_refl k))),Int.min_eq_right (Int.le_of_lt h2),Int.min_eq_left h1,Int.sub_eq_add_neg,Int.sub_eq_add_neg,Int.add_right_comm]
theorem min_hi{a b k:Int}(h:b≤k)(h1:a≤b):min b k - min a k=b - a:=by rw[Int.min_eq_left h,Int.min_eq_left (Int.le_trans h1 h)]
theorem min_lo{a b k:Int}(h:k≤a)(h1:a≤b):min b k - min a k=0:=by rw[Int.min_eq_right h,Int.min_eq_right (Int.le_trans h h1),Int.sub_self]
theorem min_out{a b k:Int}(h:a≤b)(h1: ¬(a≤k∧k<b)):min b (k+1) - min a (k+1)=min b k - min a k:=by
 by_cases ha:a≤k
 ·have hb:b≤k:=Int.not_lt.mp fun hb=>h1 ⟨ha,hb⟩
  rw[min_hi hb h,min_hi (Int.le_add_one hb) h]
 ·have ha:k+1≤a:=Int.not_le.mp ha
  rw[min_lo ha h,min_lo (Int.le_trans (Int.le_add_one (Int.le_refl k)) ha) h]
noncomputable def lev5(n:Nat)(x s e:Int->Int)(k:Int):Int:=sm (upto (n:Int)) fun j=>if decide (s j≤k∧k<e j)then x j else 0
noncomputable def cum5(n:Nat)(x s e:Int->Int)(k:Int):Int:=sm (upto (n:Int)) fun j=>x j*(min (e j) k - min (s j) k)
section
variable{n:Nat}{x s e:Int->Int}{k lo H:Int}
set_option tactic.hygienic true in
theorem cum_up(h:∀j∈upto (n:Int),s j≤e j):cum5 n x s e (k+1)=cum5 n x s e k+lev5 n x s e k:=by
 unfold cum5 lev5
 rw[←sm_add]
 refine sm_congr fun j hj=>?_
 split
 ·rename_i h1
  have h1:=of_decide_eq_true h1
  rw[min_in h1.1 h1.2,Int.mul_add,Int.mul_one]
 ·rename_i h1
  rw[min_out (h j hj) (fun h2=>h1 (decide_eq_true h2)),Int.add_zero]
theorem cum_lo(h:∀j∈upto (n:Int),s j≤e j)(h1:∀j∈upto (n:Int),k≤s j):cum5 n x s e k=0:=
 (sm_congr (g:=fun ω=>0) fun j hj=>by rw[min_lo (h1 j hj) (h j hj),Int.mul_zero]).trans (sm_zero _)
theorem cum_hi(h:∀j∈upto (n:Int),s j≤e j)(h1:∀j∈upto (n:Int),e j≤k):cum5 n x s e k=sm (upto (n:Int)) fun j=>x j*(e j - s j):=
 sm_congr fun j hj=>by rw[min_hi (h1 j hj) (h j hj)]
theorem cum_s(m:Nat):lo+((m+1:Nat):Int)=lo+m+1:=by omega
theorem cum_m(m:Nat):((m+1:Nat):Int)*H=m*H+H:=by rw[Int.natCast_add,Int.add_mul];exact congrArg _ (Int.one_mul H)
theorem cum_le(h:∀j∈upto (n:Int),s j≤e j)(hH:∀k,lev5 n x s e k≤H):∀m:Nat,cum5 n x s e (lo+m)≤cum5 n x s e lo+m*H
 |0=>by simp
 |m+1=>by
  rw[cum_s,cum_up h,cum_m,←Int.add_assoc]
  exact Int.add_le_add (cum_le h hH m) (hH _)
theorem cum_ge(h:∀j∈upto (n:Int),s j≤e j):∀m:Nat,(∀i:Nat,i<m->H≤lev5 n x s e (lo+i))->cum5 n x s e lo+m*H≤cum5 n x s e (lo+m)
 |0,_=>by simp
 |m+1,hH=>by
  rw[cum_s,cum_up h,cum_m,←Int.add_assoc]
  exact Int.add_le_add (cum_ge h m fun i hi=>hH i (Nat.lt_succ_of_lt hi)) (hH m (Nat.lt_succ_self m))
end
section
variable{n:Nat}{need:Int->List Int}{t:Int->Int->Bool}
theorem weak_fin{T H D W C P:Int}(h1:D≤0+T*H)(h2:D=W - C)(h3:C≤P):W - T*H≤P:=by omega
theorem weak5(L:Lead5 n need t){p h c x bg:Int->Int}{T H:Int}(hT:0≤T)(hx:∀j:Int,0≤j->j<n->0≤x j∧x j≤p j)(hc:∀j:Int,0≤j->j<n->0≤c j∧c j≤h j)
  (inr:∀j:Int,0≤j->j<n->∀a∈need j,0≤a∧a<j) (lo0:∀j:Int,0≤j->j<n->0≤bg j) (lop:∀j:Int,0≤j->j<n->∀a∈need j,bg a+(h a - c a)≤bg j) (hi:∀j:Int,0≤j->j<n->bg j+(h j - c j)≤T)
  (hH:∀g∈grp5 t n,sm g x≤H):sm (upto (n:Int)) (fun j=>x j*h j) - T*H≤sm (upto (n:Int)) fun j=>p j*c j:=by
 have rng:∀j∈upto (n:Int),0≤j∧j<n:=fun j hj=>mem_upto.mp hj
 have hse:∀j:Int,0≤j->j<n->bg j≤bg j+(h j - c j):=fun j h0 h1=>Int.le_add_of_nonneg_right (Int.sub_nonneg.mpr (hc j h0 h1).2)
 have hR:∀a b:Int,t a b=true->(0≤b∧b<n)∧bg a+(h a - c a)≤bg b:=
  L.least (fun a b=>(0≤b∧b<n)∧bg a+(h a - c a)≤bg b) (fun a b h0 h1 hm=>⟨⟨h0,h1⟩,lop b h0 h1 a hm⟩) fun a b d h1 h2=>⟨h2.1,Int.le_trans h1.2 (Int.le_trans (hse b h1.1.1 h1.1.2) h2.2)⟩
 have hlev:∀k,lev5 n x bg (fun j=>bg j+(h j - c j)) k≤H:=fun k=>by
  unfold lev5
  rw[←sm_filter (fun j=>decide (bg j≤k∧k<bg j+(h j - c j)))]
  refine hH _ (grp_mem (fun a b ha hb=>?_) n)
  cases hq:t a b with
  |false=>rfl
  |true=>exact absurd (Int.lt_of_lt_of_le (of_decide_eq_true ha).2 (hR a b hq).2) (Int.not_lt.mpr (of_decide_eq_true hb).1)
 have hs':∀j∈upto (n:Int),bg j≤bg j+(h j - c j):=fun j hj=>hse j (rng j hj).1 (rng j hj).2
 have k1:=cum_le (lo:=0) hs' hlev T.toNat
 rw[cum_lo hs' (fun j hj=>lo0 j (rng j hj).1 (rng j hj).2),Int.zero_add,Int.toNat_of_nonneg hT,cum_hi hs' (fun j hj=>hi j (rng j hj).1 (rng j hj).2)]at k1
 refine weak_fin k1 ?_ (sm_le fun j hj=>Int.mul_le_mul_of_nonneg_right (hx j (rng j hj).1 (rng j hj).2).2 (hc j (rng j hj).1 (rng j hj).2).1)
 rw[←sm_sub]
 exact sm_congr fun j ω=>by rw[←Int.mul_sub,Int.add_comm,Int.add_sub_cancel]
end
noncomputable def Ord5(n:Nat)(need:Int->List Int)(u v:Int):Prop:=
 ∃j:Int,0≤j∧j<n∧((u=2*j+2∧v=2*j+3)∨(u=0∧v=2*j+2)∨(u=2*j+3∧v=1)∨∃a∈need j,u=2*a+3∧v=2*j+2)
structure Feas5(n:Nat)(need:Int->List Int)(T:Int)(π:Int->Int):Prop where
 ord:∀u v,Ord5 n need u v->π u≤π v
 span:π 1≤π 0+T
noncomputable def len5(π:Int->Int)(j:Int):Int:=π (2*j+3) - π (2*j+2)
noncomputable def cost5(n:Nat)(p h π:Int->Int):Int:=sm (upto (n:Int)) fun j=>p j*max 0 (h j - len5 π j)
noncomputable def lo5(p h π:Int->Int)(j:Int):Int:=if len5 π j<h j then p j else 0
noncomputable def hi5(p h π:Int->Int)(j:Int):Int:=if len5 π j≤h j then p j else 0
noncomputable def put5(π:Int->Int)(U:Int->Bool)(v:Int):Int:=π v+cond (U v) 1 0
noncomputable def Cl5(n:Nat)(need:Int->List Int)(π:Int->Int)(U:Int->Bool):Prop:=∀u v,Ord5 n need u v->π u=π v->U u=true->U v=true
theorem cl_latt(n:Nat)(need:Int->List Int)(π:Int->Int):Latt (Cl5 n need π):=
 ⟨fun U W hU hW u v h1 h2 h3=>Bool.and_eq_true_iff.mpr ⟨hU u v h1 h2 (Bool.and_eq_true_iff.mp h3).1,hW u v h1 h2 (Bool.and_eq_true_iff.mp h3).2⟩,
  fun U W hU hW u v h1 h2 h3=>Bool.or_eq_true_iff.mpr ((Bool.or_eq_true_iff.mp h3).imp (hU u v h1 h2) (hW u v h1 h2))⟩
set_option tactic.hygienic true in
theorem max_up{h d:Int}:max 0 (h - (d+0 - 1))=max 0 (h - d)+if d≤h then 1 else 0:=by
 split
 ·rename_i hd
  rw[Int.max_eq_right (Int.sub_nonneg.mpr hd),Int.max_eq_right (by omega)]
  omega
 ·rename_i hd
  rw[Int.max_eq_left (Int.sub_nonpos_of_le (Int.le_of_lt (Int.not_le.mp hd))),Int.max_eq_left (by omega)];rfl
set_option tactic.hygienic true in
theorem max_dn{h d:Int}:max 0 (h - (d+1 - 0))=max 0 (h - d)+if d<h then -1 else 0:=by
 split
 ·rename_i hd
  rw[Int.max_eq_right (Int.sub_nonneg.mpr (Int.le_of_lt hd)),Int.max_eq_right (by omega)]
  omega
 ·rename_i hd
  rw[Int.max_eq_left (Int.sub_nonpos_of_le (Int.not_lt.mp hd)),Int.max_eq_left (by omega)];rfl
theorem con_cost{p h d:Int}(a b:Bool):p*max 0 (h - (d+cond b 1 0 - cond a 1 0))=p*max 0 (h - d)+con5 (if d<h then p else 0) (if d≤h then p else 0) a b:=by
 have e0:d+0 - 0=d:=by omega
 have e1:d+1 - 1=d:=by omega
 cases a<;>cases b
 ·show p*max 0 (h - (d+0 - 0))=p*max 0 (h - d)+0
  rw[e0,Int.add_zero]
 ·show p*max 0 (h - (d+1 - 0))=p*max 0 (h - d)+ -(if d<h then p else 0)
  rw[max_dn,Int.mul_add]
  split
  ·rw[Int.mul_neg,Int.mul_one]
  ·rw[Int.mul_zero];rfl
 ·show p*max 0 (h - (d+0 - 1))=p*max 0 (h - d)+if d≤h then p else 0
  rw[max_up,Int.mul_add]
  split
  ·rw[Int.mul_one]
  ·rw[Int.mul_zero]
 ·show p*max 0 (h - (d+1 - 1))=p*max 0 (h - d)+0
  rw[e1,Int.add_zero]
section
variable{n:Nat}{need:Int->List Int}{t:Int->Int->Bool}{p h π x:Int->Int}{T F:Int}{U:Int->Bool}
theorem put_le{a b:Int}(q r:Bool)(h:a≤b)(hq:a=b->q=true->r=true):a+cond q 1 0≤b+cond r 1 0:=by
 cases q<;>cases r
 ·show a+0≤b+0;omega
 ·show a+0≤b+1;omega
 ·have hne:a≠b:=fun e=>nomatch hq e rfl
  show a+1≤b+0
  omega
 ·show a+1≤b+1;omega
theorem Feas5.put(hπ:Feas5 n need T π)(hU:Cl5 n need π U)(hz:π 1=π 0+T->U 1=true->U 0=true):Feas5 n need T (put5 π U):=
 ⟨fun u v huv=>put_le _ _ (hπ.ord u v huv) (hU u v huv),by
  have:=put_le _ _ hπ.span hz
  unfold put5
  rw[Int.add_right_comm]
  exact this⟩
theorem cost_put:cost5 n p h (put5 π U)=cost5 n p h π+sm (upto (n:Int)) fun j=>con5 (lo5 p h π j) (hi5 p h π j) (U (2*j+2)) (U (2*j+3)):=by
 unfold cost5
 rw[←sm_add]
 refine sm_congr fun j ω=>?_
 show _=p j*max 0 (h j - len5 π j)+con5 (if len5 π j<h j then p j else 0) (if len5 π j≤h j then p j else 0) _ _
 rw[←con_cost]
 have e:len5 (put5 π U) j=len5 π j+cond (U (2*j+3)) 1 0 - cond (U (2*j+2)) 1 0:=by
  unfold len5 put5
  generalize cond (U (2*j+3)) 1 0=a
  generalize cond (U (2*j+2)) 1 0=b
  omega
 rw[e]
theorem con_ge{lo hi p:Int}(q r:Bool)(h1:0≤hi)(h2:lo≤p)(h3:0≤p):0≤p+con5 lo hi q r:=by
 cases q<;>cases r
 ·exact Int.add_nonneg h3 (Int.le_refl 0)
 ·show 0≤p+ -lo;omega
 ·exact Int.add_nonneg h3 h1
 ·exact Int.add_nonneg h3 (Int.le_refl 0)
theorem con_nn{hi:Int}(q r:Bool)(h1:0≤hi):0≤con5 0 hi q r:=by
 cases q<;>cases r
 ·exact Int.le_refl 0
 ·exact Int.le_refl 0
 ·exact h1
 ·exact Int.le_refl 0
theorem lohi5(hp:∀j:Int,0≤j->j<n->0≤p j)(j:Int)(hj:j∈upto (n:Int)):(0≤lo5 p h π j∧lo5 p h π j≤p j)∧lo5 p h π j≤hi5 p h π j∧hi5 p h π j≤p j:=by
 have hp:=hp j (mem_upto.mp hj).1 (mem_upto.mp hj).2
 unfold lo5 hi5
 clear hj
 split<;>split<;>omega
theorem hoffm5(hπ:Feas5 n need T π)(hmin:∀π',Feas5 n need T π'->cost5 n p h π≤cost5 n p h π')(hp:∀j:Int,0≤j->j<n->0≤p j){Z:Int}(hZ:0≤Z)(hZ1:π 1=π 0+T->Z=sm (upto (n:Int)) p)(hU:Cl5 n need π U):
  0≤con5 0 Z (U 1) (U 0)+sm (upto (n:Int)) fun j=>con5 (lo5 p h π j) (hi5 p h π j) (U (2*j+2)) (U (2*j+3)):=by
 by_cases hz:π 1=π 0+T->U 1=true->U 0=true
 ·have hm:=hmin _ (hπ.put hU hz)
  rw[cost_put]at hm
  exact Int.add_nonneg (con_nn (U 1) (U 0) hZ) (Int.le_of_add_le_add_left (a:=cost5 n p h π) (by rw[Int.add_zero];exact hm))
 ·obtain⟨h1,h2⟩:=Classical.not_imp.mp hz
  obtain⟨h2,h3⟩:=Classical.not_imp.mp h2
  have h3:U 0=false:=by simpa using h3
  rw[h2,h3]
  show 0≤Z+_
  rw[hZ1 h1,←sm_add p]
  refine sm_nn fun j hj=>?_
  have hl:=lohi5 (h:=h) (π:=π) hp j hj
  exact con_ge _ _ (Int.le_trans hl.1.1 hl.2.1) hl.1.2 (Int.le_trans hl.1.1 hl.1.2)
theorem exists_flow(hT:0≤T)(hp:∀j:Int,0≤j->j<n->0≤p j):∃π x:Int->Int,∃F:Int,Feas5 n need T π∧(π 1=π 0+T∨F=0)∧(∀j∈upto (n:Int),lo5 p h π j≤x j∧x j≤hi5 p h π j)∧
  ∀U,Cl5 n need π U->0≤con5 F F (U 1) (U 0)+sm (upto (n:Int)) fun j=>con5 (x j) (x j) (U (2*j+2)) (U (2*j+3)):=by
 obtain⟨π,hπ,hmin⟩:=least_by (Feas5 n need T) (cost5 n p h) (fun π ω=>sm_nn fun j hj=>Int.mul_nonneg (hp j (mem_upto.mp hj).1 (mem_upto.mp hj).2) (Int.le_max_left ..)) ⟨fun ω=>0,⟨fun ω ω ω=>Int.le_refl _,by show(0:Int)≤0+T;rw[Int.zero_add];exact hT⟩⟩
 have hP:0≤sm (upto (n:Int)) p:=sm_nn fun j hj=>hp j (mem_upto.mp hj).1 (mem_upto.mp hj).2
 obtain⟨Z,hZ,hZ1,hZ2⟩:∃Z:Int,0≤Z∧(π 1=π 0+T->Z=sm (upto (n:Int)) p)∧(π 1=π 0+T∨Z=0):=by
  by_cases hz:π 1=π 0+T
  ·exact⟨_,hP,fun ω=>rfl,.inl hz⟩
  ·exact⟨0,Int.le_refl _,fun h=>absurd h hz,.inr rfl⟩
 have hlh:=lohi5 (h:=h) (π:=π) hp
 obtain⟨F,F0,F1,hF⟩:=one5 (cl_latt n need π) (cons_sub (fun j=>2*j+2) (fun j=>2*j+3) (lo5 p h π) (hi5 p h π) (upto (n:Int)) fun j hj=>(hlh j hj).2.1) 1 0 _ 0 Z rfl hZ fun U hU=>by rw[Int.add_comm];exact hoffm5 hπ hmin hp hZ hZ1 hU
 obtain⟨x,hx,hS⟩:=hoff (cl_latt n need π) (fun j=>2*j+2) (fun j=>2*j+3) (lo5 p h π) (hi5 p h π) (upto (n:Int)) (upto_nd n) (fun j hj=>(hlh j hj).2.1) (fun U=>con5 F F (U 1) (U 0)) (con_sub (Int.le_refl F) 1 0) fun U hU=>by rw[Int.add_comm];exact hF U hU
 exact⟨π,x,F,hπ,hZ2.imp id fun(e:Z=0)=>Int.le_antisymm (Int.le_trans F1 (Int.le_of_eq e)) F0,hx,hS⟩
noncomputable def Dn5(t:Int->Int->Bool)(g:List Int)(v:Int):Prop:=v=0∨(∃j i:Int,i∈g∧(j=i∨t j i=true)∧v=2*j+2)∨∃j i:Int,i∈g∧t j i=true∧v=2*j+3
theorem dn_even{g:List Int}{j:Int}(h0:0≤j):Dn5 t g (2*j+2)↔∃i∈g,j=i∨t j i=true:=by
 constructor
 ·rintro(hv|⟨j',i,hi,hji,e⟩|⟨j',i,hi,hji,e⟩)
  ·omega
  ·have:j=j':=by omega
   exact⟨i,hi,this▸hji⟩
  ·omega
 ·rintro⟨i,hi,hji⟩
  exact .inr (.inl ⟨j,i,hi,hji,rfl⟩)
theorem dn_odd{g:List Int}{j:Int}:Dn5 t g (2*j+3)↔∃i∈g,t j i=true:=by
 constructor
 ·rintro(hv|⟨j',i,hi,hji,e⟩|⟨j',i,hi,hji,e⟩)
  ·omega
  ·omega
  ·have:j=j':=by omega
   exact⟨i,hi,this▸hji⟩
 ·rintro⟨i,hi,hji⟩
  exact .inr (.inr ⟨j,i,hi,hji,rfl⟩)
theorem dn_low(L:Lead5 n need t)(inr:∀j:Int,0≤j->j<n->∀a∈need j,0≤a∧a<j){g:List Int}(u v:Int)(h:Ord5 n need u v)(hv:Dn5 t g v):Dn5 t g u:=by
 obtain⟨j,h0,h1,h2⟩:=h
 rcases h2 with⟨rfl,rfl⟩|⟨rfl,rfl⟩|⟨rfl,rfl⟩|⟨a,ha,rfl,rfl⟩
 ·obtain⟨i,hi,hji⟩:=dn_odd.mp hv
  exact(dn_even h0).mpr ⟨i,hi,.inr hji⟩
 ·exact .inl rfl
 ·have hv:Dn5 t g (2*(-1)+3):=hv
  obtain⟨i,hi,hji⟩:=dn_odd.mp hv
  exact absurd (L.least (fun a ω=>0≤a) (fun a b h0 h1 ha=>(inr b h0 h1 a ha).1) (fun a b c h1 ω=>h1) _ _ hji) (by decide)
 ·obtain⟨i,hi,hji⟩:=(dn_even h0).mp hv
  have hb:=L.base a j h0 h1 ha
  refine dn_odd.mpr ⟨i,hi,?_⟩
  rcases hji with rfl|hji
  ·exact hb
  ·exact L.tr a j i h0 h1 hb hji
theorem ant_fin{F S C G:Int}(h1:0≤F+C)(h2:C≤0 - S)(h3:G≤S):G≤F:=by omega
open Classical in
theorem ant5(L:Lead5 n need t)(inr:∀j:Int,0≤j->j<n->∀a∈need j,0≤a∧a<j)(x0:∀j:Int,0≤j->j<n->0≤x j)(hS:∀U,Cl5 n need π U->0≤con5 F F (U 1) (U 0)+sm (upto (n:Int)) fun j=>con5 (x j) (x j) (U (2*j+2)) (U (2*j+3)))
  {g:List Int} (hg:g∈grp5 t n):sm g x≤F:=by
 have hS1:=hS (fun v=>decide (¬Dn5 t g v)) fun u v h1 ω h3=>decide_eq_true fun hv=>of_decide_eq_true h3 (dn_low L inr u v h1 hv)
 have n1: ¬Dn5 t g 1:=fun h=>by
  have h:Dn5 t g (2*(-1)+3):=h
  obtain⟨i,hi,hji⟩:=dn_odd.mp h
  exact absurd (L.least (fun a ω=>0≤a) (fun a b h0 h1 ha=>(inr b h0 h1 a ha).1) (fun a b c h1 ω=>h1) _ _ hji) (by decide)
 have e1:decide (¬Dn5 t g 1)=true:=decide_eq_true n1
 have e0:decide (¬Dn5 t g 0)=false:=decide_eq_false fun h=>h (.inl rfl)
 rw[e1,e0]at hS1
 have cj:(sm (upto (n:Int)) fun j=>con5 (x j) (x j) (decide (¬Dn5 t g (2*j+2))) (decide (¬Dn5 t g (2*j+3))))≤sm (upto (n:Int)) fun j=>0 - if j∈g then x j else 0:=sm_le fun j hj=>by
  have hr:=mem_upto.mp hj
  have xj:=x0 j hr.1 hr.2
  by_cases hjg:j∈g
  ·have a1:decide (¬Dn5 t g (2*j+2))=false:=decide_eq_false fun h=>h ((dn_even hr.1).mpr ⟨j,hjg,.inl rfl⟩)
   have a2:decide (¬Dn5 t g (2*j+3))=true:=decide_eq_true fun h=>by
    obtain⟨i,hi,hji⟩:=dn_odd.mp h
    rw[grp_free L hg j hjg i hi]at hji
    cases hji
   rw[a1,a2,if_pos hjg,Int.zero_sub]
   exact Int.le_refl _
  ·rw[if_neg hjg]
   have hse:decide (¬Dn5 t g (2*j+2))=true->decide (¬Dn5 t g (2*j+3))=true:=fun h=>decide_eq_true fun hv=>of_decide_eq_true h (dn_low L inr _ _ ⟨j,hr.1,hr.2,.inl ⟨rfl,rfl⟩⟩ hv)
   revert hse
   generalize decide (¬Dn5 t g (2*j+2))=a
   generalize decide (¬Dn5 t g (2*j+3))=b
   intro hse
   cases a<;>cases b
   ·exact Int.le_refl _
   ·exact Int.neg_nonpos_of_nonneg xj
   ·exact nomatch hse rfl
   ·exact Int.le_refl _
 rw[sm_sub,sm_zero]at cj
 exact ant_fin hS1 cj (grp_sum x0 (Nat.le_refl n) hg)
theorem con_lev{x s e k:Int}(h:s≤e):con5 x x (decide (s≤k)) (decide (e≤k))=if decide (s≤k∧k<e)then x else 0:=by
 by_cases hs:s≤k
 ·by_cases he:e≤k
  ·rw[decide_eq_true hs,decide_eq_true he,decide_eq_false (fun h=>Int.not_lt.mpr he h.2)];rfl
  ·rw[decide_eq_true hs,decide_eq_false he,decide_eq_true ⟨hs,Int.not_le.mp he⟩];rfl
 ·rw[decide_eq_false hs,decide_eq_false (fun he=>hs (Int.le_trans h he)),decide_eq_false (fun h=>hs h.1)];rfl
theorem lt_toNat{a b:Int}{i:Nat}(h:i<(b - a).toNat):a+i<b:=by omega
theorem lev_fin{F L:Int}(h:0≤-F+L):F≤L:=by omega
theorem strong_fin{C W K F T D:Int}(h1:C=W - K)(h2:0+D*F≤K)(h3:D=T∨F=0):C≤W - T*F:=by
 rcases h3 with rfl|rfl
 ·omega
 ·rw[Int.mul_zero]at h2⊢;omega
theorem slack5{p x h d:Int}(h1:(if d<h then p else 0)≤x)(h2:x≤if d≤h then p else 0):p*max 0 (h - d)=x*(h - d):=by
 rcases Int.lt_trichotomy d h with hd|hd|hd
 ·rw[if_pos hd]at h1
  rw[if_pos (Int.le_of_lt hd)]at h2
  rw[Int.le_antisymm h1 h2,Int.max_eq_right (Int.sub_nonneg.mpr (Int.le_of_lt hd))]
 ·subst hd
  rw[Int.sub_self,Int.mul_zero];exact Int.mul_zero p
 ·rw[if_neg (Int.lt_asymm hd)]at h1
  rw[if_neg (Int.not_le.mpr hd)]at h2
  rw[←Int.le_antisymm h1 h2,Int.max_eq_left (Int.sub_nonpos_of_le (Int.le_of_lt hd)),Int.mul_zero,Int.zero_mul]
theorem cut5{h d:Int}(hh:0≤h)(hd:0≤d):(0≤max 0 (h - d)∧max 0 (h - d)≤h)∧h - max 0 (h - d)≤d:=by omega
theorem end_le{a b c r:Int}(h:r≤b - a)(h2:c≤a):r≤b - c:=by omega
theorem end_add{a b c e r:Int}(h:r≤b - a)(h2:e≤a):e - c+r≤b - c:=by omega
theorem strong5(L:Lead5 n need t)(hn:0<n)(hT:0≤T)(hp:∀j:Int,0≤j->j<n->0≤p j)(hh:∀j:Int,0≤j->j<n->0≤h j)(inr:∀j:Int,0≤j->j<n->∀a∈need j,0≤a∧a<j):
  ∃c x e:Int->Int,∃F:Int,(∀j:Int,0≤j->j<n->(0≤c j∧c j≤h j)∧(0≤x j∧x j≤p j)∧h j - c j≤e j∧e j≤T∧∀a∈need j,e a+(h j - c j)≤e j)∧
   (∀g∈grp5 t n,sm g x≤F)∧sm (upto (n:Int)) (fun j=>p j*c j)≤sm (upto (n:Int)) (fun j=>x j*h j) - T*F:=by
 obtain⟨π,x,F,hπ,hF,hx,hS⟩:=exists_flow (need:=need) (h:=h) hT hp
 have o1:∀j:Int,0≤j->j<n->π 0≤π (2*j+2):=fun j h0 h1=>hπ.ord _ _ ⟨j,h0,h1,.inr (.inl ⟨rfl,rfl⟩)⟩
 have o2:∀j:Int,0≤j->j<n->π (2*j+3)≤π 1:=fun j h0 h1=>hπ.ord _ _ ⟨j,h0,h1,.inr (.inr (.inl ⟨rfl,rfl⟩))⟩
 have o3:∀j:Int,0≤j->j<n->π (2*j+2)≤π (2*j+3):=fun j h0 h1=>hπ.ord _ _ ⟨j,h0,h1,.inl ⟨rfl,rfl⟩⟩
 have rng:∀j∈upto (n:Int),0≤j∧j<n:=fun j hj=>mem_upto.mp hj
 have xr:∀j:Int,0≤j->j<n->0≤x j∧x j≤p j:=fun j h0 h1=>by
  have hj:=mem_upto.mpr ⟨h0,h1⟩
  have hl:=lohi5 (h:=h) (π:=π) hp j hj
  exact⟨Int.le_trans hl.1.1 (hx j hj).1,Int.le_trans (hx j hj).2 hl.2.2⟩
 refine⟨fun j=>max 0 (h j - len5 π j),x,fun j=>π (2*j+3) - π 0,F,fun j h0 h1=>?_,fun g hg=>ant5 L inr (fun j h0 h1=>(xr j h0 h1).1) hS hg,?_⟩
 ·have hc:=cut5 (hh j h0 h1) (Int.sub_nonneg.mpr (o3 j h0 h1):0≤len5 π j)
  exact⟨hc.1,xr j h0 h1,end_le hc.2 (o1 j h0 h1),Int.sub_left_le_of_le_add (Int.le_trans (o2 j h0 h1) hπ.span),fun a ha=>end_add hc.2 (hπ.ord _ _ ⟨j,h0,h1,.inr (.inr (.inr ⟨a,ha,rfl,rfl⟩))⟩)⟩
 ·have hse:∀j∈upto (n:Int),π (2*j+2)≤π (2*j+3):=fun j hj=>o3 j (rng j hj).1 (rng j hj).2
  have h01:π 0≤π 1:=Int.le_trans (o1 0 (Int.le_refl 0) (Int.natCast_pos.mpr hn)) (Int.le_trans (o3 0 (Int.le_refl 0) (Int.natCast_pos.mpr hn)) (o2 0 (Int.le_refl 0) (Int.natCast_pos.mpr hn)))
  have k1:=cum_ge (lo:=π 0) (x:=x) (H:=F) hse (π 1 - π 0).toNat fun i hi=>by
   have hi1:π 0+i<π 1:=lt_toNat hi
   have hS1:=hS (fun v=>decide (π v≤π 0+i)) fun u v ω h2 h3=>decide_eq_true (h2▸of_decide_eq_true h3)
   have e1:decide (π 1≤π 0+i)=false:=decide_eq_false (Int.not_le.mpr hi1)
   have e0:decide (π 0≤π 0+i)=true:=decide_eq_true (Int.le_add_of_nonneg_right (Int.natCast_nonneg i))
   rw[e1,e0,sm_congr fun j hj=>con_lev (hse j hj)]at hS1
   exact lev_fin hS1
  rw[cum_lo hse (fun j hj=>o1 j (rng j hj).1 (rng j hj).2),Int.toNat_of_nonneg (Int.sub_nonneg.mpr h01),←Int.add_sub_assoc,Int.add_comm (π 0) (π 1),Int.add_sub_cancel,cum_hi hse (fun j hj=>o2 j (rng j hj).1 (rng j hj).2)]at k1
  refine strong_fin (K:=sm (upto (n:Int)) fun j=>x j*len5 π j) ?_ k1 (hF.imp (fun e=>by rw[e,Int.add_comm,Int.add_sub_cancel]) id)
  rw[←sm_sub]
  exact sm_congr fun j hj=>by rw[←Int.mul_sub];exact slack5 (hx j hj).1 (hx j hj).2
end
end Ts
namespace Ts
open PySem PySem.Spec PySem.Calls PyProof.Rows PySem.W
theorem mem_rep{α:Type}{L:List α}{x:α}:∀ {k:Nat},x∈(List.replicate k L).flatten->x∈L
 |0,h=>by simp at h
 |k+1,h=>by
  rw[List.replicate_succ,List.flatten_cons]at h
  rcases List.mem_append.mp h with h|h
  ·exact h
  ·exact mem_rep h
theorem ix_all{α:Type}[Inhabited α]{L:List α}{P:α->Prop}(h:∀x∈L,P x)(hd:P default)(j:Int):P (ix L j):=by
 unfold ix List.getD
 cases hq:L[j.toNat]? with
 |none=>exact hd
 |some x=>exact h x (List.mem_of_getElem? hq)
noncomputable def nb5(s:List Int):Nat->List Int
 |0=>[0,2,3,4,2,5,0,1,2,0,1,0,0,0,1,2]
 |i+1=>(nb5 s i).set ((i:Int).fmod 16).toNat (ix (nb5 s i) ((i:Int).fmod 16)+ix s i)
theorem nb5_len(s:List Int):∀i,(nb5 s i).length=16
 |0=>rfl
 |i+1=>by rw[nb5,List.length_set];exact nb5_len s i
structure Need5(n:Nat)(M:List (List Int)):Prop where
 len:M.length=n
 inr:∀j:Int,0≤j->j<n->∀p∈ix M j,0≤p∧p<j
 sz:∀j:Int,(ix M j).length≤12
noncomputable abbrev c5(N:List Int)(n:Nat):SGam:=[("count",some (0,.int n)),("numbers",some (0,.ints N))]
section
variable{C:Cx}{env:Env}
theorem EvL.consI{Γ:Gam}{md:Bool}{j:Int}{k:Nat}{p:Pos}{es:List Expr}{xs:List PV}(h:EvL C env Γ es md xs):EvL C env Γ (.Constant (.int j) k p::es) md (.int j::xs):=EvL.cons Ev.int h
theorem nb5_lit:∃px es pl pos,nthS (fbody (s05 10)) 0= .Assign [.Name "numbers" px] (.List es pl) pos∧∀ {C:Cx} {env:Env} {Γ:Gam},EvL C env Γ es true ((nb5 [] 0).map .int):=by
 refine⟨_,_,_,_,rfl,?_⟩
 intro C env Γ
 repeat refine EvL.consI ?_
 exact EvL.nil
theorem numbers5(T:TopK C)(hN:C.hd=false)(K:KOk env (fnames (s05 10))){script:List Int}(hs:script.length≤63){rest:List Stmt}{Q:AFlow->SGam->Prop}
  (k:∀ (N:List Int) (n:Nat),N.length=16->3≤n->n≤5->Blk C env (c5 N n) rest Q):
  Blk C env [("script",some (0,.ints script))] (nthS (fbody (s05 10)) 0::nthS (fbody (s05 10)) 1::nthS (fbody (s05 10)) 2::rest) Q:=by
 have hlim:(10000:Nat)≤lim:=by decide
 obtain⟨px,es,pl,pos,e,he⟩:=nb5_lit
 rw[e]
 refine Blk.assign (n:=1) (pv:=.ints (nb5 script 0)) (EvN.k1 (EvN.list he (by show 16≤lim;omega))) (K.loc "numbers" (.inr rfl)) ?_
 let inv:Nat->SGam:=fun i=>("numbers",some (1,.ints (nb5 script i)))::[("script",some (0,.ints script))]
 refine Blk.enum (C:=C) (xs:=script.map .int) hN (V.tyName (x:="enumerate") (v:=.type "enumerate") T K (by decide) rfl (by decide +kernel)) (Ev.name (n:=0) rfl (K.var "script" rfl)) (by simp;omega) inv
  (fun i=>("x",some (0,.int (ix script i)))::("place",some (0,.int i))::inv i) (.refl _) (fun i x hx=>?_) (fun i x hx=>?_) ?_
 ·obtain⟨y,hy,rfl⟩:∃y,script[i]?=some y∧PV.int y=x:=by
   rw[List.getElem?_map]at hx
   cases hq:script[i]? with
   |none=>rw[hq]at hx;cases hx
   |some y=>rw[hq]at hx;exact⟨y,rfl,Option.some.inj hx⟩
  have e:ix script (i:Int)=y:=by unfold ix;simp[List.getD,hy]
  show AsgOL C env (inv i) _ [.int i,.int y] _
  rw[←e]
  exact AsgOL.cons (AsgO.name (K.loc "place" (.inl rfl))) (AsgOL.cons (AsgO.name (K.loc "x" (.inl rfl))) AsgOL.nil)
 ·have hp0:0≤(i:Int).fmod 16:=Int.fmod_nonneg_of_pos _ (by decide)
  have hp1:(i:Int).fmod 16<(16:Nat):=Int.fmod_lt_of_pos _ (by decide)
  have hl:=nb5_len script i
  refine Blk.additem (C:=C) (x:="numbers") (n₀:=1) (ys:=(nb5 script i).map .int) (upd:=id) (j:=(i:Int).fmod 16) (z:=ix (nb5 script i) ((i:Int).fmod 16)) (y:=ix script i) (EvF.list rfl) (V.t (V.mod (V.name (n:=0) rfl (K.var "place" rfl)) V.int (by decide))) (Ev.name (n:=0) rfl (K.var "x" rfl)) hp0 (ix_getm hl hp0 hp1) (by simp;omega) (Blk.nil ⟨rfl,?_⟩)
  show Sle (("numbers",some (1,.ints (nb5 script (i+1))))::_) _
  have e:PV.ints (nb5 script (i+1))= .list (((nb5 script i).map .int).set ((i:Int).fmod 16).toNat (.int (ix (nb5 script i) ((i:Int).fmod 16)+ix script i))):=by rw[nb5];exact congrArg PV.list List.map_set
  rw[e]
  exact .cons rfl (.cons rfl .nil)
 ·have hl:=nb5_len script (script.map PV.int).length
  show Blk C env [("numbers",some (1,.ints (nb5 script (script.map PV.int).length))),("script",some (0,.ints script))] (nthS (fbody (s05 10)) 2::rest) Q
  generalize nb5 script (script.map PV.int).length=N at hl⊢
  refine Blk.freeze (x:="numbers") rfl ?_
  have h3:=Int.fmod_nonneg_of_pos (ix N 0) (show(0:Int)<3 by decide)
  have h4:=Int.fmod_lt_of_pos (ix N 0) (show(0:Int)<3 by decide)
  refine Blk.assign (n:=0) (pv:=.int (3+(ix N 0).fmod 3)) (V.k0 (V.add V.int (V.mod (V.itemN (L:=N) (g:=.int) (V.name (n:=0) rfl (K.var "numbers" rfl)) V.int (by decide) (show(0:Int)<(16:Nat) by decide) hl (by decide)) V.int (by decide)))) (K.loc "count" (.inl rfl)) ?_
  refine(k N (3+(ix N 0).fmod 3).toNat hl (by omega) (by omega)).weak ?_
  have e:(((3+(ix N 0).fmod 3).toNat:Nat):Int)=3+(ix N 0).fmod 3:=by omega
  show Sle [("count",some (0,.int (((3+(ix N 0).fmod 3).toNat:Nat):Int))),_] _
  rw[e]
  exact .cons rfl (.cons rfl .nil)
noncomputable def mlt5:List Int:=[0,1,2,0]
noncomputable def tri5:Nat->Nat
 |0=>0
 |i+1=>tri5 i+i
theorem tri5_lt:∀i:Fin 5,∀a:Fin 5,a.val<i.val->6+tri5 i.val+a.val<16:=by decide
noncomputable abbrev e5(p h N:List Int)(n:Nat):SGam:=("hours",some (0,.ints h))::("prices",some (0,.ints p))::c5 N n
noncomputable abbrev k5(p h N:List Int)(n:Nat)(k:Nat)(M:List (List Int)):SGam:=("k",some (0,.int k))::("needs",some (2,.mat M))::e5 p h N n
structure NeedI(n i a:Nat)(M:List (List Int)):Prop where
 len:M.length=n
 inr:∀j:Int,0≤j->j<n->∀p∈ix M j,0≤p∧p<j
 sz:∀j:Int,0≤j->j<i->(ix M j).length≤12
 cur:(ix M i).length≤2*a
 emp:∀j:Int,i<j->j<n->ix M j=[]
noncomputable def NI5(p h N:List Int)(n i:Nat)(Γ:SGam):Prop:=∃M,NeedI n i 0 M∧Sle (k5 p h N n (6+tri5 i) M) Γ
noncomputable def NA5(p h N:List Int)(n i a:Nat)(Γ:SGam):Prop:=∃M,NeedI n i a M∧Sle (("job",some (0,.int i))::k5 p h N n (6+tri5 i+a) M) Γ
set_option tactic.hygienic true in
theorem NeedI.step{n i a:Nat}{M:List (List Int)}(h:NeedI n i a M)(hi:i<n)(ha:a<i){m:Nat}(hm:m≤2):NeedI n i (a+1) (M.set (i:Int).toNat (ix M i++(List.replicate m [(a:Int)]).flatten)):=by
 have hl:(List.replicate m [(a:Int)]).flatten.length=m:=by simp
 have S:=fun{j:Int} (h0:0≤j) (h1:j<n)=>ix_set h.len (i:=(i:Int)) (by omega) (by omega) h0 h1 (ix M i++(List.replicate m [(a:Int)]).flatten)
 refine⟨by rw[List.length_set];exact h.len,fun j h0 h1 p hp=>?_,fun j h0 h1=>?_,?_,fun j h0 h1=>?_⟩
 ·rw[S h0 h1]at hp
  split at hp
  ·rename_i e
   rcases List.mem_append.mp hp with hp|hp
   ·rw[e];exact h.inr i (by omega) (by omega) p hp
   ·have:=List.mem_singleton.mp (mem_rep hp)
    omega
  ·exact h.inr j h0 h1 p hp
 ·rw[S h0 (by omega),if_neg (by omega)]
  exact h.sz j h0 h1
 ·rw[S (by omega) (by omega),if_pos rfl,List.length_append,hl]
  have:=h.cur
  omega
 ·rw[S (by omega) h1,if_neg (by omega)]
  exact h.emp j h0 h1
theorem NeedI.next{n i:Nat}{M:List (List Int)}(h:NeedI n i i M)(hi:i<n)(hn:n≤5):NeedI n (i+1) 0 M:=by
 refine⟨h.len,h.inr,fun j h0 h1=>?_,?_,fun j h0 h1=>h.emp j (by omega) h1⟩
 ·by_cases e:j=i
  ·have:=h.cur;rw[e];omega
  ·exact h.sz j h0 (by omega)
 ·by_cases e:i+1<n
  ·rw[h.emp _ (by omega) (by omega)];exact Nat.zero_le _
  ·have:ix M ((i+1:Nat):Int)=[]:=by
    unfold ix
    have hl:=h.len
    rw[List.getD_eq_getElem?_getD,List.getElem?_eq_none (by omega)];rfl
   rw[this];exact Nat.zero_le _
theorem prices5(T:TopK C)(hN:C.hd=false)(K:KOk env (fnames (s05 10))){N:List Int}{n:Nat}(hNl:N.length=16)(hn:n≤5){rest:List Stmt}{Q:AFlow->SGam->Prop}
  (k:∀p h:List Int,p.length=n->h.length=n->(∀j:Int,0≤j->j<n->1≤ix p j∧ix p j≤2)->(∀j:Int,0≤j->j<n->0≤ix h j∧ix h j≤2)->Blk C env (e5 p h N n) rest Q):
  Blk C env (c5 N n) (nthS (fbody (s05 10)) 3::nthS (fbody (s05 10)) 4::rest) Q:=by
 have hlim:(10000:Nat)≤lim:=by decide
 have h1000:n≤1000:=by omega
 have kc:∀ {scope:Scope} {D:Addr} {cells:List (Str×Addr)} {x:Str},isVar (scope.names.lookup x)=true->isVar ((CE scope env D cells).kindOf x)=true:=fun{scope D cells x} hx=>(KOk.ce (scope:=scope) (env:=env) (L:=D) (cells:=cells)).var x hx
 refine Blk.assign_lc (C:=C) (dp:=0) (out:=((upto (n:Int)).map fun j=>1+(ix N (1+j)).fmod 2).map .int) (V.map (L:=upto (n:Int)) (g:=.int) (g':=.int) (h:=fun j=>1+(ix N (1+j)).fmod 2) (md:=false) K (V.rngN (V.range1 T K rfl (V.name rfl (K.var "count" rfl))) h1000 hN) (by decide) (.inl rfl) rfl (fun D cells j hj=>V.e0 (V.add V.int (V.mod (V.itemN (L:=N) (g:=.int) (n:=16) (V.name rfl (kc rfl)) (V.add V.int (V.name rfl (kc rfl))) (by have:=mem_upto.mp hj;omega) (by have:=mem_upto.mp hj;omega) hNl (by decide)) V.int (by decide)))) (upto_lim h1000)) (K.loc "prices" (.inr rfl)) ?_
 refine Blk.assign_lc (C:=C) (dp:=0) (out:=((upto (n:Int)).map fun j=>((ix N (1+j)).fdiv 2).fmod 3).map .int) (V.map (L:=upto (n:Int)) (g:=.int) (g':=.int) (h:=fun j=>((ix N (1+j)).fdiv 2).fmod 3) (md:=false) K (V.rngN (V.range1 T K rfl (V.name rfl (K.var "count" rfl))) h1000 hN) (by decide) (.inl rfl) rfl (fun D cells j hj=>V.e0 (V.mod (V.fdiv (V.itemN (L:=N) (g:=.int) (n:=16) (V.name rfl (kc rfl)) (V.add V.int (V.name rfl (kc rfl))) (by have:=mem_upto.mp hj;omega) (by have:=mem_upto.mp hj;omega) hNl (by decide)) V.int (by decide) (by decide)) V.int (by decide))) (upto_lim h1000)) (K.loc "hours" (.inr rfl)) ?_
 refine Blk.freeze (x:="hours") rfl (Blk.freeze (x:="prices") rfl ?_)
 refine(k ((upto (n:Int)).map fun j=>1+(ix N (1+j)).fmod 2) ((upto (n:Int)).map fun j=>((ix N (1+j)).fdiv 2).fmod 3) (by rw[List.length_map];exact upto_lenN) (by rw[List.length_map];exact upto_lenN) (fun j h0 h1=>?_) (fun j h0 h1=>?_)).weak (.cons rfl (.cons rfl (.cons rfl (.cons rfl .nil))))
 ·rw[ix_map_upto _ h0 h1]
  have h3:=Int.fmod_nonneg_of_pos (ix N (1+j)) (show(0:Int)<2 by decide)
  have h4:=Int.fmod_lt_of_pos (ix N (1+j)) (show(0:Int)<2 by decide)
  omega
 ·rw[ix_map_upto _ h0 h1]
  have h3:=Int.fmod_nonneg_of_pos ((ix N (1+j)).fdiv 2) (show(0:Int)<3 by decide)
  have h4:=Int.fmod_lt_of_pos ((ix N (1+j)).fdiv 2) (show(0:Int)<3 by decide)
  omega
theorem needs5(T:TopK C)(hN:C.hd=false)(hi:interactive env=false)(K:KOk env (fnames (s05 10))){p h N:List Int}{n:Nat}(hNl:N.length=16)(hn3:3≤n)(hn:n≤5){rest:List Stmt}{Q:AFlow->SGam->Prop}
  (k:∀M,Need5 n M->Blk C env [("needs",some (0,.mat M)),("hours",some (0,.ints h)),("prices",some (0,.ints p)),("count",some (0,.int n))] rest Q):
  Blk C env (e5 p h N n) (nthS (fbody (s05 10)) 5::nthS (fbody (s05 10)) 6::nthS (fbody (s05 10)) 7::rest) Q:=by
 have hlim:(10000:Nat)≤lim:=by decide
 have h1000:n≤1000:=by omega
 refine Blk.assign_lc (C:=C) (dp:=1) (out:=((upto (n:Int)).map fun ω=>[]).map .ints) (V.map (L:=upto (n:Int)) (g:=.int) (g':=.ints) (h:=fun ω=>[]) (md:=false) K (V.rngN (V.range1 T K rfl (V.name rfl (K.var "count" rfl))) h1000 hN) (by decide) (.inl rfl) rfl (fun D cells a ha=>EvE.of_new (md:=true) (EvN.list EvL.nil (by decide)) (by simp)) (upto_lim h1000)) (K.loc "needs" (.inl rfl)) ?_
 refine Blk.assign (n:=0) (pv:=.int 6) (V.k0 V.int) (K.loc "k" (.inl rfl)) ?_
 refine Blk.forT (C:=C) (L:=upto (n:Int)) (g:=.int) (V.rngN (V.range1 T K rfl (V.name rfl (K.var "count" rfl))) h1000 hN)
  (NI5 p h N n) (fun j Γi=>("job",some (0,.int j))::Γi) ⟨(upto (n:Int)).map fun ω=>[],?_,.refl _⟩ (fun j Γi ω=>AsgO.name (K.loc "job" (.inr rfl))) (fun i j Γi hj hinv=>?_) fun Γ' hinv=>?_
 ·have e:∀j:Int,0≤j->j<n->ix ((upto (n:Int)).map fun ω=>([]:List Int)) j=[]:=fun j h0 h1=>ix_map_upto _ h0 h1
  refine⟨by rw[List.length_map];exact upto_lenN,fun j h0 h1 p hp=>?_,fun j h0 h1=>by omega,?_,fun j h0 h1=>e j (by omega) h1⟩
  ·rw[e j h0 h1]at hp;cases hp
  ·rw[e ((0:Nat):Int) (by omega) (by omega)];exact Nat.zero_le _
 ·obtain⟨M,hM,hsle⟩:=hinv
  obtain⟨j0,jn,ej⟩:=upto_getN hj
  subst ej
  refine Blk.abs fun P1 hP1=>?_
  refine Blk.forT (C:=C) (L:=upto (i:Int)) (g:=.int) (V.rngN (V.range1 T K rfl (V.name rfl (K.var "job" rfl))) (by omega) hN)
   (NA5 p h N n i) (fun a Γi=>("ahead",some (0,.int a))::Γi) ⟨M,hM,sle_cons_mono _ _ hsle⟩ (fun a Γi ω=>AsgO.name (K.loc "ahead" (.inl rfl))) (fun ia a Γi ha hinv=>?_) fun Γ' hinv=>?_
  ·obtain⟨M,hM,hsle⟩:=hinv
   obtain⟨a0,an,ea⟩:=upto_getN ha
   subst ea
   refine Blk.abs fun P2 hP2=>?_
   refine Blk.weak (Γ':=("ahead",some (0,.int ia))::("job",some (0,.int i))::k5 p h N n (6+tri5 i+ia) M) ?_ (sle_cons_mono _ _ hsle)
   have hk:=tri5_lt ⟨i,by omega⟩ ⟨ia,by omega⟩ (by show ia<i;omega)
   generalize hkk:6+tri5 i+ia=kk at hk⊢
   have hkN:(kk:Int)<(16:Nat):=by omega
   have m0:=Int.fmod_nonneg_of_pos (ix N kk) (show(0:Int)<4 by decide)
   have m1:=Int.fmod_lt_of_pos (ix N kk) (show(0:Int)<4 by decide)
   have hmv:0≤ix mlt5 ((ix N kk).fmod 4)∧ix mlt5 ((ix N kk).fmod 4)≤2:=⟨ix_all (P:=fun x:Int=>0≤x) (by decide) (by decide) _,ix_all (P:=fun x:Int=>x≤2) (by decide) (by decide) _⟩
   have hM2:=hM.step (by omega) (by omega) (m:=(ix mlt5 ((ix N kk).fmod 4)).toNat) (by omega)
   have hl:=hM.len
   have hm2:(ix mlt5 ((ix N kk).fmod 4)).toNat≤2:=by omega
   refine Blk.extend (C:=C) (x:="needs") (n₀:=2) (ys:=(ix M i).map .int) (zs:=(List.replicate (ix mlt5 ((ix N kk).fmod 4)).toNat [PV.int ia]).flatten) (upd:=fun q'=>.list ((M.map PV.ints).set (i:Int).toNat q')) (EvF.item (C:=C) (xs:=M.map .ints) (k:=(i:Int)) (q:=.ints (ix M i)) rfl (Ev.name (n:=0) rfl (K.var "job" rfl)) (by omega) (by omega) (ix_getm hl (by omega) (by omega)) ⟨_,rfl⟩)
    (EvN.ev (EvN.mul (m2:=false) (md:=true) (xs:=[PV.int ia]) (EvN.ev (EvN.list (EvL.cons (Ev.name (n:=0) rfl (K.var "ahead" rfl)) EvL.nil) (by show 1≤lim;omega))) (V.itemN (L:=mlt5) (g:=.int) (n:=4) (V.evn (EvN.list (EvL.consI (EvL.consI (EvL.consI (EvL.consI EvL.nil)))) (by show 4≤lim;omega))) (V.mod (V.itemN (L:=N) (g:=.int) (V.name rfl (K.var "numbers" rfl)) (V.name rfl (K.var "k" rfl)) (by omega) hkN hNl (by decide)) V.int (by decide)) m0 m1 rfl (by decide)) (by omega) (by omega) (by simp;omega))) (Nat.le_trans (by rw[List.length_map,List.length_flatten,List.map_replicate,List.sum_replicate_nat];exact Nat.add_le_add hM.cur (Nat.mul_le_mul hm2 (Nat.le_refl 1))) (show 2*ia+2*1≤lim by omega)) hi ?_
   refine Blk.assign (n:=0) (pv:=.int ((6+tri5 i+(ia+1):Nat):Int)) (EvK.of_ev (Ev.to (x:=.int (kk+1)) (by rw[←hkk];rfl) (V.t (V.add (V.name rfl (K.var "k" rfl)) V.int)))) (K.loc "k" (.inl rfl)) (Blk.nil (hP2 .next _ ⟨_,hM2,?_⟩))
   have e:PV.mat (M.set (i:Int).toNat (ix M i++(List.replicate (ix mlt5 ((ix N kk).fmod 4)).toNat [(ia:Int)]).flatten))= .list ((M.map PV.ints).set (i:Int).toNat (.list ((ix M i).map .int++(List.replicate (ix mlt5 ((ix N kk).fmod 4)).toNat [PV.int ia]).flatten))):=by
    show PV.list _=_
    rw[List.map_set]
    unfold PV.ints
    rw[List.map_append,List.map_flatten,List.map_replicate]
    rfl
   show Sle (_::("k",some (0,.int ((6+tri5 i+(ia+1):Nat):Int)))::("needs",some (2,PV.mat _))::e5 p h N n) _
   rw[e]
   exact .cons rfl (.cons rfl (.cons rfl (.cons rfl (.cons rfl (.cons rfl (.cons rfl .nil))))))
  ·obtain⟨M,hM,hsle⟩:=hinv
   rw[upto_lenN]at hM hsle
   rw[show 6+tri5 i+i=6+tri5 (i+1) by rw[tri5];omega]at hsle
   exact Blk.nil (hP1 .next _ ⟨M,hM.next (by omega) hn,.trans (.cons rfl (.cons rfl (.cons rfl (.cons rfl (.cons rfl (.cons rfl .nil)))))) hsle⟩)
 ·obtain⟨M,hM,hsle⟩:=hinv
  rw[upto_lenN]at hM
  refine Blk.weak ?_ hsle
  refine Blk.freeze (x:="needs") rfl ?_
  refine(k M ⟨hM.len,hM.inr,fun j=>?_⟩).weak (.cons rfl (.cons rfl (.cons rfl (.cons rfl .nil))))
  have e:ix M j=ix M (j.toNat:Int):=by unfold ix;rw[Int.toNat_natCast]
  rw[e]
  by_cases h:j.toNat<n
  ·exact hM.sz _ (Int.natCast_nonneg _) (Int.ofNat_lt.mpr h)
  ·have:ix M (j.toNat:Int)=[]:=by
    unfold ix
    rw[Int.toNat_natCast,List.getD_eq_getElem?_getD,List.getElem?_eq_none (hM.len▸Nat.le_of_not_lt h)];rfl
   rw[this];exact Nat.zero_le _
end
noncomputable def rows5(f:Int->Int):Nat->List (List Int)
 |0=>[[]]
 |i+1=>(rows5 f i).flatMap fun r=>(upto (f i+1)).map fun c=>r++[c]
theorem ix_app{r:List Int}{c j:Int}(h0:0≤j)(h1:j≤r.length):ix (r++[c]) j=if j=r.length then c else ix r j:=by
 obtain⟨m,rfl⟩:=Int.eq_ofNat_of_zero_le h0
 unfold ix
 simp only[Int.toNat_natCast,List.getD]
 by_cases h:m=r.length
 ·subst h;simp
 ·have h2: ¬((m:Int)=(r.length:Int)):=by omega
  rw[if_neg h2,List.getElem?_append_left (by omega)]
theorem rows_in{f:Int->Int}:∀ {i:Nat} {r:List Int},r∈rows5 f i->r.length=i∧∀j:Int,0≤j->j<i->0≤ix r j∧ix r j≤f j
 |0,r,h=>by
  rw[List.mem_singleton.mp h]
  exact⟨rfl,fun j h0 h1=>by omega⟩
 |i+1,r,h=>by
  obtain⟨r',h1,h2⟩:=List.mem_flatMap.mp h
  obtain⟨c,h3,rfl⟩:=List.mem_map.mp h2
  obtain⟨h4,h5⟩:=rows_in h1
  have h6:=mem_upto.mp h3
  refine⟨by rw[List.length_append,h4];rfl,fun j h0 hj=>?_⟩
  rw[ix_app h0 (by omega)]
  by_cases e:j=r'.length
  ·rw[if_pos e,e,h4];omega
  ·rw[if_neg e];exact h5 j h0 (by omega)
theorem rows_mem{f c:Int->Int}:∀ {i:Nat},(∀j:Int,0≤j->j<i->0≤c j∧c j≤f j)->(upto (i:Int)).map c∈rows5 f i
 |0,_=>List.mem_singleton.mpr rfl
 |i+1,h=>by
  rw[upto_succ,List.map_append]
  refine List.mem_flatMap.mpr ⟨_,rows_mem fun j h0 h1=>h j h0 (by omega),List.mem_map.mpr ⟨c i,mem_upto.mpr ?_,rfl⟩⟩
  have:=h i (by omega) (by omega)
  omega
theorem rows_len{f:Int->Int}:∀ {i:Nat},(∀j:Int,0≤j->j<i->f j≤2)->(rows5 f i).length≤3^i
 |0,_=>Nat.le_refl _
 |i+1,h=>by
  have ih:=rows_len (f:=f) (i:=i) fun j h0 h1=>h j h0 (by omega)
  have h2:=h i (by omega) (by omega)
  have key:∀L:List (List Int),(L.flatMap fun r=>(upto (f i+1)).map fun c=>r++[c]).length≤L.length*3:=fun L=>by
   induction L with
   |nil=>exact Nat.le_refl _
   |cons r L ih=>
    rw[List.flatMap_cons,List.length_append,List.length_map,upto_len,List.length_cons]
    omega
  have:=key (rows5 f i)
  rw[Nat.pow_succ]
  show((rows5 f i).flatMap fun r=>(upto (f i+1)).map fun c=>r++[c]).length≤_
  omega
theorem rows_pv(f:Int->Int)(i:Nat):(rows5 f (i+1)).map PV.ints=(rows5 f i).flatMap fun r=>(upto (f i+1)).flatMap fun c=>[PV.ints (r++[c])]:=by
 rw[rows5,List.map_flatMap]
 congr 1
 funext r
 rw[flatMap_single,List.map_map];rfl
theorem pow3_le{i:Nat}(h:i≤5):3^i≤243:=Nat.pow_le_pow_right (by decide) h
theorem grp_len(t:Int->Int->Bool):∀i:Nat,(grp5 t i).length≤2^i
 |0=>Nat.le_refl _
 |i+1=>by
  have ih:=grp_len t i
  have:=List.length_filter_le (fun g=>(g.filter fun a=>t a i).isEmpty) (grp5 t i)
  rw[grp5,List.length_append,List.length_map,Nat.pow_succ]
  omega
theorem grp_glen(t:Int->Int->Bool):∀ {i:Nat} {g:List Int},g∈grp5 t i->g.length≤i
 |0,g,h=>by rw[List.mem_singleton.mp h];exact Nat.le_refl _
 |i+1,g,h=>by
  rcases List.mem_append.mp h with h|h
  ·have:=grp_glen t h;omega
  ·obtain⟨g',h1,rfl⟩:=List.mem_map.mp h
   have:=grp_glen t (List.mem_filter.mp h1).1
   rw[List.length_append]
   exact Nat.succ_le_succ this
noncomputable abbrev f5(D:List (List Int))(p h:List Int)(n:Nat):SGam:=[("leads",some (0,.bmat (mkM n (fwN D n)))),("needs",some (0,.mat D)),("hours",some (0,.ints h)),("prices",some (0,.ints p)),("count",some (0,.int n))]
noncomputable abbrev j5(D:List (List Int))(p h:List Int)(n i:Nat):SGam:=("groups",some (0,.mat (grp5 (fwN D n) n)))::("cuts",some (0,.mat (rows5 (ix h) i)))::("crews",some (0,.mat (rows5 (ix p) i)))::f5 D p h n
noncomputable def GR5(D:List (List Int))(p h:List Int)(n:Nat)(i:Nat)(Γ:SGam):Prop:=Sle (("groups",some (0,.mat (grp5 (fwN D n) i)))::f5 D p h n) Γ
noncomputable def RW5(D:List (List Int))(p h:List Int)(n:Nat)(i:Nat)(Γ:SGam):Prop:=Sle (j5 D p h n i) Γ
section
variable{C:Cx}{env:Env}
theorem groups5(T:TopK C)(hN:C.hd=false)(hl:1≤C.lev)(K:KOk env (fnames (s05 10)))(f151:FnAt C.K 151 (s05 9) .none)(g151:C.glob "_law_leads" =some (.ref 151)){D:List (List Int)}{p h:List Int}{n:Nat}(hDl:D.length=n)(hn:n≤5){rest:List Stmt}{Q:AFlow->SGam->Prop}
  (k:Blk C env (("groups",some (0,.mat (grp5 (fwN D n) n)))::f5 D p h n) rest Q):
  Blk C env [("needs",some (0,.mat D)),("hours",some (0,.ints h)),("prices",some (0,.ints p)),("count",some (0,.int n))] (nthS (fbody (s05 10)) 8::nthS (fbody (s05 10)) 9::nthS (fbody (s05 10)) 10::rest) Q:=by
 have hlim:(10000:Nat)≤lim:=by decide
 have h1000:n≤1000:=by omega
 have kc:∀ {scope:Scope} {env:Env} {D:Addr} {cells:List (Str×Addr)} {x:Str},isVar (scope.names.lookup x)=true->isVar ((CE scope env D cells).kindOf x)=true:=fun{scope env D cells x} hx=>(KOk.ce (scope:=scope) (env:=env) (L:=D) (cells:=cells)).var x hx
 refine Blk.assign (n:=0) (pv:=.bmat (mkM n (fwN D n))) (EvK.of_ev (V.fn (C:=C) (m:=0) (md:=true) (xs:=[.mat D]) hl (K.glb "_law_leads" rfl) g151 f151 (EvL.cons (Ev.name (n:=0) rfl (K.var "needs" rfl)) EvL.nil) (leads_fn (C:=C.l 0) (T.l 0) hN f151 hDl (by omega)))) (K.loc "leads" (.inr rfl)) ?_
 refine Blk.assign (n:=0) (pv:=.mat [[]]) (EvK.of_ev (EvN.ev (EvN.list (md:=true) (EvL.cons (EvN.ev (EvN.list (md:=true) EvL.nil (by decide))) EvL.nil) (by decide)))) (K.loc "groups" (.inl rfl)) ?_
 refine Blk.forT (C:=C) (L:=upto (n:Int)) (g:=.int) (V.rngN (V.range1 T K rfl (V.name rfl (K.var "count" rfl))) h1000 hN)
  (GR5 D p h n) (fun j Γi=>("job",some (0,.int j))::Γi) (.refl _) (fun j Γi ω=>AsgO.name (K.loc "job" (.inr rfl))) (fun i j Γi hj hsle=>?_) fun Γ' hsle=>?_
 ·obtain⟨j0,jn,ej⟩:=upto_getN hj
  subst ej
  refine Blk.weak (Γ':=("job",some (0,.int i))::("groups",some (0,.mat (grp5 (fwN D n) i)))::f5 D p h n) ?_ (sle_cons_mono _ _ hsle)
  have gl:=grp_len (fwN D n) i
  have gl2:2^i≤2^5:=Nat.pow_le_pow_right (by decide) (by omega)
  have cell:∀ {Γ:Gam} {env:Env} {names:List (Str×NameKind)} {x y:Str} {p1 p2 p3 p4 p5:Pos} {u v:Int} {nu nv nm:Nat},KOk env names->Γ.lookup ("leads":Str)=some (some (nm,.bmat (mkM n (fwN D n))))->Γ.lookup x=some (some (nu,.int u))->Γ.lookup y=some (some (nv,.int v))->isVar (env.kindOf "leads")=true->isVar (env.kindOf x)=true->isVar (env.kindOf y)=true->(x==("__debug__":Str))=false->(y==("__debug__":Str))=false->0≤u->u<n->0≤v->v<n->Ev C env Γ (.Subscript (.Subscript (.Name "leads" p1) (.Name x p2) p3) (.Name y p4) p5) false (.bool (fwN D n u v)):=fun{Γ env names x y p1 p2 p3 p4 p5 u v nu nv nm} K g1 g2 g3 k0 k1 k2 d1 d2 u0 un v0 vn=>by
   have:=V.itemN (C:=C) (env:=env) (Γ:=Γ) (p:=p5) (L:=ix (mkM n (fwN D n)) u) (g:=.bool) (V.itemN (p:=p3) (L:=mkM n (fwN D n)) (g:=boolsPV) (V.name (p:=p1) g1 k0) (V.name (p:=p2) g2 k1 d1) u0 un mk_len h1000) (V.name (p:=p4) g3 k2 d2) v0 vn (mk_rlen u0 un) h1000
   rwa[mk_at u0 un v0 vn]at this
  have hflt:((grp5 (fwN D n) i).filter fun g=>(g.filter fun a=>fwN D n a i).isEmpty).length≤(grp5 (fwN D n) i).length:=List.length_filter_le _ _
  refine Blk.assign (n:=0) (pv:=.mat (grp5 (fwN D n) (i+1))) (EvK.of_ev ?_) (K.loc "groups" (.inl rfl)) (Blk.nil ?_)
  ·show Ev C env _ _ true (.list ((grp5 (fwN D n) i++((grp5 (fwN D n) i).filter fun g=>(g.filter fun a=>fwN D n a i).isEmpty).map fun g=>g++[(i:Int)]).map .ints))
   rw[List.map_append]
   refine EvN.ev (EvN.add (md:=true) (Ev.name (n:=0) rfl (K.var "groups" rfl)) (EvC.ev1 (V.filt (dp:=1) (L:=grp5 (fwN D n) i) (g:=.ints) (g':=.ints) (h:=fun g=>g++[(i:Int)]) (q:=fun g=>(g.filter fun a=>fwN D n a i).isEmpty) (md:=false) K (EvI.list (V.name rfl (K.var "groups" rfl)) (by rw[List.length_map];omega)) (by decide) (.inl rfl) rfl (fun D' cells g hg=>?_) (fun D' cells g hg ω=>?_) (by omega))) (by simp only[List.length_map];omega))
   ·have hgl:=grp_glen _ hg
    have hgi:=grp_in hg
    have e:(((g.filter fun a=>fwN D n a i).map id).map PV.int).isEmpty=(g.filter fun a=>fwN D n a i).isEmpty:=by simp
    rw[←e]
    refine V.isE (EvC.ev (V.filt (L:=g) (g:=.int) (g':=.int) (h:=id) (q:=fun a=>fwN D n a i) (md:=false) KOk.ce (EvI.list (V.name rfl (kc rfl)) (by simp;omega)) (by decide) (.inl rfl) rfl (fun D' cells' a ha=>EvB.val (cell KOk.ce rfl rfl rfl (kc rfl) (kc rfl) (kc rfl) rfl rfl (hgi a ha).1 (by have:=(hgi a ha).2;omega) j0 (by omega))) (fun D' cells' a ha ω=>V.e0 (V.name rfl (kc rfl))) (by omega))) V.nilE (ok_ints _)
   ·have hgl:=grp_glen _ hg
    show EvE _ _ _ _ 1 (.list ((g++[(i:Int)]).map .int))
    rw[List.map_append]
    refine EvE.of_new (md:=false) (V.addL (V.name rfl (kc rfl)) (V.evn (V.list (V.consL (V.name rfl (kc rfl)) V.nilL) (by show 1≤lim;omega))) (by simp;omega)) (fun x hx=>?_)
    rw[←List.map_append]at hx
    exact ints_imm _ x hx
  ·show Sle _ _
   exact .cons rfl (.cons rfl (.cons rfl (.cons rfl (.cons rfl (.cons rfl .nil)))))
 ·rw[upto_lenN]at hsle
  exact k.weak hsle
theorem rows5_fn(T:TopK C)(hN:C.hd=false)(K:KOk env (fnames (s05 10))){D:List (List Int)}{p h:List Int}{n:Nat}(hn:n≤5)(hpl:p.length=n)(hhl:h.length=n)(hp:∀j:Int,0≤j->j<n->0≤ix p j∧ix p j≤2)(hh:∀j:Int,0≤j->j<n->0≤ix h j∧ix h j≤2){rest:List Stmt}{Q:AFlow->SGam->Prop}
  (k:Blk C env (j5 D p h n n) rest Q):
  Blk C env (("groups",some (0,.mat (grp5 (fwN D n) n)))::f5 D p h n) (nthS (fbody (s05 10)) 11::nthS (fbody (s05 10)) 12::nthS (fbody (s05 10)) 13::rest) Q:=by
 have hlim:(10000:Nat)≤lim:=by decide
 have h1000:n≤1000:=by omega
 have kc:∀ {scope:Scope} {env:Env} {D:Addr} {cells:List (Str×Addr)} {x:Str},isVar (scope.names.lookup x)=true->isVar ((CE scope env D cells).kindOf x)=true:=fun{scope env D cells x} hx=>(KOk.ce (scope:=scope) (env:=env) (L:=D) (cells:=cells)).var x hx
 refine Blk.assign (n:=0) (pv:=.mat [[]]) (EvK.of_ev (EvN.ev (EvN.list (md:=true) (EvL.cons (EvN.ev (EvN.list (md:=true) EvL.nil (by decide))) EvL.nil) (by decide)))) (K.loc "cuts" (.inl rfl)) ?_
 refine Blk.assign (n:=0) (pv:=.mat [[]]) (EvK.of_ev (EvN.ev (EvN.list (md:=true) (EvL.cons (EvN.ev (EvN.list (md:=true) EvL.nil (by decide))) EvL.nil) (by decide)))) (K.loc "crews" (.inl rfl)) ?_
 refine Blk.forT (C:=C) (L:=upto (n:Int)) (g:=.int) (V.rngN (V.range1 T K rfl (V.name rfl (K.var "count" rfl))) h1000 hN)
  (RW5 D p h n) (fun j Γi=>("job",some (0,.int j))::Γi) (.cons rfl (.cons rfl (.cons rfl (.cons rfl (.cons rfl (.cons rfl (.cons rfl (.cons rfl .nil)))))))) (fun j Γi ω=>AsgO.name (K.loc "job" (.inr rfl))) (fun i j Γi hj hsle=>?_) fun Γ' hsle=>?_
 ·obtain⟨j0,jn,ej⟩:=upto_getN hj
  subst ej
  refine Blk.weak (Γ':=("job",some (0,.int i))::j5 D p h n i) ?_ (sle_cons_mono _ _ hsle)
  have p3:=pow3_le (show i≤5 by omega)
  have p3':=pow3_le (show i+1≤5 by omega)
  have l1:=rows_len (f:=ix h) (i:=i) fun j h0 h1=>(hh j h0 (by omega)).2
  have l1':=rows_len (f:=ix h) (i:=i+1) fun j h0 h1=>(hh j h0 (by omega)).2
  have l2:=rows_len (f:=ix p) (i:=i) fun j h0 h1=>(hp j h0 (by omega)).2
  have l2':=rows_len (f:=ix p) (i:=i+1) fun j h0 h1=>(hp j h0 (by omega)).2
  have hi1:=hh i j0 jn
  have hi2:=hp i j0 jn
  have out:∀f:Int->Int,(rows5 f (i+1)).length≤3^(i+1)->((rows5 f i).flatMap fun r=>(upto (f i+1)).flatMap fun c=>[PV.ints (r++[c])]).length≤2^24:=fun f hf=>by
   rw[←rows_pv,List.length_map];omega
  have elt:∀ {Γ:Gam} {env:Env} {x y:Str} {p1 p2 p3 p4:Pos} {r:List Int} {c:Int} {nu nv:Nat},r.length=i->Γ.lookup x=some (some (nu,.ints r))->Γ.lookup y=some (some (nv,.int c))->isVar (env.kindOf x)=true->isVar (env.kindOf y)=true->(x==("__debug__":Str))=false->(y==("__debug__":Str))=false->EvE C env Γ (.BinOp (.Name x p1) .Add (.List [.Name y p2] p3) p4) 1 (.ints (r++[c])):=fun{Γ env x y p1 p2 p3 p4 r c nu nv} hr g1 g2 k1 k2 d1 d2=>by
   show EvE _ _ _ _ 1 (.list ((r++[c]).map .int))
   rw[List.map_append]
   refine EvE.of_new (md:=false) (V.addL (V.name g1 k1 d1) (V.evn (V.list (V.consL (V.name g2 k2 d2) V.nilL) (by show 1≤lim;omega))) (by simp;omega)) (fun x hx=>?_)
   rw[←List.map_append]at hx
   exact ints_imm _ x hx
  refine Blk.assign_lc (C:=C) (dp:=1) (out:=(rows5 (ix h) (i+1)).map .ints) ?_ (K.loc "cuts" (.inl rfl)) ?_
  ·rw[rows_pv]
   refine EvC.lc (L:=rows5 (ix h) i) (g:=.ints) (md:=false) (EvI.list (V.name rfl (K.var "cuts" rfl)) (by simp;omega)) (ScopeOk.ofK K (by decide)) (fun D' cells r hr=>TurnOk.name (b:=true) (.inl rfl) rfl EvT.nil (fun ω=>Cl.typed (L:=upto (ix h i+1)) (g:=.int) (md:=false) (V.rngI (V.range1 T KOk.ce rfl (V.add (V.itemN (L:=h) (g:=.int) (V.name rfl (kc rfl)) (V.name rfl (kc rfl)) j0 jn hhl h1000) V.int)) (by omega) (by omega)) fun c hc=>TurnOk.name (b:=true) (.inl rfl) rfl EvT.nil (fun ω=>Cl.emit (elt (rows_in hr).1 rfl rfl (kc rfl) (kc rfl) rfl rfl)) (fun h=>by cases h)) (fun h=>by cases h)) (async2 (by intro _ _;rfl) (by intro _ _;rfl)) (out _ l1')
  refine Blk.freeze (x:="cuts") rfl ?_
  refine Blk.weak (Γ':=("cuts",some (0,.mat (rows5 (ix h) (i+1))))::("job",some (0,.int i))::("groups",some (0,.mat (grp5 (fwN D n) n)))::("crews",some (0,.mat (rows5 (ix p) i)))::f5 D p h n) ?_ (.cons rfl (.cons rfl (.cons rfl (.cons rfl (.cons rfl (.cons rfl (.cons rfl (.cons rfl (.cons rfl .nil)))))))))
  refine Blk.assign_lc (C:=C) (dp:=1) (out:=(rows5 (ix p) (i+1)).map .ints) ?_ (K.loc "crews" (.inl rfl)) ?_
  ·rw[rows_pv]
   refine EvC.lc (L:=rows5 (ix p) i) (g:=.ints) (md:=false) (EvI.list (V.name rfl (K.var "crews" rfl)) (by simp;omega)) (ScopeOk.ofK K (by decide)) (fun D' cells r hr=>TurnOk.name (b:=true) (.inl rfl) rfl EvT.nil (fun ω=>Cl.typed (L:=upto (ix p i+1)) (g:=.int) (md:=false) (V.rngI (V.range1 T KOk.ce rfl (V.add (V.itemN (L:=p) (g:=.int) (V.name rfl (kc rfl)) (V.name rfl (kc rfl)) j0 jn hpl h1000) V.int)) (by omega) (by omega)) fun c hc=>TurnOk.name (b:=true) (.inl rfl) rfl EvT.nil (fun ω=>Cl.emit (elt (rows_in hr).1 rfl rfl (kc rfl) (kc rfl) rfl rfl)) (fun h=>by cases h)) (fun h=>by cases h)) (async2 (by intro _ _;rfl) (by intro _ _;rfl)) (out _ l2')
  refine Blk.freeze (x:="crews") rfl (Blk.nil ?_)
  show Sle _ _
  exact .cons rfl (.cons rfl (.cons rfl (.cons rfl (.cons rfl (.cons rfl (.cons rfl (.cons rfl .nil)))))))
 ·rw[upto_lenN]at hsle
  exact k.weak hsle
end
theorem max_list:∀ (L:List Int) (x:Int),∃m,(m=x∨m∈L)∧x≤m∧∀a∈L,a≤m
 |[],x=>⟨x,.inl rfl,Int.le_refl _,fun ω h=>nomatch h⟩
 |y::L,x=>by
  obtain⟨m,h1,h2,h3⟩:=max_list L x
  by_cases hy:y≤m
  ·refine⟨m,h1.imp id (List.mem_cons_of_mem _),h2,fun a ha=>?_⟩
   rcases List.mem_cons.mp ha with rfl|ha
   ·exact hy
   ·exact h3 a ha
  ·refine⟨y,.inr (List.mem_cons_self ..),by omega,fun a ha=>?_⟩
   rcases List.mem_cons.mp ha with rfl|ha
   ·exact Int.le_refl _
   ·have:=h3 a ha;omega
section
variable{n:Nat}{need:Int->List Int}{hrs:Int->Int}
theorem exists_bg(inr:∀j:Int,0≤j->j<n->∀p∈need j,0≤p∧p<j)(h0:∀j:Int,0≤j->j<n->0≤hrs j):∃bg,Plan5 n need hrs bg:=by
 let step:(Int->Int)->Int->Int:=fun g j=>Classical.choose (max_list ((need j).map fun p=>g p+hrs p) 0)
 have hstep:∀g j,(step g j=0∨step g j∈(need j).map fun p=>g p+hrs p)∧0≤step g j∧∀a∈(need j).map (fun p=>g p+hrs p),a≤step g j:=fun g j=>Classical.choose_spec (max_list ((need j).map fun p=>g p+hrs p) 0)
 let G:Nat->Int->Int:=fun k=>Nat.rec (fun ω=>0) (fun ω g=>step g) k
 have stab:∀ (m:Nat) (j:Int),j.toNat=m->0≤j->j<n->∀k k',m<k->m<k'->G k j=G k' j:=by
  intro m
  induction m using Nat.strongRecOn with
  |_ m ih=>
   intro j hm hj hjn k k' hk hk'
   obtain⟨k,rfl⟩:∃q,k=q+1:=⟨k - 1,by omega⟩
   obtain⟨k',rfl⟩:∃q,k'=q+1:=⟨k' - 1,by omega⟩
   have e:(need j).map (fun p=>G k p+hrs p)=(need j).map fun p=>G k' p+hrs p:=List.map_congr_left fun p hp=>by
    have hpr:=inr j hj hjn p hp
    rw[ih p.toNat (by omega) p rfl hpr.1 (by omega) k k' (by omega) (by omega)]
   show step (G k) j=step (G k') j
   simp only[step,e]
 refine⟨fun j=>G (j.toNat+1) j,inr,h0,fun j hj hjn=>(hstep (G j.toNat) j).2.1,fun j hj hjn p hp=>?_,fun j hj hjn=>?_⟩
 ·have hpr:=inr j hj hjn p hp
  have:=(hstep (G j.toNat) j).2.2 _ (List.mem_map.mpr ⟨p,hp,rfl⟩)
  rw[stab p.toNat p rfl hpr.1 (by omega) j.toNat (p.toNat+1) (by omega) (Nat.lt_succ_self _)]at this
  exact this
 ·rcases(hstep (G j.toNat) j).1 with e|e
  ·exact .inl e
  ·obtain⟨p,hp,e⟩:=List.mem_map.mp e
   refine .inr ⟨p,hp,?_⟩
   have hpr:=inr j hj hjn p hp
   rw[stab p.toNat p rfl hpr.1 (by omega) j.toNat (p.toNat+1) (by omega) (Nat.lt_succ_self _)]at e
   exact e.symm
end
noncomputable def OverOf(D:List (List Int))(hrs:List Int)(M:Int):Prop:=∃bg,Plan5 D.length (ix D) (ix hrs) bg∧(∃j:Int,0≤j∧j<D.length∧bg j+ix hrs j=M)∧∀j:Int,0≤j->j<D.length->bg j+ix hrs j≤M
theorem over_ex{D:List (List Int)}{hrs:List Int}(hn:0<D.length)(inr:∀j:Int,0≤j->j<D.length->∀p∈ix D j,0≤p∧p<j)(h0:∀j:Int,0≤j->j<D.length->0≤ix hrs j):∃M,OverOf D hrs M:=by
 obtain⟨bg,P⟩:=exists_bg (n:=D.length) (need:=ix D) (hrs:=ix hrs) inr h0
 have hne:(upto (D.length:Int)).map (fun j=>bg j+ix hrs j)≠[]:=fun e=>by
  have:=congrArg List.length e
  rw[List.length_map,upto_lenN]at this
  exact absurd this (Nat.ne_of_gt hn)
 obtain⟨M,h1,h2⟩:=exists_max _ hne
 obtain⟨j,hj,e⟩:=List.mem_map.mp h1
 have:=mem_upto.mp hj
 exact⟨M,bg,P,⟨j,this.1,this.2,e⟩,fun j h0 h1=>h2 _ (List.mem_map.mpr ⟨j,mem_upto.mpr ⟨h0,h1⟩,rfl⟩)⟩
noncomputable def ovr5(D:List (List Int))(hrs:List Int):Int:=@dite _ (∃M,OverOf D hrs M) (Classical.propDecidable _) (fun h=>Classical.choose h) fun ω=>0
theorem ovr_ok{D:List (List Int)}{hrs:List Int}(h:∃M,OverOf D hrs M):OverOf D hrs (ovr5 D hrs):=by
 unfold ovr5
 rw[@dif_pos _ (Classical.propDecidable _) h]
 exact Classical.choose_spec h
theorem ovr_nn{D:List (List Int)}{hrs:List Int}(h:∃M,OverOf D hrs M):0≤ovr5 D hrs:=by
 obtain⟨bg,P,⟨j,h0,h1,e⟩,_⟩:=ovr_ok h
 have:=P.lo0 j h0 h1
 have:=P.h0 j h0 h1
 omega
theorem grp_nil(t:Int->Int->Bool):∀n:Nat,[]∈grp5 t n
 |0=>List.mem_singleton.mpr rfl
 |n+1=>List.mem_append.mpr (.inl (grp_nil t n))
theorem hands_ex(t:Int->Int->Bool)(n:Nat)(r:List Int):∃m∈(grp5 t n).map fun g=>sm g (ix r),∀a∈(grp5 t n).map (fun g=>sm g (ix r)),a≤m:=
 exists_max _ (List.ne_nil_of_mem (List.mem_map.mpr ⟨[],grp_nil t n,rfl⟩))
noncomputable def hands5(t:Int->Int->Bool)(n:Nat)(r:List Int):Int:=Classical.choose (hands_ex t n r)
theorem hands_ok(t:Int->Int->Bool)(n:Nat)(r:List Int):hands5 t n r∈(grp5 t n).map (fun g=>sm g (ix r))∧∀a∈(grp5 t n).map (fun g=>sm g (ix r)),a≤hands5 t n r:=Classical.choose_spec (hands_ex t n r)
theorem mulOk_r{a b:Int}(h0:0≤b)(h1:b≤100):IntMulOk a b:=by
 obtain⟨m,rfl⟩:=Int.eq_ofNat_of_zero_le h0
 have key:∀m:Fin 101,Builtin.Int.intBits (m.val:Int)≤64:=by decide
 exact IntMulOk.of_right (key ⟨m,by omega⟩)
theorem mulOk_l{a b:Int}(h0:0≤a)(h1:a≤100):IntMulOk a b:=by
 obtain⟨m,rfl⟩:=Int.eq_ofNat_of_zero_le h0
 have key:∀m:Fin 101,Builtin.Int.intBits (m.val:Int)≤64:=by decide
 exact IntMulOk.of_left (key ⟨m,by omega⟩)
noncomputable def left5(h r:List Int)(n:Nat):List Int:=(upto (n:Int)).map fun j=>ix h j - ix r j
noncomputable def pl5(D:List (List Int))(p h:List Int)(n:Nat)(r:List Int):Int×Int:=(ovr5 D (left5 h r n),sm (upto (n:Int)) fun j=>ix p j*ix r j)
noncomputable def se5(t:Int->Int->Bool)(h:List Int)(n:Nat)(r:List Int):Int×Int:=(sm (upto (n:Int)) fun j=>ix r j*ix h j,hands5 t n r)
noncomputable def twoPV(a:Int×Int):PV:=.tuple [.int a.1,.int a.2]
noncomputable abbrev m5(D:List (List Int))(p h:List Int)(n:Nat):SGam:=j5 D p h n n
noncomputable def PL5(D:List (List Int))(p h:List Int)(n:Nat)(i:Nat)(Γ:SGam):Prop:=Sle (("plans",some (1,.list ((((rows5 (ix h) n).take i).map (pl5 D p h n)).map twoPV)))::m5 D p h n) Γ
noncomputable abbrev n5(D:List (List Int))(p h:List Int)(n:Nat):SGam:=("plans",some (0,.list (((rows5 (ix h) n).map (pl5 D p h n)).map twoPV)))::m5 D p h n
noncomputable def SE5(D:List (List Int))(p h:List Int)(n:Nat)(i:Nat)(Γ:SGam):Prop:=Sle (("sent",some (1,.list ((((rows5 (ix p) n).take i).map (se5 (fwN D n) h n)).map twoPV)))::n5 D p h n) Γ
noncomputable abbrev o5(D:List (List Int))(p h:List Int)(n:Nat):SGam:=("sent",some (0,.list (((rows5 (ix p) n).map (se5 (fwN D n) h n)).map twoPV)))::n5 D p h n
section
variable{C:Cx}{env:Env}
theorem plans5(T:TopK C)(hN:C.hd=false)(hl:7≤C.lev)(hi:interactive env=false)(K:KOk env (fnames (s05 10)))(f146:FnAt C.K 146 (s05 8) .none)(g146:C.glob "_law_over" =some (.ref 146))
  (f73:FnAt C.K 73 (tsS 0) (.ref 66)) (hd66:C.K.lookup 66=some {cls:=.type "tuple",data:=.seq #[.none]})
  {D:List (List Int)} {p h:List Int} {n:Nat} (hD:Need5 n D) (hn3:3≤n) (hn:n≤5) (hpl:p.length=n) (hhl:h.length=n) (hp:∀j:Int,0≤j->j<n->0≤ix p j∧ix p j≤2) (hh:∀j:Int,0≤j->j<n->0≤ix h j∧ix h j≤2) {rest:List Stmt} {Q:AFlow->SGam->Prop}
  (k:Blk C env (n5 D p h n) rest Q):
  Blk C env (m5 D p h n) (nthS (fbody (s05 10)) 14::nthS (fbody (s05 10)) 15::rest) Q:=by
 have hlim:(10000:Nat)≤lim:=by decide
 have h1000:n≤1000:=by omega
 have hDl:=hD.len
 have kc:∀ {scope:Scope} {env:Env} {D:Addr} {cells:List (Str×Addr)} {x:Str},isVar (scope.names.lookup x)=true->isVar ((CE scope env D cells).kindOf x)=true:=fun{scope env D cells x} hx=>(KOk.ce (scope:=scope) (env:=env) (L:=D) (cells:=cells)).var x hx
 have p3:=pow3_le hn
 have l1:=rows_len (f:=ix h) (i:=n) fun j h0 h1=>(hh j h0 h1).2
 refine Blk.assign (n:=1) (pv:=.list []) EvK.nil (K.loc "plans" (.inl rfl)) ?_
 refine Blk.forT (C:=C) (L:=rows5 (ix h) n) (g:=.ints) (EvI.list (Ev.name (n:=0) (md:=true) rfl (K.var "cuts" rfl)) (by simp;omega))
  (PL5 D p h n) (fun r Γi=>("cut",some (0,.ints r))::Γi) (.refl _) (fun r Γi ω=>AsgO.name (K.loc "cut" (.inr rfl))) (fun i r Γi hr hsle=>?_) fun Γ' hsle=>?_
 ·have hrm:=List.mem_of_getElem? hr
  obtain⟨hrl,hrb⟩:=rows_in hrm
  have hex:∃M,OverOf D (left5 h r n) M:=over_ex (by omega) (by rw[hDl];exact hD.inr) fun j h0 h1=>by
   have:=hrb j h0 (by omega)
   rw[left5,ix_map_upto _ h0 (by omega)]
   omega
  obtain⟨bg,P,hM,hMle⟩:=ovr_ok hex
  have hnn:=ovr_nn hex
  have hll:(left5 h r n).length=n:=by unfold left5;rw[List.length_map];exact upto_lenN
  have hover:=over_fn (C:=C.l 6) (T.l 6) hN (by show 6≤6;omega) f146 f73 hd66 (by omega) (by omega) (hll.trans hDl.symm) (fun j=>Nat.le_trans (hD.sz j) (by omega)) P hM hMle
  refine Blk.weak (Γ':=("cut",some (0,.ints r))::("plans",some (1,.list ((((rows5 (ix h) n).take i).map (pl5 D p h n)).map twoPV)))::m5 D p h n) ?_ (sle_cons_mono _ _ hsle)
  refine Blk.assign (n:=0) (pv:=.int (ovr5 D (left5 h r n))) (V.k0 (V.fn (C:=C) (m:=6) (md:=false) (xs:=[.mat D,.ints (left5 h r n)]) hl (K.glb "_law_over" rfl) g146 f146 (V.consL (V.name rfl (K.var "needs" rfl)) (V.consL (EvC.ev (V.map (L:=upto (n:Int)) (g:=.int) (g':=.int) (h:=fun j=>ix h j - ix r j) (md:=false) K (V.rngN (V.range1 T K rfl (V.name rfl (K.var "count" rfl))) h1000 hN) (by decide) (.inl rfl) rfl
   (fun D' cells j hj=>V.e0 (V.sub (V.itemN (L:=h) (g:=.int) (V.name rfl (kc rfl)) (V.name rfl (kc rfl)) (mem_upto.mp hj).1 (mem_upto.mp hj).2 hhl h1000) (V.itemN (L:=r) (g:=.int) (V.name rfl (kc rfl)) (V.name rfl (kc rfl)) (mem_upto.mp hj).1 (mem_upto.mp hj).2 hrl h1000))) (upto_lim h1000))) V.nilL)) hover)) (K.loc "over" (.inl rfl)) ?_
  refine Blk.ite (b:=decide (ovr5 D (left5 h r n)<0)) (V.cmpB (V.name rfl (K.var "over" rfl)) V.int Cop.lt_int) ?_
  rw[decide_eq_false (by omega)]
  refine Blk.nil ?_
  have hli:((rows5 (ix h) n).take i).length≤243:=by rw[List.length_take];omega
  refine Blk.appendK (C:=C) (x:="plans") (n:=0) (ys:=(((rows5 (ix h) n).take i).map (pl5 D p h n)).map twoPV) (y:=twoPV (pl5 D p h n r)) rfl (EvK.of_ev (Ev.tuple (EvL.cons (Ev.name (n:=0) rfl (K.var "over" rfl)) (EvL.cons (V.t (V.sum T K hN rfl (EvC.ev (V.map (L:=upto (n:Int)) (g:=.int) (g':=.int) (h:=fun j=>ix p j*ix r j) (md:=false) K (V.rngN (V.range1 T K rfl (V.name rfl (K.var "count" rfl))) h1000 hN) (by decide) (.inl rfl) rfl
   (fun D' cells j hj=>V.e0 (V.mul (V.itemN (L:=p) (g:=.int) (V.name rfl (kc rfl)) (V.name rfl (kc rfl)) (mem_upto.mp hj).1 (mem_upto.mp hj).2 hpl h1000) (V.itemN (L:=r) (g:=.int) (V.name rfl (kc rfl)) (V.name rfl (kc rfl)) (mem_upto.mp hj).1 (mem_upto.mp hj).2 hrl h1000) (mulOk_r (hrb j (mem_upto.mp hj).1 (mem_upto.mp hj).2).1 (by have:=hrb j (mem_upto.mp hj).1 (mem_upto.mp hj).2;have:=hh j (mem_upto.mp hj).1 (mem_upto.mp hj).2;omega)))) (upto_lim h1000))))) EvL.nil)) (by show 2≤lim;omega))) (by simp only[List.length_map];omega) hi (Blk.nil ?_)
  show Sle _ _
  rw[take_get hr,List.map_append,List.map_append]
  exact .cons rfl (.cons rfl (.cons rfl (.cons rfl (.cons rfl (.cons rfl (.cons rfl (.cons rfl (.cons rfl .nil))))))))
 ·unfold PL5 at hsle
  rw[List.take_length]at hsle
  refine Blk.weak ?_ hsle
  exact Blk.freeze (x:="plans") rfl (k.weak (.cons rfl (.cons rfl (.cons rfl (.cons rfl (.cons rfl (.cons rfl (.cons rfl (.cons rfl (.cons rfl .nil))))))))))
end
section
variable{n:Nat}{D:List (List Int)}
theorem Need5.rng(h:Need5 n D){a b:Int}(hm:a∈ix D b):(0≤b∧b<n)∧0≤a∧a<b:=by
 by_cases h0:0≤b
 ·by_cases h1:b<n
  ·exact⟨⟨h0,h1⟩,h.inr b h0 h1 a hm⟩
  ·have hl:=h.len
   have:ix D b=[]:=by
    unfold ix
    rw[List.getD_eq_getElem?_getD,List.getElem?_eq_none (by omega)];rfl
   rw[this]at hm;cases hm
 ·have e:ix D b=ix D 0:=by unfold ix;congr 1;omega
  rw[e]at hm
  by_cases hn:0<n
  ·have:=h.inr 0 (by omega) (by omega) a hm
   omega
  ·have hl:=h.len
   have:ix D 0=[]:=by
    unfold ix
    rw[List.getD_eq_getElem?_getD,List.getElem?_eq_none (by omega)];rfl
   rw[this]at hm;cases hm
theorem lead5(h:Need5 n D):Lead5 n (ix D) (fwN D n)where
 base:=fun a b ω ω hm=>fwN_mono n a b (decide_eq_true hm)
 tr:=fun a p b h0 h1 h2 h3=>fwN_tr n p a b h0 h1 h2 h3
 up:=fwN_least (R:=fun a b=>a<b) (fun a b hm=>(h.rng hm).2.2) (fun a b c h1 h2=>by omega) n
 least:=fun R h1 h2=>fwN_least (R:=R) (fun a b hm=>h1 a b (h.rng hm).1.1 (h.rng hm).1.2 hm) h2 n
theorem sm_rows{x:Int->Int}{g:List Int}(hg:∀j∈g,0≤j∧j<n):sm g (ix ((upto (n:Int)).map x))=sm g x:=sm_congr fun j hj=>ix_map_upto _ (hg j hj).1 (hg j hj).2
theorem kel5(hD:Need5 n D)(hn:0<n){p h:List Int}(hp:∀j:Int,0≤j->j<n->0≤ix p j∧ix p j≤2)(hh:∀j:Int,0≤j->j<n->0≤ix h j∧ix h j≤2){T:Int}(hT:0≤T):
  ∃V:Int,(V∈(((rows5 (ix h) n).map (pl5 D p h n)).filter fun a=>decide (a.1≤T)).map (·.2)∧∀a∈(((rows5 (ix h) n).map (pl5 D p h n)).filter fun a=>decide (a.1≤T)).map (·.2),V≤a)∧
   V∈((rows5 (ix p) n).map (se5 (fwN D n) h n)).map (fun a=>a.1 - T*a.2)∧∀a∈((rows5 (ix p) n).map (se5 (fwN D n) h n)).map (fun a=>a.1 - T*a.2),a≤V:=by
 have L:=lead5 hD
 have hDl:=hD.len
 have up:∀j∈upto (n:Int),0≤j∧j<n:=fun j hj=>mem_upto.mp hj
 have weak:∀r∈rows5 (ix h) n,(pl5 D p h n r).1≤T->∀x∈rows5 (ix p) n,(se5 (fwN D n) h n x).1 - T*(se5 (fwN D n) h n x).2≤(pl5 D p h n r).2:=fun r hr hov x hx=>by
  have hrb:=(rows_in hr).2
  have hix:∀j:Int,0≤j->j<n->ix (left5 h r n) j=ix h j - ix r j:=fun j h0 h1=>ix_map_upto _ h0 h1
  have hex:∃M,OverOf D (left5 h r n) M:=over_ex (by omega) (by rw[hDl];exact hD.inr) fun j h0 h1=>by
   have:=hrb j h0 (by omega)
   rw[hix j h0 (by omega)]
   omega
  obtain⟨bg,P,hM,hMle⟩:=ovr_ok hex
  rw[hDl]at P hM hMle
  refine weak5 (bg:=bg) L hT (fun j h0 h1=>(rows_in hx).2 j h0 h1) hrb P.inr P.lo0 (fun j h0 h1 a ha=>?_) (fun j h0 h1=>?_) (H:=hands5 (fwN D n) n x) (fun g hg=>(hands_ok (fwN D n) n x).2 _ (List.mem_map.mpr ⟨g,hg,rfl⟩))
  ·have:=P.lop j h0 h1 a ha
   have hr:=P.inr j h0 h1 a ha
   rw[hix a hr.1 (by omega)]at this
   exact this
  ·have:=hMle j h0 h1
   rw[hix j h0 h1]at this
   exact Int.le_trans this hov
 obtain⟨c,x,e,F,hb,hF,hcost⟩:=strong5 (n:=n) (need:=ix D) L (p:=ix p) (h:=ix h) hn hT (fun j h0 h1=>(hp j h0 h1).1) (fun j h0 h1=>(hh j h0 h1).1) hD.inr
 have hr:(upto (n:Int)).map c∈rows5 (ix h) n:=rows_mem fun j h0 h1=>(hb j h0 h1).1
 have hx:(upto (n:Int)).map x∈rows5 (ix p) n:=rows_mem fun j h0 h1=>(hb j h0 h1).2.1
 have hov:(pl5 D p h n ((upto (n:Int)).map c)).1≤T:=by
  have hix:∀j:Int,0≤j->j<n->ix (left5 h ((upto (n:Int)).map c) n) j=ix h j - c j:=fun j h0 h1=>by
   rw[left5,ix_map_upto _ h0 h1,ix_map_upto _ h0 h1]
  have hex:∃M,OverOf D (left5 h ((upto (n:Int)).map c) n) M:=over_ex (by omega) (by rw[hDl];exact hD.inr) fun j h0 h1=>by
   have:=(hb j h0 (by omega)).1
   rw[hix j h0 (by omega)]
   omega
  obtain⟨bg,P,⟨j,j0,j1,ej⟩,hMle⟩:=ovr_ok hex
  rw[hDl]at P j1
  have key:∀ (m:Nat) (j:Int),j.toNat=m->0≤j->j<n->bg j+(ix h j - c j)≤e j:=by
   intro m
   induction m using Nat.strongRecOn with
   |_ m ih=>
    intro j hm h0 h1
    have hbj:=(hb j h0 h1).2.2
    rcases P.att j h0 h1 with ea|⟨a,ha,ea⟩
    ·omega
    ·have hra:=P.inr j h0 h1 a ha
     have:=ih a.toNat (by omega) a rfl hra.1 (by omega)
     rw[hix a hra.1 (by omega)]at ea
     have:=hbj.2.2 a ha
     omega
  have k1:=key _ j rfl j0 j1
  rw[hix j j0 j1]at ej
  have:=(hb j j0 j1).2.2.2.1
  show ovr5 D _≤T
  omega
 have hprice:(pl5 D p h n ((upto (n:Int)).map c)).2=sm (upto (n:Int)) fun j=>ix p j*c j:=sm_congr fun j hj=>by rw[ix_map_upto _ (up j hj).1 (up j hj).2]
 have hwork:(se5 (fwN D n) h n ((upto (n:Int)).map x)).1=sm (upto (n:Int)) fun j=>x j*ix h j:=sm_congr fun j hj=>by rw[ix_map_upto _ (up j hj).1 (up j hj).2]
 have hhands:(se5 (fwN D n) h n ((upto (n:Int)).map x)).2≤F:=by
  obtain⟨g,hg,eg⟩:=List.mem_map.mp (hands_ok (fwN D n) n ((upto (n:Int)).map x)).1
  have:=hF g hg
  rw[←sm_rows (n:=n) (fun j hj=>grp_in hg j hj)]at this
  show hands5 _ _ _≤F
  rw[←eg]
  exact this
 have w1:=weak _ hr hov _ hx
 have w2:T*(se5 (fwN D n) h n ((upto (n:Int)).map x)).2≤T*F:=Int.mul_le_mul_of_nonneg_left hhands hT
 have veq:(pl5 D p h n ((upto (n:Int)).map c)).2=(se5 (fwN D n) h n ((upto (n:Int)).map x)).1 - T*(se5 (fwN D n) h n ((upto (n:Int)).map x)).2:=by
  rw[hprice]at w1⊢
  rw[hwork]at w1⊢
  omega
 refine⟨(pl5 D p h n ((upto (n:Int)).map c)).2,⟨List.mem_map.mpr ⟨_,List.mem_filter.mpr ⟨List.mem_map.mpr ⟨_,hr,rfl⟩,decide_eq_true hov⟩,rfl⟩,fun a ha=>?_⟩,List.mem_map.mpr ⟨_,List.mem_map.mpr ⟨_,hx,rfl⟩,veq.symm⟩,fun a ha=>?_⟩
 ·obtain⟨q,hq,rfl⟩:=List.mem_map.mp ha
  obtain⟨h1,h2⟩:=List.mem_filter.mp hq
  obtain⟨r,hr',rfl⟩:=List.mem_map.mp h1
  have:=weak r hr' (of_decide_eq_true h2) _ hx
  rw[veq]
  exact this
 ·obtain⟨q,hq,rfl⟩:=List.mem_map.mp ha
  obtain⟨y,hy,rfl⟩:=List.mem_map.mp hq
  exact weak _ hr hov y hy
end
theorem sum_rng:∀L:List Int,(∀x∈L,0≤x∧x≤2)->0≤L.sum∧L.sum≤2*L.length
 |[],_=>⟨Int.le_refl _,Int.le_refl _⟩
 |x::L,h=>by
  have h1:=h x List.mem_cons_self
  have h2:=sum_rng L fun y hy=>h y (List.mem_cons_of_mem _ hy)
  rw[List.sum_cons,List.length_cons]
  omega
theorem ix_mem{L:List Int}{x:Int}(h:x∈L):∃j:Int,0≤j∧j<L.length∧ix L j=x:=by
 obtain⟨i,hi⟩:=List.getElem?_of_mem h
 obtain⟨h1,h2⟩:=List.getElem?_eq_some_iff.mp hi
 exact⟨i,by omega,by omega,by unfold ix;simp[List.getD,h1,h2]⟩
noncomputable def AG5(D:List (List Int))(p h:List Int)(n:Nat)(i:Nat)(Γ:SGam):Prop:=Sle (o5 D p h n) Γ
section
variable{C:Cx}{env:Env}
theorem sent5(T:TopK C)(hN:C.hd=false)(hi:interactive env=false)(K:KOk env (fnames (s05 10)))
  {D:List (List Int)} {p h:List Int} {n:Nat} (hn:n≤5) (hhl:h.length=n) (hp:∀j:Int,0≤j->j<n->0≤ix p j∧ix p j≤2) (hh:∀j:Int,0≤j->j<n->0≤ix h j∧ix h j≤2) {rest:List Stmt} {Q:AFlow->SGam->Prop}
  (k:Blk C env (o5 D p h n) rest Q):
  Blk C env (n5 D p h n) (nthS (fbody (s05 10)) 16::nthS (fbody (s05 10)) 17::rest) Q:=by
 have hlim:(10000:Nat)≤lim:=by decide
 have h1000:n≤1000:=by omega
 have kc:∀ {scope:Scope} {env:Env} {D:Addr} {cells:List (Str×Addr)} {x:Str},isVar (scope.names.lookup x)=true->isVar ((CE scope env D cells).kindOf x)=true:=fun{scope env D cells x} hx=>(KOk.ce (scope:=scope) (env:=env) (L:=D) (cells:=cells)).var x hx
 have p3:=pow3_le hn
 have l1:=rows_len (f:=ix p) (i:=n) fun j h0 h1=>(hp j h0 h1).2
 have gl:=grp_len (fwN D n) n
 have gl2:2^n≤2^5:=Nat.pow_le_pow_right (by decide) hn
 refine Blk.assign (n:=1) (pv:=.list []) EvK.nil (K.loc "sent" (.inl rfl)) ?_
 refine Blk.forT (C:=C) (L:=rows5 (ix p) n) (g:=.ints) (EvI.list (Ev.name (n:=0) (md:=true) rfl (K.var "crews" rfl)) (by simp;omega))
  (SE5 D p h n) (fun r Γi=>("crew",some (0,.ints r))::Γi) (.refl _) (fun r Γi ω=>AsgO.name (K.loc "crew" (.inr rfl))) (fun i r Γi hr hsle=>?_) fun Γ' hsle=>?_
 ·have hrm:=List.mem_of_getElem? hr
  obtain⟨hrl,hrb⟩:=rows_in hrm
  refine Blk.weak (Γ':=("crew",some (0,.ints r))::("sent",some (1,.list ((((rows5 (ix p) n).take i).map (se5 (fwN D n) h n)).map twoPV)))::n5 D p h n) ?_ (sle_cons_mono _ _ hsle)
  refine Blk.assign (n:=0) (pv:=.int (se5 (fwN D n) h n r).1) (V.k0 (V.sum T K hN rfl (EvC.ev (V.map (L:=upto (n:Int)) (g:=.int) (g':=.int) (h:=fun j=>ix r j*ix h j) (md:=false) K (V.rngN (V.range1 T K rfl (V.name rfl (K.var "count" rfl))) h1000 hN) (by decide) (.inl rfl) rfl
   (fun D' cells j hj=>V.e0 (V.mul (V.itemN (L:=r) (g:=.int) (V.name rfl (kc rfl)) (V.name rfl (kc rfl)) (mem_upto.mp hj).1 (mem_upto.mp hj).2 hrl h1000) (V.itemN (L:=h) (g:=.int) (V.name rfl (kc rfl)) (V.name rfl (kc rfl)) (mem_upto.mp hj).1 (mem_upto.mp hj).2 hhl h1000) (mulOk_r (hh j (mem_upto.mp hj).1 (mem_upto.mp hj).2).1 (by have:=hh j (mem_upto.mp hj).1 (mem_upto.mp hj).2;omega)))) (upto_lim h1000))))) (K.loc "work" (.inl rfl)) ?_
  have hli:((rows5 (ix p) n).take i).length≤243:=by rw[List.length_take];omega
  have hmx:=hands_ok (fwN D n) n r
  refine Blk.appendK (C:=C) (x:="sent") (n:=0) (ys:=(((rows5 (ix p) n).take i).map (se5 (fwN D n) h n)).map twoPV) (y:=twoPV (se5 (fwN D n) h n r)) rfl (EvK.of_ev (Ev.tuple (EvL.cons (Ev.name (n:=0) rfl (K.var "work" rfl)) (EvL.cons (V.t (V.maxL (ns:=(grp5 (fwN D n) n).map fun g=>sm g (ix r)) T K hN rfl (EvC.ev (V.map (L:=grp5 (fwN D n) n) (g:=.ints) (g':=.int) (h:=fun g=>sm g (ix r)) (md:=false) K (EvI.list (V.name rfl (K.var "groups" rfl)) (by rw[List.length_map];omega)) (by decide) (.inl rfl) rfl
   (fun D' cells g hg=>V.e0 (V.sum T KOk.ce hN rfl (EvC.ev (V.map (L:=g) (g:=.int) (g':=.int) (h:=ix r) (md:=false) KOk.ce (EvI.list (V.name rfl (kc rfl)) (by have:=grp_glen _ hg;simp;omega)) (by decide) (.inl rfl) rfl
    (fun D'' cells' j hj=>V.e0 (V.itemN (L:=r) (g:=.int) (V.name rfl (kc rfl)) (V.name rfl (kc rfl)) (grp_in hg j hj).1 (grp_in hg j hj).2 hrl h1000)) (by have:=grp_glen _ hg;omega))))) (by omega))) hmx.1 hmx.2)) EvL.nil)) (by show 2≤lim;omega))) (by simp only[List.length_map];omega) hi (Blk.nil ?_)
  show Sle _ _
  rw[take_get hr,List.map_append,List.map_append]
  exact .cons rfl (.cons rfl (.cons rfl (.cons rfl (.cons rfl (.cons rfl (.cons rfl (.cons rfl (.cons rfl (.cons rfl .nil)))))))))
 ·unfold SE5 at hsle
  rw[List.take_length]at hsle
  refine Blk.weak ?_ hsle
  exact Blk.freeze (x:="sent") rfl (k.weak (.cons rfl (.cons rfl (.cons rfl (.cons rfl (.cons rfl (.cons rfl (.cons rfl (.cons rfl (.cons rfl (.cons rfl .nil)))))))))))
end
theorem fl5(L:List (Int×Int))(T:Int):(((L.filter fun a=>decide (a.1≤T)).map (·.2)).map PV.int)=L.flatMap fun a=>if decide (a.1≤T)then [PV.int a.2]else []:=by
 rw[List.map_map,flatMap_if];rfl
theorem fm5(L:List (Int×Int))(T:Int):((L.map fun a=>a.1 - T*a.2).map PV.int)=L.flatMap fun a=>[PV.int (a.1 - T*a.2)]:=by
 rw[List.map_map,flatMap_single];rfl
section
variable{C:Cx}{env:Env}
theorem bounds5(T:TopK C)(hN:C.hd=false)(K:KOk env (fnames (s05 10)))
  {D:List (List Int)} {p h:List Int} {n:Nat} (hD:Need5 n D) (hn3:3≤n) (hn:n≤5) (hhl:h.length=n) (hp:∀j:Int,0≤j->j<n->0≤ix p j∧ix p j≤2) (hh:∀j:Int,0≤j->j<n->0≤ix h j∧ix h j≤2) {Q:AFlow->SGam->Prop}
  (k:∀Γ',Q (.ret (.bool true)) Γ'):
  Blk C env (o5 D p h n) [nthS (fbody (s05 10)) 18,nthS (fbody (s05 10)) 19] Q:=by
 have hlim:(10000:Nat)≤lim:=by decide
 have kc:∀ {scope:Scope} {env:Env} {D:Addr} {cells:List (Str×Addr)} {x:Str},isVar (scope.names.lookup x)=true->isVar ((CE scope env D cells).kindOf x)=true:=fun{scope env D cells x} hx=>(KOk.ce (scope:=scope) (env:=env) (L:=D) (cells:=cells)).var x hx
 have p3:=pow3_le hn
 have l1:=rows_len (f:=ix p) (i:=n) fun j h0 h1=>(hp j h0 h1).2
 have l2:=rows_len (f:=ix h) (i:=n) fun j h0 h1=>(hh j h0 h1).2
 have hsum:=sum_rng h fun x hx=>by
  obtain⟨j,h0,h1,e⟩:=ix_mem hx
  rw[←e]
  exact hh j h0 (by omega)
 refine Blk.forT (C:=C) (L:=upto (h.sum+1)) (g:=.int) (V.rngI (V.range1 T K rfl (V.add (V.sum T K hN rfl (V.name (n:=0) rfl (K.var "hours" rfl))) V.int)) (by omega) (by omega))
  (AG5 D p h n) (fun j Γi=>("bound",some (0,.int j))::Γi) (.refl _) (fun j Γi ω=>AsgO.name (K.loc "bound" (.inr rfl))) (fun i j Γi hj hsle=>?_) fun Γ' hsle=>?_
 ·have hjr:=mem_upto.mp (List.mem_of_getElem? hj)
  obtain⟨V0,⟨v1,v2⟩,v3,v4⟩:=kel5 hD (by omega) hp hh hjr.1
  refine Blk.weak (Γ':=("bound",some (0,.int j))::o5 D p h n) ?_ (sle_cons_mono _ _ hsle)
  have lp:(((rows5 (ix h) n).map (pl5 D p h n)).map twoPV).length≤lim:=by simp only[List.length_map];omega
  have ls:(((rows5 (ix p) n).map (se5 (fwN D n) h n)).map twoPV).length≤lim:=by simp only[List.length_map];omega
  have lp2:(((((rows5 (ix h) n).map (pl5 D p h n)).filter fun a=>decide (a.1≤j)).map (·.2)).map PV.int).length≤2^24:=by
   have:=List.length_filter_le (fun a:Int×Int=>decide (a.1≤j)) ((rows5 (ix h) n).map (pl5 D p h n))
   simp only[List.length_map]at this⊢
   omega
  have ls2:((((rows5 (ix p) n).map (se5 (fwN D n) h n)).map fun a=>a.1 - j*a.2).map PV.int).length≤2^24:=by simp only[List.length_map];omega
  refine Blk.assign (n:=0) (pv:=.int V0) (V.k0 (V.minL (ns:=((((rows5 (ix h) n).map (pl5 D p h n)).filter fun a=>decide (a.1≤j)).map (·.2))) T K hN rfl ?_ v1 v2)) (K.loc "paid" (.inl rfl)) ?_
  ·show Ev C env _ _ false (.list (((((rows5 (ix h) n).map (pl5 D p h n)).filter fun a=>decide (a.1≤j)).map (·.2)).map PV.int))
   rw[fl5]at lp2⊢
   exact EvC.ev (EvC.lc (L:=(rows5 (ix h) n).map (pl5 D p h n)) (g:=twoPV) (md:=false) (EvI.list (V.name rfl (K.var "plans" rfl)) lp) (ScopeOk.ofK K (by decide)) (fun D' cells a ha=>TurnOk.pair (u:=.int a.1) (v:=.int a.2) (b:=decide (a.1≤j)) (.inl rfl) (.inl rfl) rfl rfl (EvT.one (V.cmpB (V.name rfl (kc rfl)) (V.name rfl (kc rfl)) Cop.le_int)) (fun hb=>by rw[hb];exact Cl.emit (V.e0 (V.name rfl (kc rfl)))) (fun hb=>by rw[hb];rfl) hN) (async1 (by intro _ _;rfl)) lp2)
  refine Blk.ite (b:=V0 !=V0) (V.cmpB (V.name (n:=0) rfl (K.var "paid" rfl)) (V.maxL (ns:=((rows5 (ix p) n).map (se5 (fwN D n) h n)).map fun a=>a.1 - j*a.2) T K hN rfl ?_ v3 v4) Cop.ne_int) ?_
  ·show Ev C env _ _ false (.list ((((rows5 (ix p) n).map (se5 (fwN D n) h n)).map fun a=>a.1 - j*a.2).map PV.int))
   rw[fm5]at ls2⊢
   exact EvC.ev (EvC.lc (L:=(rows5 (ix p) n).map (se5 (fwN D n) h n)) (g:=twoPV) (md:=false) (EvI.list (V.name rfl (K.var "sent" rfl)) ls) (ScopeOk.ofK K (by decide)) (fun D' cells a ha=>TurnOk.pair (u:=.int a.1) (v:=.int a.2) (b:=true) (.inl rfl) (.inl rfl) rfl rfl EvT.nil (fun ω=>Cl.emit (V.e0 (V.sub (V.name rfl (kc rfl)) (V.mul (V.name rfl (kc rfl)) (V.name rfl (kc rfl)) (mulOk_l hjr.1 (by omega)))))) (fun hb=>by cases hb) hN) (async1 (by intro _ _;rfl)) ls2)
  have e:(V0 !=V0)=false:=by simp
  rw[e]
  refine Blk.nil (Blk.nil ?_)
  show Sle _ _
  exact .cons rfl (.cons rfl (.cons rfl (.cons rfl (.cons rfl (.cons rfl (.cons rfl (.cons rfl (.cons rfl (.cons rfl .nil)))))))))
 ·exact Blk.ret (pv:=.bool true) Ev.bool (k _)
end
section
variable{C:Cx}
theorem law5_fn(T:TopK C)(hN:C.hd=false)(hl:7≤C.lev)(f146:FnAt C.K 146 (s05 8) .none)(g146:C.glob "_law_over" =some (.ref 146))(f151:FnAt C.K 151 (s05 9) .none)(g151:C.glob "_law_leads" =some (.ref 151))
  (f73:FnAt C.K 73 (tsS 0) (.ref 66)) (hd66:C.K.lookup 66=some {cls:=.type "tuple",data:=.seq #[.none]}) (f156:FnAt C.K 156 (s05 10) .none)
  {script:List Int} (hs:script.length≤63):Fn C 156 [.ints script] (.bool true):=by
 refine Fn.ofB (C:=C) f156 ["script"] rfl (by decide) (fun x hx=>?_) (fun fd vs h1 h2 h3 h4=>?_) fun env K hi=>?_
 ·simp only[List.mem_cons,List.not_mem_nil,or_false]at hx
  rcases hx with rfl
  exact .inl rfl
 ·obtain⟨u,rfl⟩:=len_one h4
  unfold bindArgs;rw[h1,h2];rfl
 refine @numbers5 C env T hN K script hs _ _ fun N n hNl hn3 hn=>?_
 refine @prices5 C env T hN K N n hNl hn _ _ fun p h hpl hhl hp hh=>?_
 refine @needs5 C env T hN hi K p h N n hNl hn3 hn _ _ fun D hD=>?_
 refine @groups5 C env T hN (by omega) K f151 g151 D p h n hD.len hn _ _ ?_
 have hp':∀j:Int,0≤j->j<n->0≤ix p j∧ix p j≤2:=fun j h0 h1=>by have:=hp j h0 h1;omega
 refine @rows5_fn C env T hN K D p h n hn hpl hhl hp' hh _ _ ?_
 refine @plans5 C env T hN hl hi K f146 g146 f73 hd66 D p h n hD hn3 hn hpl hhl hp' hh _ _ ?_
 refine @sent5 C env T hN hi K D p h n hn hhl hp' hh _ _ ?_
 exact @bounds5 C env T hN K D p h n hD hn3 hn hhl hp' hh _ fun Γ=>rfl
end
end Ts
namespace Ts
open PySem PySem.W PyProof.Rows
set_option maxRecDepth 100000
set_option maxHeartbeats 8000000
noncomputable def vw:Program:=view PySem.Challenge.rw_km0021_05.row.prog [0,2,3,4,5,6,8,9,10]
theorem said05:OpenLaw.wellSaid PySem.Challenge.rw_km0021_05=true:=by
 rw[PySem.W.Fast.te9446332074065402090];kernel_rfl
theorem ok05:(chainsOk vw&&opensWell PySem.Challenge.rw_km0021_05.row.prog&&(frees PySem.Challenge.rw_km0021_05.row.toRowW&&PySem.Challenge.rw_km0021_05.row.within.isEmpty))=true:=by kernel_rfl
theorem bare05:PySem.Challenge.rw_km0021_05.row.prog.bare:=⟨rfl,rfl,rfl,rfl,rfl,by decide +kernel⟩
theorem head_open{r:OpenRow}{q:Program}{d:DefRec}{kwd:List (Str×Expr)}(H:Hook){N:Nat}(left:LeftO r.prog q [Str.ofString "_NodeInfo"] (fun s=>xlAt q [] s&&recOk (RowW.records r.toRowW) s) H.obs H.val N)
  (h1:defOf q r.name=some (d,kwd)) (h2:r.prog.theDef r.name=some (d.params,d.body,d.scope)) (h3:kwWritten? d.params.kwonlyargs d.params.kw_defaults=some kwd) (h4:(!r.writes||r.records.isEmpty)=true)
  (k1:r.wellSaid=true) (ok:(chainsOk q&&opensWell r.prog&&(frees r.toRowW&&r.within.isEmpty))=true) (hb:r.prog.bare) (hw:r.toRowW.promised)
  (hc:WalkO q [Str.ofString "_NodeInfo"] (XL q []) H.says r.toRowW d kwd fun f vs=>PySem.call f vs):r.Holds:=
 PySem.W.holds_open left H.of H.keeps (fun s e=>xl_of s (Bool.and_eq_true_iff.mp e).1) XL.keeps h1 h2 h3 (fun s e=>recFacts_of (Bool.and_eq_true_iff.mp e).2) h4 k1 ok hb hw hc
local macro_rules | `(tactic| o_law)=>`(tactic| refine holds_law said05 fun ω=>?_)
local macro_rules | `(tactic| o_head $H)=>`(tactic| (
 refine' head_open (q:=vw) (N:=2384) $H ?hl rfl rfl rfl rfl (row_said said05) ok05 bare05 ?hw ?hc
 (case hl=>(unfold LeftO openEnds fencedOpening topFrom; rw [PySem.W.Fast.te14082659384304107361,PySem.W.Fast.te14364793385576792824,PySem.W.Fast.te10274390034422433532,PySem.W.Fast.te4187177175401517315]; intro w; kernel_rfl))))
open_top hd05 for PySem.Challenge.rw_km0021_05
set_option maxRecDepth 100000 in
set_option maxHeartbeats 8000000 in
theorem topK5(prog w P lev):TopK ⟨prog,w,hd05.heap_1 P,lev,false⟩where
 sk:=⟨rfl,rfl,rfl,rfl,rfl⟩
 mkI:=⟨rfl,rfl,rfl⟩
 mkT:=⟨rfl,rfl,rfl⟩
 f36:=⟨_,_,rfl,rfl,rfl,rfl,rfl,rfl,rfl,rfl,rfl⟩
 f80:=⟨_,_,rfl,rfl,rfl,rfl,rfl,rfl,rfl,rfl,rfl⟩
 f87:=⟨_,_,rfl,rfl,rfl,rfl,rfl,rfl,rfl,rfl,rfl⟩
 f92:=⟨_,_,rfl,rfl,rfl,rfl,rfl,rfl,rfl,rfl,rfl⟩
 f99:=⟨_,_,rfl,rfl,rfl,rfl,rfl,rfl,rfl,rfl,rfl⟩
 f106:=⟨_,_,rfl,rfl,rfl,rfl,rfl,rfl,rfl,rfl,rfl⟩
 f120:=⟨_,_,rfl,rfl,rfl,rfl,rfl,rfl,rfl,rfl,rfl⟩
 f127:=⟨_,_,rfl,rfl,rfl,rfl,rfl,rfl,rfl,rfl,rfl⟩
 m80:=rfl
 m87:=rfl
 m92:=rfl
 m99:=rfl
 m106:=rfl
 m120:=rfl
 m127:=rfl
 gNI:=rfl
 gTS:=rfl
 gOut:=⟨_,rfl⟩
 gDone:=⟨_,rfl⟩
 noB:=rfl
set_option maxRecDepth 100000 in
set_option maxHeartbeats 8000000 in
theorem law05_at(w:World)(P:Params){xs:List Int}(h:xs.length≤63):Fn ⟨PySem.Challenge.rw_km0021_05.row.prog,w,hd05.heap_1 P,8,false⟩ 156 [.ints xs] (.bool true):=
 law5_fn (C:=⟨PySem.Challenge.rw_km0021_05.row.prog,w,hd05.heap_1 P,8,false⟩) (topK5 _ w P 8) rfl (by show 7≤8;omega) ⟨_,_,rfl,rfl,rfl,rfl,rfl,rfl,rfl,rfl,rfl⟩ rfl ⟨_,_,rfl,rfl,rfl,rfl,rfl,rfl,rfl,rfl,rfl⟩ rfl ⟨_,_,rfl,rfl,rfl,rfl,rfl,rfl,rfl,rfl,rfl⟩ rfl ⟨_,_,rfl,rfl,rfl,rfl,rfl,rfl,rfl,rfl,rfl⟩ h
end Ts
open PySem PySem.W PyProof.Rows Ts
set_option tactic.hygienic true in
set_option maxRecDepth 100000 in
set_option maxHeartbeats 8000000 in
theorem PySem.Challenge.cw_km0021_05_holds : PySem.Challenge.rw_km0021_05.Holds := by
 refine hd05 ?_
 k_fill
 intro w s₀ s₁ mg mb G Y fa o pm cd doc dV kV ho hd hcd hD hmg hg args vals as hpre hlay hrd hwl hlo
 have KX:=kIn_of Y
 refine Ground.open G ?_
 intro T B D TE TW
 clear hd hcd hD ho D B TE TW G Y
 wrow_args hpre hlay hrd hwl hlo
 rename_i xs _ _ _ _ _ _ _ _ _ _ _ _ hW _ _ _ hlen _
 exact law_call (C:=⟨PySem.Challenge.rw_km0021_05.row.prog,w,hd05.heap_1 w.params,8,false⟩) (law05_at w w.params (xs:=xs) (by omega)) (room_caller _ (show 9≤12 by omega)) T KX rfl hmg rfl hW (fun ω=>rfl) (law_post _ _) hg
