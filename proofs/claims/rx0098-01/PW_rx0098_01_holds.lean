import PyProof.Rows.All
import Wide.All
import OpenK.AllK
import Wide.FinOn
import PySem.Challenge.RW_rx0098_01
open PySem PySem.W PyProof.Rows
set_option Elab.async false
noncomputable section
set_option tactic.hygienic false
set_option genSizeOf false
set_option linter.all false
local macro_rules | `(tactic| erw [$r:term]) => `(tactic| (refine $r; try with_reducible rfl))
namespace Mine.Internal
@[elab_as_elim] theorem rwl {α:Sort u} {motive:α->Prop} {a b:α} (h:a=b) (k:motive b):motive a:=h▸k
@[elab_as_elim] theorem rwr {α:Sort u} {motive:α->Prop} {a b:α} (h:b=a) (k:motive b):motive a:=h▸k
section
noncomputable def ZtO(stp:SharedT->Thread->Option (SharedT×Thread)):Nat->SharedT->Thread->Option SharedT
 | 0,_,_=>none
 | n+1,s,t=>match t.atExitBegin with
  | some []=>some s
  | some (_::_)=>none
  | none=>match stp s t with
   | some (s',t')=>ZtO stp n s' t'
   | none=>none
theorem Zl2{tb:String->Option Builtin}{p:Program}{w:World}:∀{n:Nat} {s s':SharedT} {t:Thread},ZtO (stepT (denote tb) p w) n s t=some s'->importEnds tb p w n s.abs t=some s'.abs
 | 0,_,_,_,h=>by cases h
 | n+1,s,s',t,h=>by
  unfold ZtO at h
  unfold importEnds
  cases he:t.atExitBegin with
  | some x=>
   rw[he] at h
   cases x with
   | nil=>cases h;rfl
   | cons=>cases h
  | none=>
   rw[he] at h
   cases hs:stepT (denote tb) p w s t with
   | none=>rw[hs] at h;cases h
   | some r=>obtain⟨s₂,t₂⟩:=r;rw[hs] at h;dsimp only;erw[rwl (stepT_spec hs ..) ?_];exact Zl2 h
noncomputable def ZtQ(stp:SharedT->Thread->Option (SharedT×Thread))(n₀:Nat)(ann:Option Value):Nat->SharedT->Thread->Option SharedT
 | 0,_,_=>none
 | n+1,s,t=>match through t with
  | true=>some s
  | false=>match stepOk n₀ ann t with
   | false=>none
   | true=>match stp s t with
    | some (s',t')=>ZtQ stp n₀ ann n s' t'
    | none=>none
theorem ZlN{tb:String->Option Builtin}{p:Program}{w:World}{n₀:Nat}{ann:Option Value}:∀{n:Nat} {s s':SharedT} {t:Thread},ZtQ (stepT (denote tb) p w) n₀ ann n s t=some s'->topRun tb p w n₀ ann n s.abs t=some s'.abs
 | 0,_,_,_,h=>by cases h
 | n+1,s,s',t,h=>by
  unfold ZtQ at h
  unfold topRun
  cases he:through t with
  | true=>rw[he] at h;cases h;rfl
  | false=>
   rw[he] at h
   cases hk:stepOk n₀ ann t with
   | false=>rw[hk] at h;cases h
   | true=>
    rw[hk] at h
    cases hs:stepT (denote tb) p w s t with
    | none=>rw[hs] at h;cases h
    | some r=>obtain⟨s₂,t₂⟩:=r;rw[hs] at h;dsimp only;erw[rwl (stepT_spec hs ..) ?_];exact ZlN h
noncomputable def mkT:List Obj->Nat->BT->Option BT
 | [],_,T=>some T
 | o::r,n,T=>match ((T.ins n o).get n).isSome with
  | true=>mkT r (n+1) (T.ins n o)
  | false=>none
theorem Zpc{life:Life}:∀{l:List Obj} {n:Nat} {T T':BT} {pre:List Obj},absHeap T n life=⟨pre.toArray,life⟩->mkT l n T=some T'->absHeap T' (n+l.length) life=⟨(pre++l).toArray,life⟩
 | [],n,T,T',pre,e,h=>by cases h;simpa using e
 | o::r,n,T,T',pre,e,h=>by
  unfold mkT at h
  cases q:((T.ins n o).get n).isSome with
  | false=>rw[q] at h;cases h
  | true=>
   rw[q] at h
   have e2:absHeap (T.ins n o) (n+1) life=⟨(pre++[o]).toArray,life⟩:=by
    erw[rwl (absHeap_ins q ..) (rwl (e ..) ?_)]
    simp[Heap.push]
   have:=Zpc e2 h
   rw[List.append_assoc] at this
   rw[List.length_cons,show n+(r.length+1)=n+1+r.length by lia]
   exact this
noncomputable def ZoP(os:OsState):SharedT:=⟨.nil,0,{},#[],{},1,os⟩
theorem Zky(os:OsState):(ZoP os).abs={ os:=os }:=by kernel_rfl
noncomputable def ZjU(stp:Program->World->SharedT->Thread->Option (SharedT×Thread))(st:Shared×Thread)(q p:Program)(w:World)(N:Nat):Option (Shared×SharedT):=
 (ZtO (stp q w) N (ZoP st.1.os) st.2).bind λs=>(fenceModules? p s.abs).bind λs₀=>match s₀.heap.isNs mainGlobals&&s₀.gens.size==0 with
  | true=>(mkT s₀.heap.objs.toList 0 .nil).bind λT=>(ZtQ (stp p w) s₀.heap.objs.size (s₀.heap.nsMap mainGlobals "__annotations__") N ⟨T,s₀.heap.objs.toList.length,s₀.heap.life,s₀.gens,s₀.drawn,s₀.toks,s₀.os⟩ (topStub p)).map λs=>(s₀,s)
  | false=>none
theorem Zlk{p:Program}{w:World}{N:Nat}{s₀:Shared}{s:SharedT}(h:ZjU (stepT (denote treeTable)) (start (opening p)) (opening p) p w N=some (s₀,s)) :
  fencedOpening treeTable p w N=some s₀∧(s₀.heap.isNs mainGlobals&&s₀.gens.size==0)=true∧
  topRun treeTable p w s₀.heap.objs.size (s₀.heap.nsMap mainGlobals "__annotations__") N s₀ (topStub p)=some s.abs:=by
 unfold ZjU at h
 obtain⟨s1,h1,h⟩:=Option.bind_eq_some_iff.mp h
 obtain⟨s2,h2,h⟩:=Option.bind_eq_some_iff.mp h
 have e1:=Zl2 h1
 rw[Zky] at e1
 cases hc:(s2.heap.isNs mainGlobals&&s2.gens.size==0) with
 | false=>rw[hc] at h;cases h
 | true=>
  rw[hc] at h
  obtain⟨T,h3,h⟩:=Option.bind_eq_some_iff.mp h
  obtain⟨s3,h4,h5⟩:=Option.map_eq_some_iff.mp h
  cases h5
  have e4:=ZlN h4
  have em:=Zpc (life:=s₀.heap.life) (pre:=[]) (by kernel_rfl) h3
  rw[Nat.zero_add,List.nil_append] at em
  obtain⟨⟨⟨os⟩,life⟩,gens,drawn,toks,ost⟩:=s₀
  unfold SharedT.abs at e4
  dsimp only at e4 em
  rw[em] at e4
  refine⟨?_,hc,e4⟩
  unfold fencedOpening
  have e1':importEnds treeTable (opening p) w N (start (opening p)).1 (start (opening p)).2=some s1.abs:=e1
  erw[rwl (e1' ..) ?_]
  exact h2
theorem ZpW{p q:Program}{loose:List Str}{α:Type}{Yf:Shared->α}{Ya:α}{N:Nat}
  (h:∀w:World,(ZjU (stepT (denote treeTable)) (start (opening p)) (opening p) p w N).map (λr=>
   (staticsOk (importedModules p.main.body) r.1.heap r.2.abs.heap&&namesBound p r.2.abs.heap&&gensDone r.2.abs&&laidKept r.1.heap r.2.abs.heap,openSeen q loose (importedModules p.main.body) (λ_=>true) true r.2.abs,Yf r.2.abs)) =
   some (true,openGood q loose,Ya)):LeftO p q loose (λ_=>true) Yf (λ_=>Ya) N true:=λw=>by
 obtain⟨⟨s₀,s⟩,h1,h2⟩:=Option.map_eq_some_iff.mp (h w)
 obtain⟨a1,a2,a3⟩:=Zlk h1
 obtain⟨b1,b2,b3⟩:_∧_∧_:=by simpa only[Prod.mk.injEq] using h2
 unfold openEnds
 erw[rwl (a1 ..) ?_]
 show(topFrom treeTable p w N s₀).map _=_
 unfold topFrom
 erw[rwl (a2 ..) ?_]
 dsimp only
 erw[rwl (a3 ..) ?_]
 dsimp only[Option.bind_some]
 erw[rwl (b1 ..) ?_]
 dsimp only[Option.map_some]
 erw[rwl (b2 ..) (rwl (b3 ..) ?_)]
end
section
set_option backward.match.sparseCases false
theorem nf{C:Prop}(h:false=true):C:=Bool.noConfusion h
theorem ZhA{i n:Nat}(h:i < n):n - i=n - (i+1)+1:=(Nat.succ_pred_eq_of_pos (Nat.sub_pos_of_lt h)).symm
theorem Zs2{i n:Nat}(h:i < n):n - 1 - (n - (i+1))=i:=by erw[rwl (Nat.add_comm i 1 ..) (rwl (Nat.sub_add_eq ..) (rwl (Nat.sub_sub_self (Nat.le_sub_one_of_lt h) ..) ?_))]
theorem Zsv{n p i k:Nat}(h:n - p<=k+1)(hp:p<=i):n - (i+1)<=k:=Nat.pred_le_pred (Nat.le_trans (Nat.sub_le_sub_left hp _) h)
theorem ZvO{t j k:Nat}(h:t<=j∧j < t+(k - t)):j < k:=
 (Nat.le_total t k).elim (λq=>Nat.lt_of_lt_of_eq h.2 (Nat.add_sub_of_le q)) λq=>absurd (Nat.lt_of_lt_of_eq h.2 (by erw[rwl (Nat.sub_eq_zero_of_le q ..) ?_];rfl)) (Nat.not_lt.mpr h.1)
theorem ZuB{S p i m:Nat}(hs:S<=2 * p)(h:p<=i):S+min (i - p) m<=p+i:=
 Nat.le_trans (Nat.add_le_add hs (Nat.min_le_left _ _)) (Nat.le_of_eq (by erw[rwl (Nat.two_mul ..) (rwl (Nat.add_assoc ..) (rwl (Nat.add_sub_of_le h ..) ?_))]))
theorem Zt0{lo i y hi:Nat}(h:lo<=i)(h2:i+y<=hi):lo<=i∧i < lo+(hi+1 - lo):=
 have k:=Nat.lt_succ_of_le (Nat.le_trans (Nat.le_add_right i y) h2)
 ⟨h,Nat.lt_of_lt_of_le k (Nat.le_of_eq (Nat.add_sub_of_le (Nat.le_of_lt (Nat.lt_of_le_of_lt h k))).symm)⟩
theorem ZpE{i p a b:Nat}(h:i<=p):p < i+(b+1 - a - i)↔p+a<=b:=by lia
theorem nn{α:Type}{x:α}{C:Prop}(h:(none:Option α)=some x):C:=absurd h (λe=>nf (show false=true from congrArg Option.isSome e))
theorem Zbg{a b:Bool}{G:Prop}(h:(a&&b)=true)(k:a=true->b=true->G):G:=Bool.rec (motive:=λx=>(x&&b)=true->(x=true->b=true->G)->G) (λh _=>nf h) (λh k=>k rfl h) a h k
theorem Zd3{a b c:Bool}{G:Prop}(h:(a&&b&&c)=true)(k:a=true->b=true->c=true->G):G:=Zbg h λh z=>Zbg h λx y=>k x y z
theorem ZjH{a b c d:Bool}{G:Prop}(h:(a&&b&&c&&d)=true)(k:a=true->b=true->c=true->d=true->G):G:=Zbg h λh z=>Zd3 h λx y w=>k x y w z
theorem Zm4{a b c d e:Bool}{G:Prop}(h:(a&&b&&c&&d&&e)=true)(k:a=true->b=true->c=true->d=true->e=true->G):G:=Zbg h λh z=>ZjH h λx y w v=>k x y w v z
theorem Zup{a b c d e f:Bool}{G:Prop}(h:(a&&b&&c&&d&&e&&f)=true)(k:a=true->b=true->c=true->d=true->e=true->f=true->G):G:=Zbg h λh z=>Zm4 h λx y w v u=>k x y w v u z
theorem ZtV{a b c d e f g:Bool}{G:Prop}(h:(a&&b&&c&&d&&e&&f&&g)=true)(k:a=true->b=true->c=true->d=true->e=true->f=true->g=true->G):G:=Zbg h λh z=>Zup h λx y w v u s=>k x y w v u s z
theorem Zvg{a b c d e f g i:Bool}{G:Prop}(h:(a&&b&&c&&d&&e&&f&&g&&i)=true)(k:a=true->b=true->c=true->d=true->e=true->f=true->g=true->i=true->G):G:=Zbg h λh z=>ZtV h λx y w v u s r=>k x y w v u s r z
theorem ZuQ{a b c d e f g i j:Bool}{G:Prop}(h:(a&&b&&c&&d&&e&&f&&g&&i&&j)=true)(k:a=true->b=true->c=true->d=true->e=true->f=true->g=true->i=true->j=true->G):G:=Zbg h λh z=>Zvg h λx y w v u s r q=>k x y w v u s r q z
theorem Zbv{a b:Bool}(h:(a&&b)=true):a=true:=Zbg h λx _=>x
theorem Za7{a b:Bool}(h:(a&&b)=true):b=true:=Zbg h λ_ y=>y
theorem or2{a b:Bool}{G:Prop}(h:(a||b)=true)(k:a=true->G)(l:b=true->G):G:=(Bool.or_eq_true_iff.mp h).elim k l
theorem ZfN{a:Bool}(h:(!a)=true):a=false:=by
 cases a with
 | true=>cases h
 | false=>rfl
theorem Zac{α β:Type}{a:Option α}{f:α->Option β}{b:β}{G:Prop}(h:a.bind f=some b)(k:∀x,a=some x->f x=some b->G):G:=by
 cases a with
 | none=>exact nn h
 | some x=>exact k x rfl h
@[elab_as_elim] theorem Zdx{α β:Type}{a:Option α}{f:α->β}{b:β}{G:β->Prop}(h:a.map f=some b)(k:∀x,a=some x->G (f x)):G b:=by
 cases a with
 | none=>exact nn h
 | some x=>exact Option.some.inj h▸k x rfl
theorem Zdy{α β:Type}{a:Option α}{f:α->β}{b:β}{G:Prop}(h:a.map f=some b)(k:∀x,a=some x->f x=b->G):G:=by
 cases a with
 | none=>exact nn h
 | some x=>exact k x rfl (Option.some.inj h)
theorem Zag{α β:Type}{a:Option α}{f:α->Option β}{x:α}{r:Option β}(h:a=some x)(k:f x=r):a.bind f=r:=h▸k
theorem ZgR{α β:Type}{a:Option α}{f:α->β}{x:α}{r:Option β}(h:a=some x)(k:some (f x)=r):a.map f=r:=h▸k
theorem ifS{c:Prop}[Decidable c]{α:Type}{a:Option α}{x:α}{G:Prop}(h:(if c then a else none)=some x)(k:c->a=some x->G):G:=by
 by_cases q:c
 ·exact k q ((if_pos q).symm.trans h)
 ·exact nn ((if_neg q).symm.trans h)
@[elab_as_elim] theorem eqb{α:Type}[BEq α][LawfulBEq α]{a b:α}{G:α->Prop}(h:(a==b)=true)(k:G b):G a:=eq_of_beq h▸k
@[elab_as_elim] theorem eqs{α:Type}{a b:α}{G:α->Prop}(h:some a=some b)(k:G a):G b:=Option.some.inj h▸k
theorem Zbu{c:Prop}[Decidable c]{f:c->Bool}{G:Prop}(h:(if h:c then f h else false)=true)(k:∀h,f h=true->G):G:=by
 by_cases q:c
 ·exact k q ((dif_pos q).symm.trans h)
 ·exact nf ((dif_neg q).symm.trans h)
noncomputable def Zm1(h:Heap)(a:Addr)(items:Array Value):Prop:=∃n,h.get? a=some { cls:=.type "tuple",data:=.seq items n }
theorem Zm1.isTuple{h:Heap}{a:Addr}{items:Array Value}(x:Zm1 h a items):h.IsTuple a items:=let ⟨n,e⟩:=x;⟨_,e,rfl,n,rfl⟩
inductive D where
 | none
 | bool (b:Bool)
 | int (i:Int)
 | str (l:List Nat)
 | tuple (l:List D)
 | list (l:List D)
 | obj (a:Addr)
 deriving Inhabited
noncomputable def NT(o:Obj):Prop:=∀ps,o≠tabObj ps
theorem NT.ZaD{o:Obj}{T:String}(h:o.cls=.type T):NT o:=λps e=>by rw[e] at h;cases h
theorem NT.Zeo{o:Obj}{es:Array DictEntry}{ep:Nat}(h:o.data=.dict es ep):NT o:=λps e=>by rw[e] at h;cases h
theorem NT.ZgP{o:Obj}{v:Option Value}(h:o.data=.cell v):NT o:=λps e=>by rw[e] at h;cases h
mutual
inductive Rd (P:Addr->Prop) (h:Heap):Value->D->Prop
 | none:Rd P h .none .none
 | bool (b:Bool):Rd P h (.bool b) (.bool b)
 | int (i:Int) (t:Tok):Rd P h (.int i t) (.int i)
 | str (l:List Nat) (t:Tok):l.length<=sizeLine->Rd P h (.str ⟨l.toArray⟩ t) (.str l)
 | tuple {a:Addr} {vs:List Value} {ds:List D}:P a->Zm1 h a vs.toArray->Zad P h vs ds->ds.length<=sizeLine->Rd P h (.ref a) (.tuple ds)
 | list {a:Addr} {vs:List Value} {ds:List D}:P a->h.PlainList a vs.toArray->Zad P h vs ds->ds.length<=sizeLine->Rd P h (.ref a) (.list ds)
 | obj {a:Addr} {o:Obj}:P a->h.get? a=some o->NT o->Rd P h (.ref a) (.obj a)
inductive Zad (P:Addr->Prop) (h:Heap):List Value->List D->Prop
 | nil:Zad P h [] []
 | cons {v:Value} {vs:List Value} {d:D} {ds:List D}:Rd P h v d->Zad P h vs ds->Zad P h (v::vs) (d::ds)
end
section
variable {P P':Addr->Prop}{h h':Heap}
theorem Rd.mono(hP:∀a o,NT o->h.get? a=some o->P a->P' a∧h'.get? a=some o){v:Value}{d:D}(r:Rd P h v d):Rd P' h' v d:=by
 refine Rd.rec (motive_1:=λv d _=>Rd P' h' v d) (motive_2:=λvs ds _=>Zad P' h' vs ds) .none .bool .int .str ?_ ?_ ?_ .nil ?_ r
 ·intro a vs ds p e _ l ih
  obtain⟨n,e⟩:=e
  have:=hP _ _ (.ZaD rfl) e p
  exact .tuple this.1 ⟨n,this.2⟩ ih l
 ·intro a vs ds p e _ l ih
  obtain⟨n,e⟩:=e
  have:=hP _ _ (.ZaD rfl) e p
  exact .list this.1 ⟨n,this.2⟩ ih l
 ·intro a o p e n;exact .obj (hP _ _ n e p).1 (hP _ _ n e p).2 n
 ·intro v vs d ds _ _ i1 i2;exact .cons i1 i2
theorem Zad.ind{m:List Value->List D->Prop}(hn:m [] [])(hc:∀v vs d ds,Rd P h v d->Zad P h vs ds->m vs ds->m (v::vs) (d::ds)){vs:List Value}{ds:List D}(r:Zad P h vs ds):m vs ds:=
 Zad.rec (motive_1:=λ_ _ _=>True) (motive_2:=λvs ds _=>m vs ds) trivial (λ_=>trivial) (λ_ _=>trivial) (λ_ _ _=>trivial) (λ_ _ _ _ _=>trivial) (λ_ _ _ _ _=>trivial) (λ_ _ _=>trivial) hn (λa b _ i=>hc _ _ _ _ a b i) r
theorem Zad.mono(hP:∀a o,NT o->h.get? a=some o->P a->P' a∧h'.get? a=some o){vs:List Value}{ds:List D}(r:Zad P h vs ds):Zad P' h' vs ds:=
 r.ind .nil λ_ _ _ _ a _ i=>.cons (a.mono hP) i
theorem Zad.length{vs:List Value}{ds:List D}(r:Zad P h vs ds):vs.length=ds.length:=r.ind (m:=λvs ds=>vs.length=ds.length) rfl λ_ _ _ _ _ _ i=>congrArg Nat.succ i
theorem Zad.get{vs:List Value}{ds:List D}(r:Zad P h vs ds):∀{i:Nat} {d:D},ds[i]? = some d->∃v,vs[i]? = some v∧Rd P h v d:=
 r.ind (m:=λvs ds=>∀{i:Nat} {d:D},ds[i]? = some d->∃v,vs[i]? = some v∧Rd P h v d) (λe=>nn e) λv _ _ _ a _ ih i _ e=>match i with
  | 0=>⟨v,rfl,Option.some.inj e▸a⟩
  | _+1=>ih e
theorem Zad.Zu0{vs:List Value}{ds:List D}(r:Zad P h vs ds):∀{i:Nat} {v:Value},vs[i]? = some v->∃d,ds[i]? = some d∧Rd P h v d:=
 r.ind (m:=λvs ds=>∀{i:Nat} {v:Value},vs[i]? = some v->∃d,ds[i]? = some d∧Rd P h v d) (λe=>nn e) λ_ _ d _ a _ ih i _ e=>match i with
  | 0=>⟨d,rfl,Option.some.inj e▸a⟩
  | _+1=>ih e
theorem Zad.append{vs vs':List Value}{ds ds':List D}(r:Zad P h vs ds)(q:Zad P h vs' ds'):Zad P h (vs++vs') (ds++ds'):=r.ind (m:=λvs ds=>Zad P h (vs++vs') (ds++ds')) q λ_ _ _ _ a _ i=>.cons a i
theorem Zad.take{vs:List Value}{ds:List D}(r:Zad P h vs ds):∀k:Nat,Zad P h (vs.take k) (ds.take k):=
 r.ind (m:=λvs ds=>∀k:Nat,Zad P h (vs.take k) (ds.take k)) (λk=>match k with | 0=>.nil | _+1=>.nil) λ_ _ _ _ a _ i k=>match k with
  | 0=>.nil
  | k+1=>.cons a (i k)
theorem Zad.drop{vs:List Value}{ds:List D}(r:Zad P h vs ds):∀k:Nat,Zad P h (vs.drop k) (ds.drop k):=
 r.ind (m:=λvs ds=>∀k:Nat,Zad P h (vs.drop k) (ds.drop k)) (λk=>match k with | 0=>.nil | _+1=>.nil) λ_ _ _ _ a b i k=>match k with
  | 0=>.cons a b
  | k+1=>i k
theorem Zad.snoc{vs:List Value}{ds:List D}{v:Value}{d:D}(r:Zad P h vs ds)(x:Rd P h v d):Zad P h (vs++[v]) (ds++[d]):=r.append (.cons x .nil)
theorem Zad.set{vs:List Value}{ds:List D}(r:Zad P h vs ds)(i:Nat){v:Value}{d:D}(x:Rd P h v d):Zad P h (vs.set i v) (ds.set i d):=
 r.ind (m:=λvs ds=>∀i,Zad P h (vs.set i v) (ds.set i d)) (λ_=>.nil) (λ_ _ _ _ a b ih i=>match i with
  | 0=>.cons x b
  | i+1=>.cons a (ih i)) i
theorem Zad.eraseIdx{vs:List Value}{ds:List D}(r:Zad P h vs ds):∀(i:Nat),Zad P h (vs.eraseIdx i) (ds.eraseIdx i):=
 r.ind (m:=λvs ds=>∀i,Zad P h (vs.eraseIdx i) (ds.eraseIdx i)) (λ_=>.nil) λ_ _ _ _ a b ih i=>match i with
  | 0=>b
  | i+1=>.cons a (ih i)
theorem Zad.replicate{v:Value}{d:D}(x:Rd P h v d):∀n:Nat,Zad P h (List.replicate n v) (List.replicate n d)
 | 0=>.nil
 | n+1=>.cons x (Zad.replicate x n)
noncomputable def Rd.View(P:Addr->Prop)(h:Heap)(v:Value):D->Prop
 | .none=>v=.none
 | .bool b=>v=.bool b
 | .int i=>∃t,v=.int i t
 | .str l=>l.length<=sizeLine∧∃t,v=.str ⟨l.toArray⟩ t
 | .tuple ds=>∃a vs,v=.ref a∧P a∧Zm1 h a vs.toArray∧Zad P h vs ds∧ds.length<=sizeLine
 | .list ds=>∃a vs,v=.ref a∧P a∧h.PlainList a vs.toArray∧Zad P h vs ds∧ds.length<=sizeLine
 | .obj a=>v=.ref a
theorem Rd.view{v:Value}{d:D}(r:Rd P h v d):Rd.View P h v d:=by
 cases r with
 | none=>exact rfl
 | bool=>exact rfl
 | int _ t=>exact⟨t,rfl⟩
 | str _ t l=>exact⟨l,t,rfl⟩
 | tuple p e r l=>exact⟨_,_,rfl,p,e,r,l⟩
 | list p e r l=>exact⟨_,_,rfl,p,e,r,l⟩
 | obj=>exact rfl
theorem Rd.Zbq{v:Value}{ds:List D}(r:Rd P h v (.list ds)):∃a vs,v=.ref a∧P a∧h.PlainList a vs.toArray∧Zad P h vs ds∧ds.length<=sizeLine:=r.view
theorem Rd.Zh1{v:Value}{ds:List D}(r:Rd P h v (.tuple ds)):∃a vs,v=.ref a∧P a∧Zm1 h a vs.toArray∧Zad P h vs ds∧ds.length<=sizeLine:=r.view
theorem Rd.str_inv{v:Value}{l:List Nat}(r:Rd P h v (.str l)):l.length<=sizeLine∧∃t,v=.str ⟨l.toArray⟩ t:=r.view
theorem Rd.int_inv{v:Value}{i:Int}(r:Rd P h v (.int i)):∃t,v=.int i t:=r.view
theorem Rd.bool_inv{v:Value}{b:Bool}(r:Rd P h v (.bool b)):v=.bool b:=r.view
theorem Rd.ZiX{v:Value}{a:Addr}(r:Rd P h v (.obj a)):v=.ref a:=r.view
theorem Rd.none_inv{v:Value}(r:Rd P h v .none):v=.none:=r.view
@[elab_as_elim] theorem Rd.Za0{v:Value}{i:Int}{G:Value->Prop}(r:Rd P h v (.int i))(k:∀t,G (.int i t)):G v:=let ⟨t,e⟩:=r.int_inv;e▸k t
@[elab_as_elim] theorem Rd.Zba{v:Value}{l:List Nat}{G:Value->Prop}(r:Rd P h v (.str l))(k:∀t,l.length<=sizeLine->G (.str ⟨l.toArray⟩ t)):G v:=let ⟨x,t,e⟩:=r.str_inv;e▸k t x
@[elab_as_elim] theorem Rd.ZbL{v:Value}{ds:List D}{G:Value->Prop}(r:Rd P h v (.list ds))(k:∀a vs,P a->h.PlainList a vs.toArray->Zad P h vs ds->ds.length<=sizeLine->G (.ref a)):G v:=let ⟨a,vs,e,p,x,y,z⟩:=r.Zbq;e▸k a vs p x y z
@[elab_as_elim] theorem Rd.Zc1{v:Value}{ds:List D}{G:Value->Prop}(r:Rd P h v (.tuple ds))(k:∀a vs,P a->Zm1 h a vs.toArray->Zad P h vs ds->ds.length<=sizeLine->G (.ref a)):G v:=let ⟨a,vs,e,p,x,y,z⟩:=r.Zh1;e▸k a vs p x y z
noncomputable def Zad.View(P:Addr->Prop)(h:Heap)(vs:List Value):List D->Prop
 | []=>vs=[]
 | d::ds=>∃v r,vs=v::r∧Rd P h v d∧Zad P h r ds
theorem Zad.view{vs:List Value}{ds:List D}(r:Zad P h vs ds):Zad.View P h vs ds:=r.ind (m:=Zad.View P h) rfl λv vs _ _ a b _=>⟨v,vs,rfl,a,b⟩
theorem Zad.nil_inv{vs:List Value}(r:Zad P h vs []):vs=[]:=r.view
theorem Zad.cons_inv{vs:List Value}{d:D}{ds:List D}(r:Zad P h vs (d::ds)):∃v r,vs=v::r∧Rd P h v d∧Zad P h r ds:=r.view
@[elab_as_elim] theorem Zad.Zd0{vs:List Value}{d:D}{ds:List D}{G:List Value->Prop}(r:Zad P h vs (d::ds))(k:∀v r,Rd P h v d->Zad P h r ds->G (v::r)):G vs:=let ⟨v,r,e,a,b⟩:=r.cons_inv;e▸k v r a b
end
inductive Rd0 (P:Addr->Prop) (h:Heap):Value->D->Prop
 | of {v:Value} {d:D}:Rd P h v d->Rd0 P h v d
 | own {a:Addr} {vs:List Value} {ds:List D}:h.PlainList a vs.toArray->Zad P h vs ds->ds.length<=sizeLine->Rd0 P h (.ref a) (.list ds)
section
variable {P P':Addr->Prop}{h h':Heap}{v:Value}
noncomputable def Rd0.View(P:Addr->Prop)(h:Heap)(v:Value)(d:D):Prop:=match d with
 | .list ds=>∃a vs,v=.ref a∧h.PlainList a vs.toArray∧Zad P h vs ds∧ds.length<=sizeLine
 | d=>Rd P h v d
theorem Rd0.view{d:D}(r:Rd0 P h v d):Rd0.View P h v d:=by
 cases r with
 | of r=>
  cases d with
  | list=>obtain⟨a,vs,e,_,x⟩:=r.Zbq;exact⟨a,vs,e,x⟩
  | _=>exact r
 | own e r l=>exact⟨_,_,rfl,e,r,l⟩
theorem Rd0.Zbq{ds:List D}(r:Rd0 P h v (.list ds)):∃a vs,v=.ref a∧h.PlainList a vs.toArray∧Zad P h vs ds∧ds.length<=sizeLine:=r.view
theorem Rd0.str{l:List Nat}(r:Rd0 P h v (.str l)):Rd P h v (.str l):=r.view
theorem Rd0.int{i:Int}(r:Rd0 P h v (.int i)):Rd P h v (.int i):=r.view
theorem Rd0.str_inv{l:List Nat}(r:Rd0 P h v (.str l)):l.length<=sizeLine∧∃t,v=.str ⟨l.toArray⟩ t:=r.str.view
theorem Rd0.int_inv{i:Int}(r:Rd0 P h v (.int i)):∃t,v=.int i t:=r.int.view
theorem Rd0.bool{b:Bool}(r:Rd0 P h v (.bool b)):Rd P h v (.bool b):=r.view
theorem Rd0.bool_inv{b:Bool}(r:Rd0 P h v (.bool b)):v=.bool b:=r.bool.view
theorem Rd0.ZiX{a:Addr}(r:Rd0 P h v (.obj a)):v=.ref a:=Rd.view (show Rd P h v (.obj a) from r.view)
theorem Rd0.none_inv(r:Rd0 P h v .none):v=.none:=Rd.view (show Rd P h v .none from r.view)
theorem Rd0.tup{ds:List D}(r:Rd0 P h v (.tuple ds)):Rd P h v (.tuple ds):=r.view
theorem Rd0.Zh1{ds:List D}(r:Rd0 P h v (.tuple ds)):∃a vs,v=.ref a∧P a∧Zm1 h a vs.toArray∧Zad P h vs ds∧ds.length<=sizeLine:=r.tup.view
@[elab_as_elim] theorem Rd0.Za0{i:Int}{G:Value->Prop}(r:Rd0 P h v (.int i))(k:∀t,G (.int i t)):G v:=r.int.Za0 k
@[elab_as_elim] theorem Rd0.Zba{l:List Nat}{G:Value->Prop}(r:Rd0 P h v (.str l))(k:∀t,l.length<=sizeLine->G (.str ⟨l.toArray⟩ t)):G v:=r.str.Zba k
@[elab_as_elim] theorem Rd0.ZbL{ds:List D}{G:Value->Prop}(r:Rd0 P h v (.list ds))(k:∀a vs,h.PlainList a vs.toArray->Zad P h vs ds->ds.length<=sizeLine->G (.ref a)):G v:=let ⟨a,vs,e,x,y,z⟩:=r.Zbq;e▸k a vs x y z
@[elab_as_elim] theorem Rd0.Zc1{ds:List D}{G:Value->Prop}(r:Rd0 P h v (.tuple ds))(k:∀a vs,P a->Zm1 h a vs.toArray->Zad P h vs ds->ds.length<=sizeLine->G (.ref a)):G v:=r.tup.Zc1 k
@[elab_as_elim] theorem Rd0.ZmX{b:Bool}{G:Value->Prop}(r:Rd0 P h v (.bool b))(k:G (.bool b)):G v:=r.bool_inv▸k
@[elab_as_elim] theorem Rd0.ZkB{a:Addr}{G:Value->Prop}(r:Rd0 P h v (.obj a))(k:G (.ref a)):G v:=r.ZiX▸k
theorem Rd0.mono(hP:∀a o,NT o->h.get? a=some o->P a->P' a∧h'.get? a=some o)(hk:∀a o,NT o->h.get? a=some o->h'.get? a=some o){d:D}(r:Rd0 P h v d):Rd0 P' h' v d:=by
 cases r with
 | of r=>exact .of (r.mono hP)
 | own e r l=>
  obtain⟨n,e⟩:=e
  exact .own ⟨n,hk _ _ (.ZaD rfl) e⟩ (r.mono hP) l
end
noncomputable def Kp(h h':Heap):Prop:=∀b o,NT o->h.get? b=some o->h'.get? b=some o
theorem Kp.refl(h:Heap):Kp h h:=λ_ _ _ e=>e
theorem Kp.trans{a b c:Heap}(x:Kp a b)(y:Kp b c):Kp a c:=λi o n e=>y i o n (x i o n e)
theorem Kp.of{h h':Heap}(k:∀b o,h.get? b=some o->h'.get? b=some o):Kp h h':=λb o _ e=>k b o e
theorem Kp.push(h:Heap)(o:Obj):Kp h (h.push o):=.of λ_ _ e=>Heap.get?_push_of_some _ e
theorem Kp.new{h h':Heap}{a:Addr}(n:h.get? a=none)(hs:Heap.ExtBut a h h'):Kp h h':=λb o _ e=>hs b o (λq=>by rw[q,n] at e;cases e) e
theorem Zau(h:Heap):h.get? h.objs.size=none:=by
 cases e:h.get? h.objs.size with
 | none=>rfl
 | some o=>exact absurd (Heap.lt_size e) (Nat.lt_irrefl _)
noncomputable abbrev Gw(s s':Shared):Prop:=(Kp s.heap s'.heap)∧(∀b o,s.heap.get? b=some o->∃o',s'.heap.get? b=some o')∧(s'.os=s.os)∧(AllBare s.gens->AllBare s'.gens)
theorem Gw.kp{s s':Shared}(slf:Gw s s'):Kp s.heap s'.heap:=slf.1
theorem Gw.ex{s s':Shared}(slf:Gw s s'):∀b o,s.heap.get? b=some o->∃o',s'.heap.get? b=some o':=slf.2.1
theorem Gw.os{s s':Shared}(slf:Gw s s'):s'.os=s.os:=slf.2.2.1
theorem Gw.gens{s s':Shared}(slf:Gw s s'):AllBare s.gens->AllBare s'.gens:=slf.2.2.2
theorem Gw.refl(s:Shared):Gw s s:=⟨.refl _,λ_ o e=>⟨o,e⟩,rfl,id⟩
theorem Gw.trans{a b c:Shared}(x:Gw a b)(y:Gw b c):Gw a c:=⟨x.kp.trans y.kp,λi o e=>let ⟨o',e'⟩:=x.ex i o e;y.ex i o' e',y.os.trans x.os,λg=>y.gens (x.gens g)⟩
theorem Gw.of_keep{s:Shared}{h':Heap}{tk:Tok}(k:∀b o,s.heap.get? b=some o->h'.get? b=some o):Gw s { s with heap:=h',toks:=tk }:=⟨.of k,λb o e=>⟨o,k b o e⟩,rfl,id⟩
theorem Gw.tok(s:Shared)(tk:Tok):Gw s { s with toks:=tk }:=.of_keep λ_ _ e=>e
theorem Gw.none{s s':Shared}(x:Gw s s'){b:Addr}(e:s'.heap.get? b=none):s.heap.get? b=none:=by
 cases q:s.heap.get? b with
 | none=>rfl
 | some o=>obtain⟨o',e'⟩:=x.ex b o q;rw[e] at e';cases e'
noncomputable def Pf(P:Addr->Prop)(h:Heap):Prop:=∀a,¬P a->∃o,NT o∧h.get? a=some o
theorem Pf.kp{P:Addr->Prop}{h h':Heap}(x:Pf P h)(k:Kp h h'):Pf P h':=λa n=>let ⟨o,no,e⟩:=x a n;⟨o,no,k _ _ no e⟩
theorem Pf.fresh{P:Addr->Prop}{h:Heap}(x:Pf P h){a:Addr}(e:h.get? a=none):P a:=Classical.byContradiction λn=>by
 obtain⟨o,_,e'⟩:=x a n;rw[e] at e';cases e'
theorem Rd.kp{P:Addr->Prop}{h h':Heap}{v:Value}{d:D}(r:Rd P h v d)(k:Kp h h'):Rd P h' v d:=r.mono λa o n e p=>⟨p,k a o n e⟩
theorem Zad.kp{P:Addr->Prop}{h h':Heap}{vs:List Value}{ds:List D}(r:Zad P h vs ds)(k:Kp h h'):Zad P h' vs ds:=r.mono λa o n e p=>⟨p,k a o n e⟩
theorem Rd0.kp{P:Addr->Prop}{h h':Heap}{v:Value}{d:D}(r:Rd0 P h v d)(k:Kp h h'):Rd0 P h' v d:=r.mono (λa o n e p=>⟨p,k a o n e⟩) λa o n e=>k a o n e
theorem Zkk{h h':Heap}{a:Addr}{m:Str->Option Value}(x:h.Ns a m)(k:Kp h h'):h'.Ns a m:=
 let ⟨o,es,ep,e,hd,r⟩:=x;⟨o,es,ep,k _ _ (.Zeo hd) e,hd,r⟩
theorem Zik{h h':Heap}{a:Addr}{v:Option Value}(x:h.IsCell a v)(k:Kp h h'):h'.IsCell a v:=
 let ⟨o,e,hd⟩:=x;⟨o,k _ _ (.ZgP hd) e,hd⟩
theorem Zqe{h h':Heap}{a:Addr}{its:Array Value}(x:h.IsList a its)(k:Kp h h'):h'.IsList a its:=
 let ⟨o,e,hc,r⟩:=x;⟨o,k _ _ (.ZaD hc) e,hc,r⟩
theorem Znp{h h':Heap}{a:Addr}{its:Array Value}(x:Zm1 h a its)(k:Kp h h'):Zm1 h' a its:=
 let ⟨n,e⟩:=x;⟨n,k _ _ (.ZaD rfl) e⟩
theorem Zbp{h h':Heap}{a:Addr}{its:Array Value}(x:h.PlainList a its)(k:Kp h h'):h'.PlainList a its:=
 let ⟨n,e⟩:=x;⟨n,k _ _ (.ZaD rfl) e⟩
end
section
set_option backward.match.sparseCases false
inductive Bop | add | sub | mul | fdiv | mod | pow
 deriving DecidableEq
noncomputable def Bop.op:Bop->Operator
 | .add=>.Add | .sub=>.Sub | .mul=>.Mult | .fdiv=>.FloorDiv | .mod=>.Mod | .pow=>.Pow
inductive Cop | eq | ne | lt | le | gt | ge | isin | notin | is_ | isnt
 deriving DecidableEq
noncomputable def Cop.op:Cop->CmpOp
 | .eq=>.Eq | .ne=>.NotEq | .lt=>.Lt | .le=>.LtE | .gt=>.Gt | .ge=>.GtE | .isin=>.In | .notin=>.NotIn | .is_=>.Is | .isnt=>.IsNot
inductive Bfn | len | chr | sum | list
 deriving DecidableEq
noncomputable def Bfn.name:Bfn->Str
 | .len => "len" | .chr => "chr" | .sum => "sum" | .list => "list"
set_option genSizeOf false in
set_option genSizeOfSpec false in
set_option genInjectivity false in
set_option genCtorIdx false in
inductive X where
 | const (d:D)
 | var (i:Nat)
 | tvar (i:Nat)
 | bin (op:Bop) (l r:X)
 | cmp (op:Cop) (l r:X)
 | cmp2 (o1 o2:Cop) (a b c:X)
 | band (xs:X)
 | bor (xs:X)
 | not (x:X)
 | ite (t a b:X)
 | bfn (b:Bfn) (x:X)
 | range1 (a:X)
 | range2 (a b:X)
 | range3 (a b c:X)
 | call (f:Nat) (xs:X)
 | nil
 | cons (x xs:X)
 | find2 (b y a:X)
 | find3 (b y a c:X)
 | repl (b:X) (y z:Nat) (zs:List Nat)
 | join (s x:X)
 | joing (s:X) (t:Nat) (e it:X)
 | transl (b:X)
 | resub (b:X)
 | idx (a b:X)
 | slc (a lo hi:X)
 | list (xs:X)
 | tuple (xs:X)
 | comp (fr:List Nat) (t:Nat) (e it c:X)
 | compu (fr:List Nat) (t u:Nat) (e it:X)
 | fstr (a:List Nat) (x:X) (b:List Nat)
 | newobj
 | tval (x:X)
 | tcmp (op:Cop) (l r:X)
 | tnot (x:X)
 | tand (xs:X)
 | tor (xs:X)
noncomputable def X.fz:X->Bool
 | .tvar _=>false
 | _=>true
section
variable {β:Type}
noncomputable def Zd2(f:List Nat->Option β):D->Option β
 | .str l=>f l
 | _=>none
noncomputable def intD(f:Int->Option β):D->Option β
 | .int l=>f l
 | _=>none
noncomputable def Zki(f:Bool->Option β):D->Option β
 | .bool l=>f l
 | _=>none
noncomputable def ZdR(f:List D->Option β):D->Option β
 | .list l=>f l
 | _=>none
noncomputable def Zrr(f:List D->Option β):D->Option β
 | .tuple l=>f l
 | _=>none
noncomputable def ZsZ(f:Addr->Option β):D->Option β
 | .obj l=>f l
 | _=>none
noncomputable def one{α:Type}(f:α->Option β):List α->Option β
 | [c]=>f c
 | _=>none
noncomputable def two{α:Type}(f:α->α->Option β):List α->Option β
 | [a,b]=>f a b
 | _=>none
variable {d:D}{x:β}{G:D->Prop}
@[elab_as_elim] theorem ZbG{f:List Nat->Option β}(h:Zd2 f d=some x)(k:∀l,f l=some x->G (.str l)):G d:=by cases d<;>first | exact k _ h | exact nn h
@[elab_as_elim] theorem Za2{f:Int->Option β}(h:intD f d=some x)(k:∀l,f l=some x->G (.int l)):G d:=by cases d<;>first | exact k _ h | exact nn h
@[elab_as_elim] theorem ZlU{f:Bool->Option β}(h:Zki f d=some x)(k:∀l,f l=some x->G (.bool l)):G d:=by cases d<;>first | exact k _ h | exact nn h
@[elab_as_elim] theorem Zds{f:List D->Option β}(h:ZdR f d=some x)(k:∀l,f l=some x->G (.list l)):G d:=by cases d<;>first | exact k _ h | exact nn h
@[elab_as_elim] theorem Zo0{f:List D->Option β}(h:Zrr f d=some x)(k:∀l,f l=some x->G (.tuple l)):G d:=by cases d<;>first | exact k _ h | exact nn h
@[elab_as_elim] theorem Zo6{f:Addr->Option β}(h:ZsZ f d=some x)(k:∀l,f l=some x->G (.obj l)):G d:=by cases d<;>first | exact k _ h | exact nn h
@[elab_as_elim] theorem ZnA{α:Type}{f:α->Option β}{l:List α}{G:List α->Prop}(h:one f l=some x)(k:∀c,f c=some x->G [c]):G l:=by
 cases l with
 | nil=>exact nn h
 | cons a l=>
  cases l with
  | nil=>exact k _ h
  | cons=>exact nn h
@[elab_as_elim] theorem Zt7{α:Type}{f:α->α->Option β}{l:List α}{G:List α->Prop}(h:two f l=some x)(k:∀a b,f a b=some x->G [a,b]):G l:=by
 cases l with
 | nil=>exact nn h
 | cons a l=>
  cases l with
  | nil=>exact nn h
  | cons b l=>
   cases l with
   | nil=>exact k _ _ h
   | cons=>exact nn h
end
noncomputable def okS(l:List Nat):Option D:=if l.length<=16777216 then some (.str l) else none
noncomputable def okL(l:List D):Option D:=if l.length<=16777216 then some (.list l) else none
noncomputable def ZdH(n:Nat)(i:Int):Nat:=if i < 0 then(i+n).toNat else min i.toNat n
noncomputable def slice{α:Type}(l:List α)(lo hi:Option Int):List α:=
 (l.take ((hi.map (ZdH l.length)).getD l.length)).drop ((lo.map (ZdH l.length)).getD 0)
noncomputable def idxOf(n:Nat)(i:Int):Option Nat:=if 0<=i then(if i < n then some i.toNat else none) else(if 0<=i+n then some (i+n).toNat else none)
noncomputable def ZeC(c:Nat)(l:List Nat)(lo hi:Nat):Int:=
 match ((List.range' lo (hi - lo)).find? λi=>l[i]?==some c) with
 | some i=>(i:Int)
 | none=>-1
noncomputable def Zbe(c:Nat)(z:List Nat)(l:List Nat):List Nat:=l.flatMap λx=>if x=c then z else [x]
noncomputable def strs? : List D->Option (List (List Nat))
 | []=>some []
 | d::r=>Zd2 (λl=>(strs? r).map (l::·)) d
theorem str1(d:D)(r:List D):strs? (d::r)=Zd2 (λl=>(strs? r).map (l::·)) d:=rfl
noncomputable def ZbX(sep:List Nat):List (List Nat)->List Nat
 | []=>[]
 | [x]=>x
 | x::y::r=>x++sep++ZbX sep (y::r)
theorem Zl6(sep:List Nat):ZbX sep []=[]:=rfl
theorem Zle(sep x:List Nat):ZbX sep [x]=x:=rfl
theorem Zim(sep x y:List Nat)(r:List (List Nat)):ZbX sep (x::y::r)=x++sep++ZbX sep (y::r):=rfl
noncomputable def ZdB : List D->Option (List Bool)
 | []=>some []
 | d::r=>Zki (λb=>(ZdB r).map (b::·)) d
theorem ZvI(d:D)(r:List D):ZdB (d::r)=Zki (λl=>(ZdB r).map (l::·)) d:=rfl
noncomputable def Zhj : List D->Option (List Int)
 | []=>some []
 | d::r=>intD (λb=>(Zhj r).map (b::·)) d
theorem ZvE(d:D)(r:List D):Zhj (d::r)=intD (λl=>(Zhj r).map (l::·)) d:=rfl
noncomputable def ltL:List Nat->List Nat->Bool
 | [],[]=>false
 | [],_::_=>true
 | _::_,[]=>false
 | a::r,b::q=>if a < b then true else if a=b then ltL r q else false
theorem Zt5:ltL [] []=false:=rfl
theorem Zt9(a:Nat)(r:List Nat):ltL [] (a::r)=true:=rfl
theorem ZtS(a:Nat)(r:List Nat):ltL (a::r) []=false:=rfl
theorem Zvx(a b:Nat)(r q:List Nat):ltL (a::r) (b::q)=if a < b then true else if a=b then ltL r q else false:=rfl
noncomputable def Zvq(a b:D):Option D:=match a with
 | .int a=>intD (λb=>some (.int (a+b))) b
 | .str a=>Zd2 (λb=>okS (a++b)) b
 | .list a=>ZdR (λb=>okL (a++b)) b
 | _=>none
noncomputable def bop:Bop->D->D->Option D
 | .add,a,b=>Zvq a b
 | .sub,a,b=>intD (λa=>intD (λb=>some (.int (a - b))) b) a
 | .fdiv,a,b=>intD (λa=>intD (λb=>if 0 < b∧b < 1000000000 then some (.int (a / b)) else none) b) a
 | .mod,a,b=>intD (λa=>intD (λb=>if 0 < b then some (.int (a % b)) else none) b) a
 | .pow,a,b=>intD (λa=>intD (λb=>if 0<=b∧b<=64∧0<=a∧a < 65536 then some (.int (a ^ b.toNat)) else none) b) a
 | .mul,a,b=>ZdR (one λx=>intD (λn=>if 0<=n∧n<=16777216 then okL (List.replicate n.toNat x) else none) b) a
noncomputable def Zeu : List D->Option (List (List (List Nat)))
 | []=>some []
 | d::r=>ZdR (λl=>(strs? l).bind λx=>(Zeu r).map (x::·)) d
noncomputable def ZuO(x y:List D):Option Bool:=if y.isEmpty then some x.isEmpty else(Zeu x).bind λu=>(Zeu y).bind λv=>some (u==v)
noncomputable def eqD(a b:D):Option Bool:=match a with
 | .int a=>intD (λb=>some (a==b)) b
 | .str a=>Zd2 (λb=>some (a==b)) b
 | .bool a=>Zki (λb=>some (a==b)) b
 | .list a=>ZdR (λb=>ZuO a b) b
 | _=>none
noncomputable def eqT(a b:D):Option Bool:=match a with
 | .tuple _=>Zd2 (λ_=>some false) b
 | a=>eqD a b
noncomputable def inS(y:List Nat)(b:D):Option Bool:=match b with
 | .str l=>one (λc=>some (l.contains c)) y
 | .list l=>(strs? l).map (·.contains y)
 | .tuple l=>(strs? l).map (·.contains y)
 | _=>none
noncomputable def inD(a b:D):Option Bool:=match a with
 | .str y=>inS y b
 | .bool y=>ZdR (λl=>(ZdB l).map (·.contains y)) b
 | _=>none
noncomputable def isD(a b:D):Option Bool:=match a with
 | .obj a=>ZsZ (λb=>if a=b then some true else none) b
 | .str _=>ZsZ (λ_=>some false) b
 | _=>none
noncomputable def ZsR(f:Int->Int->Bool)(g:List Nat->List Nat->Bool)(a b:D):Option Bool:=match a with
 | .int x=>intD (λy=>some (f x y)) b
 | .str x=>Zd2 (λy=>some (g x y)) b
 | _=>none
noncomputable def cop:Cop->D->D->Option Bool
 | .eq,a,b=>eqT a b
 | .ne,a,b=>(eqD a b).map (!·)
 | .lt,a,b=>ZsR (λa b=>decide (a < b)) (λa b=>ltL a b) a b
 | .le,a,b=>ZsR (λa b=>decide (a<=b)) (λa b=>!ltL b a) a b
 | .gt,a,b=>ZsR (λa b=>decide (b < a)) (λa b=>ltL b a) a b
 | .ge,a,b=>ZsR (λa b=>decide (b<=a)) (λa b=>!ltL a b) a b
 | .isin,a,b=>inD a b
 | .notin,a,b=>(inD a b).map (!·)
 | .is_,a,b=>isD a b
 | .isnt,a,b=>(isD a b).map (!·)
noncomputable def tru:D->Option Bool
 | .none=>some false
 | .bool b=>some b
 | .str l=>some (!l.isEmpty)
 | .list l=>some (!l.isEmpty)
 | _=>none
noncomputable def Zvl:D->Option D
 | .str l=>some (.int l.length)
 | .list l=>some (.int l.length)
 | _=>none
noncomputable def bfn:Bfn->D->Option D
 | .len,a=>Zvl a
 | .chr,a=>intD (λi=>if 0<=i∧i < 1114112 then some (.str [i.toNat]) else none) a
 | .sum,a=>ZdR (λl=>(Zhj l).map λx=>.int x.sum) a
 | .list,a=>Zd2 (λl=>some (.list (l.map λc=>.str [c]))) a
noncomputable def Zce(a b c:Int):List D:=
 if 0 < c then(List.range ((b - a+c - 1) / c).toNat).map λ(i:Nat)=>D.int (a+(i:Int) * c)
 else(List.range ((a - b - c - 1) / (-c)).toNat).map λ(i:Nat)=>D.int (a+(i:Int) * c)
noncomputable def Zcx(i:Int):Bool:=decide (-1000000<=i∧i<=1000000)
noncomputable def ZdN(i:Int):Bool:=decide (-1000000000<=i∧i<=1000000000)
noncomputable def Zk8(a b:D):Option D:=match a with
 | .str l=>intD (λi=>if ZdN i then(idxOf l.length i).bind λk=>l[k]?.map λc=>.str [c] else none) b
 | .list l=>intD (λi=>if ZdN i then(idxOf l.length i).bind λk=>l[k]? else none) b
 | .tuple l=>intD (λi=>if ZdN i then(idxOf l.length i).bind λk=>l[k]? else none) b
 | _=>none
noncomputable def Zjw:D->Option (Option Int)
 | .none=>some none
 | .int i=>some (some i)
 | _=>none
noncomputable def Zuz(a lo hi:D):Option D:=
 (Zjw lo).bind λlo=>(Zjw hi).bind λhi=>match a with
  | .str l=>some (.str (slice l lo hi))
  | .list l=>some (.list (slice l lo hi))
  | _=>none
noncomputable def itemsOf:D->Option (List D)
 | .list l=>if l.length<=16777216 then some l else none
 | _=>none
noncomputable def intOf:D->Option Int
 | .int i=>some i
 | _=>none
noncomputable def specials:List Nat:=[40,41,91,93,123,125,63,42,43,45,124,94,36,92,46,38,126,35,32,9,10,13,11,12]
noncomputable def Ze6(c:Nat):List Nat:=if c∈specials then [92,c] else [c]
noncomputable def Zd9(l:List Nat):List Nat:=l.flatMap λc=>if c=38∨c=126∨c=124 then [92,c] else [c]
inductive Slot where
 | un
 | fz (d:D)
 | own (ds:List D)
 | own2 (dss:List (List D))
 | app (j:Nat)
 | lam
noncomputable abbrev Sg:=List Slot
noncomputable def rd(σ:Sg)(i:Nat):Option D:=match σ[i]? with
 | some (.fz d)=>some d
 | _=>none
noncomputable def rdt(σ:Sg)(i:Nat):Option D:=match σ[i]? with
 | some (.fz d)=>some d
 | some (.own ds)=>some (.list ds)
 | _=>none
noncomputable def mask(fr:List Nat)(σ:Sg):Sg:=σ.mapIdx λi s=>if fr.contains i then s else .un
noncomputable abbrev ZaC:=Nat->List D->Option D
noncomputable def ZbQ(f:D->Option (Option D)):List D->Option (List D)
 | []=>some []
 | d::ds=>(f d).bind λr=>(ZbQ f ds).map λys=>match r with
  | some y=>y::ys
  | none=>ys
set_option smartUnfolding false in
theorem Zuv(f:D->Option (Option D))(d:D)(ds:List D):ZbQ f (d::ds)=(f d).bind λr=>(ZbQ f ds).map λys=>match r with
  | some y=>y::ys
  | none=>ys:=rfl
noncomputable def X.ZmY:X->Bool
 | .nil=>true
 | _=>false
noncomputable def X.Za8:X->Bool
 | .const .none=>true
 | _=>false
section
variable (Γ:ZaC)
mutual
noncomputable def ev(σ:Sg):X->Option D
 | .const d=>some d
 | .var i=>rd σ i
 | .tvar i=>rdt σ i
 | .bin op l r=>(ev σ l).bind λa=>(ev σ r).bind λb=>bop op a b
 | .cmp op l r=>(ev σ l).bind λa=>(ev σ r).bind λb=>(cop op a b).map .bool
 | .cmp2 o1 o2 a b c=>(ev σ a).bind λx=>(ev σ b).bind λy=>(cop o1 x y).bind λt=>
   if t then(ev σ c).bind λz=>(cop o2 y z).map .bool else some (.bool false)
 | .band xs=>ZeW σ xs
 | .bor xs=>Zk6 σ xs
 | .not x=>(ev σ x).bind λa=>(tru a).map λb=>.bool (!b)
 | .ite t a b=>(tv σ t).bind λy=>if y then ev σ a else ev σ b
 | .bfn b x=>(ev σ x).bind λa=>bfn b a
 | .range1 a=>(ev σ a).bind λa=>(intOf a).bind λa=>if Zcx a then some (.list (Zce 0 a 1)) else none
 | .range2 a b=>(ev σ a).bind λa=>(ev σ b).bind λb=>(intOf a).bind λa=>(intOf b).bind λb=>if Zcx a&&Zcx b then some (.list (Zce a b 1)) else none
 | .range3 a b c=>(ev σ a).bind λa=>(ev σ b).bind λb=>(ev σ c).bind λc=>(intOf a).bind λa=>(intOf b).bind λb=>(intOf c).bind λc=>
   if Zcx a&&Zcx b&&(c==-1) then some (.list (Zce a b c)) else none
 | .call f xs=>(evL σ xs).bind λds=>Γ f ds
 | .nil=>none
 | .cons _ _=>none
 | .find2 b y a=>(ev σ b).bind λs=>(ev σ y).bind λc=>(ev σ a).bind λi=>
   Zd2 (λl=>Zd2 (one λc=>intD (λi=>if 0<=i∧i<=1000000000 then some (.int (ZeC c l i.toNat l.length)) else none) i) c) s
 | .find3 b y a z=>(ev σ b).bind λs=>(ev σ y).bind λc=>(ev σ a).bind λi=>(ev σ z).bind λj=>
   Zd2 (λl=>Zd2 (one λc=>intD (λi=>intD (λj=>if 0<=i∧i<=1000000000∧0<=j∧j<=l.length then some (.int (ZeC c l i.toNat j.toNat)) else none) j) i) c) s
 | .repl b c z zs=>(ev σ b).bind (Zd2 λl=>if l.length<=1000000∧zs.length<=8 then some (.str (Zbe c (z::zs) l)) else none)
 | .join s x=>(ev σ s).bind λs=>(ev σ x).bind λa=>
   Zd2 (λsep=>ZdR (λl=>(strs? l).bind λls=>if ls.length<=1000000∧sep.length<=4∧(ls.map (·.length)).sum<=1000000 then some (.str (ZbX sep ls)) else none) a) s
 | .joing s t e it=>(ev σ s).bind λs=>((ev σ it).bind itemsOf).bind λds=>(ZbQ (λd=>(ev ((σ.map λ_=>Slot.un).set t (.fz d)) e).map some) ds).bind λrs=>
   Zd2 (λsep=>(strs? rs).bind λls=>if ls.length<=1000000∧sep.length<=4∧(ls.map (·.length)).sum<=1000000 then some (.str (ZbX sep ls)) else none) s
 | .transl b=>(ev σ b).bind (Zd2 (one λc=>some (.str (Ze6 c))))
 | .resub b=>(ev σ b).bind (Zd2 λl=>if l.length<=1000 then some (.str (Zd9 l)) else none)
 | .idx a b=>(ev σ a).bind λx=>(ev σ b).bind λy=>Zk8 x y
 | .slc a lo hi=>(ev σ a).bind λx=>(ev σ lo).bind λy=>(ev σ hi).bind λz=>Zuz x y z
 | .list xs=>(evL σ xs).bind okL
 | .tuple xs=>(evL σ xs).bind λds=>if ds.length<=16777216 then some (.tuple ds) else none
 | .comp fr t e it c=>((ev σ it).bind itemsOf).bind λds=>(ZbQ (λd=>
   (if c.Za8 then some true else tv ((mask fr σ).set t (.fz d)) c).bind λb=>
    if b then(ev ((mask fr σ).set t (.fz d)) e).map some else some none) ds).bind okL
 | .compu fr t u e it=>((ev σ it).bind itemsOf).bind λds=>(ZbQ (λd=>Zrr (two λa b=>(ev (((mask fr σ).set t (.fz a)).set u (.fz b)) e).map some) d) ds).bind okL
 | .fstr a x b=>(ev σ x).bind (Zd2 λl=>okS (a++l++b))
 | .newobj=>none
 | .tval _=>none
 | .tcmp _ _ _=>none
 | .tnot _=>none
 | .tand _=>none
 | .tor _=>none
noncomputable def evL(σ:Sg):X->Option (List D)
 | .nil=>some []
 | .cons x xs=>(ev σ x).bind λa=>(evL σ xs).map (a::·)
 | _=>none
noncomputable def ZeW(σ:Sg):X->Option D
 | .cons x xs=>(ev σ x).bind λa=>if xs.ZmY then some a else(tru a).bind λb=>if b then ZeW σ xs else some a
 | _=>none
noncomputable def Zk6(σ:Sg):X->Option D
 | .cons x xs=>(ev σ x).bind λa=>if xs.ZmY then some a else(tru a).bind λb=>if b then some a else Zk6 σ xs
 | _=>none
noncomputable def tv(σ:Sg):X->Option Bool
 | .tval x=>(ev σ x).bind tru
 | .tcmp op l r=>(ev σ l).bind λa=>(ev σ r).bind λb=>cop op a b
 | .tnot x=>(tv σ x).map (!·)
 | .tand xs=>Zkf σ xs
 | .tor xs=>Zrz σ xs
 | _=>none
noncomputable def Zkf(σ:Sg):X->Option Bool
 | .nil=>some true
 | .cons x xs=>(tv σ x).bind λb=>if b then Zkf σ xs else some false
 | _=>none
noncomputable def Zrz(σ:Sg):X->Option Bool
 | .nil=>some false
 | .cons x xs=>(tv σ x).bind λb=>if b then some true else Zrz σ xs
 | _=>none
end
end
end
section
set_option backward.match.sparseCases false
noncomputable def ZrV(f:BoolOp->List Expr->Pos->Bool)(e:Expr):Bool:=if h:e.ctorIdx=0 then Expr.BoolOp.elim (motive_1:=λ_=>Bool) e h f else false
@[elab_as_elim] theorem ZpR{f:BoolOp->List Expr->Pos->Bool}{e:Expr}{G:Expr->Prop}(h:ZrV f e=true)(k:∀x0 x1 x2,f x0 x1 x2=true->G (.BoolOp x0 x1 x2)):G e:=
 Zbu h λi=>Expr.BoolOp.elim (motive_1:=λe=>∀i:e.ctorIdx=0,Expr.BoolOp.elim (motive_1:=λ_=>Bool) e i f=true->G e) e i (λx0 x1 x2 _=>k x0 x1 x2) i
noncomputable def Zrt(f:Expr->Operator->Expr->Pos->Bool)(e:Expr):Bool:=if h:e.ctorIdx=2 then Expr.BinOp.elim (motive_1:=λ_=>Bool) e h f else false
@[elab_as_elim] theorem Zly{f:Expr->Operator->Expr->Pos->Bool}{e:Expr}{G:Expr->Prop}(h:Zrt f e=true)(k:∀x0 x1 x2 x3,f x0 x1 x2 x3=true->G (.BinOp x0 x1 x2 x3)):G e:=
 Zbu h λi=>Expr.BinOp.elim (motive_1:=λe=>∀i:e.ctorIdx=2,Expr.BinOp.elim (motive_1:=λ_=>Bool) e i f=true->G e) e i (λx0 x1 x2 x3 _=>k x0 x1 x2 x3) i
noncomputable def qUn(f:UnaryOp->Expr->Pos->Bool)(e:Expr):Bool:=if h:e.ctorIdx=3 then Expr.UnaryOp.elim (motive_1:=λ_=>Bool) e h f else false
@[elab_as_elim] theorem ZtZ{f:UnaryOp->Expr->Pos->Bool}{e:Expr}{G:Expr->Prop}(h:qUn f e=true)(k:∀x0 x1 x2,f x0 x1 x2=true->G (.UnaryOp x0 x1 x2)):G e:=
 Zbu h λi=>Expr.UnaryOp.elim (motive_1:=λe=>∀i:e.ctorIdx=3,Expr.UnaryOp.elim (motive_1:=λ_=>Bool) e i f=true->G e) e i (λx0 x1 x2 _=>k x0 x1 x2) i
noncomputable def Zve(f:Arguments->Expr->Scope->Pos->Bool)(e:Expr):Bool:=if h:e.ctorIdx=4 then Expr.Lambda.elim (motive_1:=λ_=>Bool) e h f else false
@[elab_as_elim] theorem ZsB{f:Arguments->Expr->Scope->Pos->Bool}{e:Expr}{G:Expr->Prop}(h:Zve f e=true)(k:∀x0 x1 x2 x3,f x0 x1 x2 x3=true->G (.Lambda x0 x1 x2 x3)):G e:=
 Zbu h λi=>Expr.Lambda.elim (motive_1:=λe=>∀i:e.ctorIdx=4,Expr.Lambda.elim (motive_1:=λ_=>Bool) e i f=true->G e) e i (λx0 x1 x2 x3 _=>k x0 x1 x2 x3) i
noncomputable def qIf(f:Expr->Expr->Expr->Pos->Bool)(e:Expr):Bool:=if h:e.ctorIdx=5 then Expr.IfExp.elim (motive_1:=λ_=>Bool) e h f else false
@[elab_as_elim] theorem Zuq{f:Expr->Expr->Expr->Pos->Bool}{e:Expr}{G:Expr->Prop}(h:qIf f e=true)(k:∀x0 x1 x2 x3,f x0 x1 x2 x3=true->G (.IfExp x0 x1 x2 x3)):G e:=
 Zbu h λi=>Expr.IfExp.elim (motive_1:=λe=>∀i:e.ctorIdx=5,Expr.IfExp.elim (motive_1:=λ_=>Bool) e i f=true->G e) e i (λx0 x1 x2 x3 _=>k x0 x1 x2 x3) i
noncomputable def Zkg(f:Expr->List Comprehension->Scope->Pos->Bool)(e:Expr):Bool:=if h:e.ctorIdx=8 then Expr.ListComp.elim (motive_1:=λ_=>Bool) e h f else false
@[elab_as_elim] theorem Zgu{f:Expr->List Comprehension->Scope->Pos->Bool}{e:Expr}{G:Expr->Prop}(h:Zkg f e=true)(k:∀x0 x1 x2 x3,f x0 x1 x2 x3=true->G (.ListComp x0 x1 x2 x3)):G e:=
 Zbu h λi=>Expr.ListComp.elim (motive_1:=λe=>∀i:e.ctorIdx=8,Expr.ListComp.elim (motive_1:=λ_=>Bool) e i f=true->G e) e i (λx0 x1 x2 x3 _=>k x0 x1 x2 x3) i
noncomputable def Zu7(f:Expr->List Comprehension->Scope->Pos->Bool)(e:Expr):Bool:=if h:e.ctorIdx=11 then Expr.GeneratorExp.elim (motive_1:=λ_=>Bool) e h f else false
@[elab_as_elim] theorem Zsa{f:Expr->List Comprehension->Scope->Pos->Bool}{e:Expr}{G:Expr->Prop}(h:Zu7 f e=true)(k:∀x0 x1 x2 x3,f x0 x1 x2 x3=true->G (.GeneratorExp x0 x1 x2 x3)):G e:=
 Zbu h λi=>Expr.GeneratorExp.elim (motive_1:=λe=>∀i:e.ctorIdx=11,Expr.GeneratorExp.elim (motive_1:=λ_=>Bool) e i f=true->G e) e i (λx0 x1 x2 x3 _=>k x0 x1 x2 x3) i
noncomputable def ZuF(f:Expr->List CmpOp->List Expr->Pos->Bool)(e:Expr):Bool:=if h:e.ctorIdx=15 then Expr.Compare.elim (motive_1:=λ_=>Bool) e h f else false
@[elab_as_elim] theorem ZoQ{f:Expr->List CmpOp->List Expr->Pos->Bool}{e:Expr}{G:Expr->Prop}(h:ZuF f e=true)(k:∀x0 x1 x2 x3,f x0 x1 x2 x3=true->G (.Compare x0 x1 x2 x3)):G e:=
 Zbu h λi=>Expr.Compare.elim (motive_1:=λe=>∀i:e.ctorIdx=15,Expr.Compare.elim (motive_1:=λ_=>Bool) e i f=true->G e) e i (λx0 x1 x2 x3 _=>k x0 x1 x2 x3) i
noncomputable def Zk0(f:Expr->List Expr->List Keyword->Pos->Bool)(e:Expr):Bool:=if h:e.ctorIdx=16 then Expr.Call.elim (motive_1:=λ_=>Bool) e h f else false
@[elab_as_elim] theorem Zij{f:Expr->List Expr->List Keyword->Pos->Bool}{e:Expr}{G:Expr->Prop}(h:Zk0 f e=true)(k:∀x0 x1 x2 x3,f x0 x1 x2 x3=true->G (.Call x0 x1 x2 x3)):G e:=
 Zbu h λi=>Expr.Call.elim (motive_1:=λe=>∀i:e.ctorIdx=16,Expr.Call.elim (motive_1:=λ_=>Bool) e i f=true->G e) e i (λx0 x1 x2 x3 _=>k x0 x1 x2 x3) i
noncomputable def Zvh(f:Expr->Int->Option Expr->Pos->Bool)(e:Expr):Bool:=if h:e.ctorIdx=17 then Expr.FormattedValue.elim (motive_1:=λ_=>Bool) e h f else false
@[elab_as_elim] theorem Zsp{f:Expr->Int->Option Expr->Pos->Bool}{e:Expr}{G:Expr->Prop}(h:Zvh f e=true)(k:∀x0 x1 x2 x3,f x0 x1 x2 x3=true->G (.FormattedValue x0 x1 x2 x3)):G e:=
 Zbu h λi=>Expr.FormattedValue.elim (motive_1:=λe=>∀i:e.ctorIdx=17,Expr.FormattedValue.elim (motive_1:=λ_=>Bool) e i f=true->G e) e i (λx0 x1 x2 x3 _=>k x0 x1 x2 x3) i
noncomputable def qJs(f:List Expr->Pos->Bool)(e:Expr):Bool:=if h:e.ctorIdx=18 then Expr.JoinedStr.elim (motive_1:=λ_=>Bool) e h f else false
@[elab_as_elim] theorem ZuJ{f:List Expr->Pos->Bool}{e:Expr}{G:Expr->Prop}(h:qJs f e=true)(k:∀x0 x1,f x0 x1=true->G (.JoinedStr x0 x1)):G e:=
 Zbu h λi=>Expr.JoinedStr.elim (motive_1:=λe=>∀i:e.ctorIdx=18,Expr.JoinedStr.elim (motive_1:=λ_=>Bool) e i f=true->G e) e i (λx0 x1 _=>k x0 x1) i
noncomputable def Zpf(f:Const->Nat->Pos->Bool)(e:Expr):Bool:=if h:e.ctorIdx=19 then Expr.Constant.elim (motive_1:=λ_=>Bool) e h f else false
@[elab_as_elim] theorem Zob{f:Const->Nat->Pos->Bool}{e:Expr}{G:Expr->Prop}(h:Zpf f e=true)(k:∀x0 x1 x2,f x0 x1 x2=true->G (.Constant x0 x1 x2)):G e:=
 Zbu h λi=>Expr.Constant.elim (motive_1:=λe=>∀i:e.ctorIdx=19,Expr.Constant.elim (motive_1:=λ_=>Bool) e i f=true->G e) e i (λx0 x1 x2 _=>k x0 x1 x2) i
noncomputable def ZqB(f:Expr->Str->Pos->Bool)(e:Expr):Bool:=if h:e.ctorIdx=20 then Expr.Attribute.elim (motive_1:=λ_=>Bool) e h f else false
@[elab_as_elim] theorem Zl1{f:Expr->Str->Pos->Bool}{e:Expr}{G:Expr->Prop}(h:ZqB f e=true)(k:∀x0 x1 x2,f x0 x1 x2=true->G (.Attribute x0 x1 x2)):G e:=
 Zbu h λi=>Expr.Attribute.elim (motive_1:=λe=>∀i:e.ctorIdx=20,Expr.Attribute.elim (motive_1:=λ_=>Bool) e i f=true->G e) e i (λx0 x1 x2 _=>k x0 x1 x2) i
noncomputable def Znr(f:Expr->Expr->Pos->Bool)(e:Expr):Bool:=if h:e.ctorIdx=21 then Expr.Subscript.elim (motive_1:=λ_=>Bool) e h f else false
@[elab_as_elim] theorem Zge{f:Expr->Expr->Pos->Bool}{e:Expr}{G:Expr->Prop}(h:Znr f e=true)(k:∀x0 x1 x2,f x0 x1 x2=true->G (.Subscript x0 x1 x2)):G e:=
 Zbu h λi=>Expr.Subscript.elim (motive_1:=λe=>∀i:e.ctorIdx=21,Expr.Subscript.elim (motive_1:=λ_=>Bool) e i f=true->G e) e i (λx0 x1 x2 _=>k x0 x1 x2) i
noncomputable def Zcs(f:Str->Pos->Bool)(e:Expr):Bool:=if h:e.ctorIdx=23 then Expr.Name.elim (motive_1:=λ_=>Bool) e h f else false
@[elab_as_elim] theorem Zby{f:Str->Pos->Bool}{e:Expr}{G:Expr->Prop}(h:Zcs f e=true)(k:∀x0 x1,f x0 x1=true->G (.Name x0 x1)):G e:=
 Zbu h λi=>Expr.Name.elim (motive_1:=λe=>∀i:e.ctorIdx=23,Expr.Name.elim (motive_1:=λ_=>Bool) e i f=true->G e) e i (λx0 x1 _=>k x0 x1) i
noncomputable def Zg7(f:List Expr->Pos->Bool)(e:Expr):Bool:=if h:e.ctorIdx=24 then Expr.List.elim (motive_1:=λ_=>Bool) e h f else false
@[elab_as_elim] theorem Zed{f:List Expr->Pos->Bool}{e:Expr}{G:Expr->Prop}(h:Zg7 f e=true)(k:∀x0 x1,f x0 x1=true->G (.List x0 x1)):G e:=
 Zbu h λi=>Expr.List.elim (motive_1:=λe=>∀i:e.ctorIdx=24,Expr.List.elim (motive_1:=λ_=>Bool) e i f=true->G e) e i (λx0 x1 _=>k x0 x1) i
noncomputable def Zru(f:List Expr->Nat->Pos->Bool)(e:Expr):Bool:=if h:e.ctorIdx=25 then Expr.Tuple.elim (motive_1:=λ_=>Bool) e h f else false
@[elab_as_elim] theorem Zjp{f:List Expr->Nat->Pos->Bool}{e:Expr}{G:Expr->Prop}(h:Zru f e=true)(k:∀x0 x1 x2,f x0 x1 x2=true->G (.Tuple x0 x1 x2)):G e:=
 Zbu h λi=>Expr.Tuple.elim (motive_1:=λe=>∀i:e.ctorIdx=25,Expr.Tuple.elim (motive_1:=λ_=>Bool) e i f=true->G e) e i (λx0 x1 x2 _=>k x0 x1 x2) i
noncomputable def Zpj(f:Option Expr->Option Expr->Option Expr->Pos->Bool)(e:Expr):Bool:=if h:e.ctorIdx=26 then Expr.Slice.elim (motive_1:=λ_=>Bool) e h f else false
@[elab_as_elim] theorem ZnY{f:Option Expr->Option Expr->Option Expr->Pos->Bool}{e:Expr}{G:Expr->Prop}(h:Zpj f e=true)(k:∀x0 x1 x2 x3,f x0 x1 x2 x3=true->G (.Slice x0 x1 x2 x3)):G e:=
 Zbu h λi=>Expr.Slice.elim (motive_1:=λe=>∀i:e.ctorIdx=26,Expr.Slice.elim (motive_1:=λ_=>Bool) e i f=true->G e) e i (λx0 x1 x2 x3 _=>k x0 x1 x2 x3) i
noncomputable def b1{α:Type}(f:α->Bool):List α->Bool
 | [a]=>f a
 | _=>false
noncomputable def b2{α:Type}(f:α->α->Bool):List α->Bool
 | [a,b]=>f a b
 | _=>false
noncomputable def b3{α:Type}(f:α->α->α->Bool):List α->Bool
 | [a,b,c]=>f a b c
 | _=>false
noncomputable def bc{α:Type}(f:α->List α->Bool):List α->Bool
 | a::r=>f a r
 | _=>false
section
variable {α:Type}{l:List α}{G:List α->Prop}
@[elab_as_elim] theorem ZcB(h:l.isEmpty=true)(k:G []):G l:=by
 cases l with
 | nil=>exact k
 | cons=>exact nf h
@[elab_as_elim] theorem Zrx{f:α->List α->Bool}(h:bc f l=true)(k:∀a r,f a r=true->G (a::r)):G l:=by
 cases l with
 | nil=>exact nf h
 | cons=>exact k _ _ h
@[elab_as_elim] theorem ZfO{f:α->Bool}(h:b1 f l=true)(k:∀a,f a=true->G [a]):G l:=by
 cases l with
 | nil=>exact nf h
 | cons a l=>
 cases l with
 | nil=>exact k _ h
 | cons=>exact nf h
@[elab_as_elim] theorem ZkK{f:α->α->Bool}(h:b2 f l=true)(k:∀a b,f a b=true->G [a,b]):G l:=by
 cases l with
 | nil=>exact nf h
 | cons a l=>
 cases l with
 | nil=>exact nf h
 | cons b l=>
 cases l with
 | nil=>exact k _ _ h
 | cons=>exact nf h
@[elab_as_elim] theorem ZuR{f:α->α->α->Bool}(h:b3 f l=true)(k:∀a b c,f a b c=true->G [a,b,c]):G l:=by
 cases l with
 | nil=>exact nf h
 | cons a l=>
 cases l with
 | nil=>exact nf h
 | cons b l=>
 cases l with
 | nil=>exact nf h
 | cons c l=>
 cases l with
 | nil=>exact k _ _ _ h
 | cons=>exact nf h
end
noncomputable def Zai(e:Expr):Bool:=!(e.ctorIdx==22||e.ctorIdx==7||e.ctorIdx==26)
noncomputable def plainT(e:Expr):Bool:=!(e.ctorIdx==0||e.ctorIdx==5||e.ctorIdx==15||qUn (λo _ _=>o==.Not) e)
noncomputable def Zgp(e:Expr):Bool:=!(e.ctorIdx==8||e.ctorIdx==9||e.ctorIdx==10)
noncomputable def ZeR(e:Expr):Bool:=!(Zk0 (λg as kw _=>g.ctorIdx==23&&as.isEmpty&&kw.isEmpty) e)
noncomputable def ZdD:X->Bool
 | .nil=>true
 | .cons x xs=>x.fz&&ZdD xs
 | _=>false
noncomputable def ZpA(sc:Scope)(names:List (Str×NameKind)):List (Str×NameKind):=
 names.map λ(n,k)=>if(k==.free&&sc.kind==.function&&sc.names.lookup n==some .cell) then(n,.cell) else(n,k)
noncomputable def ZmM(sc scope:Scope):Scope:={ scope with names:=ZpA sc scope.names }
noncomputable def ZcC(sc:Scope)(n:Str):Bool:=sc.names.lookup n==some .globalImplicit
noncomputable def ZmG(o:CmpOp)(f:Expr->Expr->Bool)(e:Expr):Bool:=ZuF (λa os bs _=>b1 (λp=>b1 (λb=>p==o&&f a b) bs) os) e
@[elab_as_elim] theorem ZmQ{o:CmpOp}{f:Expr->Expr->Bool}{e:Expr}{G:Expr->Prop}(h:ZmG o f e=true)(k:∀a b p,f a b=true->G (.Compare a [o] [b] p)):G e:=
 ZoQ h λa _ _ p h=>ZfO h λ_ h=>ZfO h λb h=>Zbg h λh1 h2=>eqb h1 (k a b p h2)
noncomputable def Zp6(o u:CmpOp)(f:Expr->Expr->Expr->Bool)(e:Expr):Bool:=ZuF (λa os bs _=>b2 (λp q=>b2 (λb c=>p==o&&q==u&&f a b c) bs) os) e
@[elab_as_elim] theorem Zp8{o u:CmpOp}{f:Expr->Expr->Expr->Bool}{e:Expr}{G:Expr->Prop}(h:Zp6 o u f e=true)(k:∀a b c p,f a b c=true->G (.Compare a [o,u] [b,c] p)):G e:=
 ZoQ h λa _ _ p h=>ZkK h λ_ _ h=>ZkK h λb c h=>Zd3 h λh1 h2 h3=>eqb h1 (eqb h2 (k a b c p h3))
noncomputable def qFn(sc:Scope)(n:Str)(f:List Expr->Bool)(e:Expr):Bool:=Zk0 (λg as kw _=>Zcs (λm _=>m==n&&ZcC sc n&&kw.isEmpty&&f as) g) e
@[elab_as_elim] theorem ZmH{sc:Scope}{n:Str}{f:List Expr->Bool}{e:Expr}{G:Expr->Prop}(h:qFn sc n f e=true)(k:∀p as q,ZcC sc n=true->f as=true->G (.Call (.Name n p) as [] q)):G e:=
 Zij h λ_ as _ q h=>Zby h λ_ p h=>ZjH h λh1 h2 h3 h4=>eqb h1 (ZcB h3 (k p as q h2 h4))
noncomputable def ZcI(n:Str)(f:Expr->List Expr->Bool)(e:Expr):Bool:=Zk0 (λg as kw q=>ZqB (λo m p=>m==n&&ZeR o&&p.endLine==q.line&&kw.isEmpty&&f o as) g) e
@[elab_as_elim] theorem Zbz{n:Str}{f:Expr->List Expr->Bool}{e:Expr}{G:Expr->Prop}(h:ZcI n f e=true)(k:∀o p as q,ZeR o=true->(p.endLine==q.line)=true->f o as=true->G (.Call (.Attribute o n p) as [] q)):G e:=
 Zij h λ_ as _ q h=>Zl1 h λo _ p h=>Zm4 h λh1 h2 h3 h4 h5=>eqb h1 (ZcB h4 (k o p as q h2 h3 h5))
noncomputable def Zm3(o:BoolOp)(f:List Expr->Bool)(e:Expr):Bool:=ZrV (λp es _=>p==o&&f es) e
@[elab_as_elim] theorem Zf8{o:BoolOp}{f:List Expr->Bool}{e:Expr}{G:Expr->Prop}(h:Zm3 o f e=true)(k:∀es p,f es=true->G (.BoolOp o es p)):G e:=ZpR h λ_ es p h=>Zbg h λh1 h2=>eqb h1 (k es p h2)
noncomputable def Zlm(o:UnaryOp)(f:Expr->Bool)(e:Expr):Bool:=qUn (λp a _=>p==o&&f a) e
@[elab_as_elim] theorem Zfx{o:UnaryOp}{f:Expr->Bool}{e:Expr}{G:Expr->Prop}(h:Zlm o f e=true)(k:∀a p,f a=true->G (.UnaryOp o a p)):G e:=ZtZ h λ_ a p h=>Zbg h λh1 h2=>eqb h1 (k a p h2)
noncomputable def qC(c:Const)(e:Expr):Bool:=Zpf (λd _ _=>d==c) e
@[elab_as_elim] theorem Zom{c:Const}{e:Expr}{G:Expr->Prop}(h:qC c e=true)(k:∀n p,G (.Constant c n p)):G e:=Zob h λ_ n p h=>eqb h (k n p)
noncomputable def mtc(d:D)(e:Expr):Bool:=match d with
 | .none=>qC .none e
 | .bool b=>qC (.bool b) e
 | .int i=>qC (.int i) e||Zlm .USub (qC (.int (-i))) e
 | .str l=>qC (.str ⟨l.toArray⟩) e&&decide (l.length<=1000)
 | _=>false
noncomputable def mtv(nm:List Str)(i:Nat)(e:Expr):Bool:=Zcs (λn _=>nm[i]?==some n&&n != ("__debug__" : Str)&&n != ("__classdict__" : Str)) e
noncomputable def ZbT(sc:Scope)(nm:List Str)(fr:List Nat)(scope:Scope):Bool:=
 scope.names.all (λy=>y.2 != .cell&&(y.2 != .local||scope.names.lookup y.1==some .local)&&(y.2 != .free||sc.names.lookup y.1==some .cell))&&
 scope.kind==.function&&sc.kind==.function&&
 fr.all λi=>match nm[i]? with
  | some n=>scope.names.lookup n==some .free
  | none=>false
noncomputable def ZuM(scope:Scope)(nm:List Str)(t:Nat)(e:Expr):Bool:=Zcs (λn _=>nm[t]?==some n&&scope.names.lookup n==some .local) e
noncomputable def opt{α:Type}(a:Bool)(f:α->Bool):Option α->Bool
 | none=>a
 | some x=>f x
section
variable (nm:List Str) (fn:Nat->Str)
mutual
noncomputable def mt(sc:Scope)(cp:Bool):X->Expr->Bool
  | .const d,e=>mtc d e
  | .var i,e=>mtv nm i e
  | .tvar i,e=>mtv nm i e
  | .bin op l r,e=>Zrt (λa o b _=>o==op.op&&mt sc cp l a&&mt sc cp r b) e
  | .cmp op l r,e=>ZmG op.op (λa b=>Zai b&&mt sc cp l a&&mt sc cp r b) e
  | .cmp2 o1 o2 a b c,e=>Zp6 o1.op o2.op (λx y z=>Zai y&&Zai z&&mt sc cp a x&&mt sc cp b y&&mt sc cp c z) e
  | .band xs,e=>Zm3 .And (λes=>mtL sc cp xs es&&ZdD xs) e
  | .bor xs,e=>Zm3 .Or (λes=>mtL sc cp xs es&&ZdD xs) e
  | .not x,e=>Zlm .Not (λa=>mt sc cp x a) e
  | .ite t a b,e=>qIf (λu c d _=>a.fz&&b.fz&&mtT sc cp t u&&mt sc cp a c&&mt sc cp b d) e
  | .bfn f x,e=>qFn sc f.name (b1 λa=>Zai a&&mt sc cp x a) e
  | .range1 _,_=>false
  | .range2 _ _,_=>false
  | .range3 _ _ _,_=>false
  | .call f xs,e=>qFn sc (fn f) (λes=>fn f != ("__debug__" : Str)&&!es.isEmpty&&ZdD xs&&mtL sc cp xs es) e
  | .nil,_=>false
  | .cons _ _,_=>false
  | .find2 b y a,e=>ZcI "find" (λo=>b2 λp q=>Zai p&&Zai q&&mt sc cp b o&&mt sc cp y p&&mt sc cp a q) e
  | .find3 b y a z,e=>ZcI "find" (λo=>b3 λp q r=>Zai p&&Zai q&&Zai r&&mt sc cp b o&&mt sc cp y p&&mt sc cp a q&&mt sc cp z r) e
  | .repl b c z zs,e=>ZcI "replace" (λo=>b2 λp q=>mtc (.str [c]) p&&mtc (.str (z::zs)) q&&!(z::zs==[c])&&mt sc cp b o) e
  | .join s x,e=>ZcI "join" (λo=>b1 λp=>Zai p&&mt sc cp s o&&mt sc cp x p) e
  | .joing _ _ _ _,_=>false
  | .transl _,_=>false
  | .resub _,_=>false
  | .idx a b,e=>Znr (λx y _=>Zai y&&mt sc cp a x&&mt sc cp b y) e
  | .slc a lo hi,e=>Znr (λx y _=>Zpj (λl u st _=>st.isNone&&mt sc cp a x&&opt lo.Za8 (λy=>mt sc cp lo y) l&&opt hi.Za8 (λy=>mt sc cp hi y) u) y) e
  | .list xs,e=>Zg7 (λes _=>ZdD xs&&mtL sc cp xs es) e
  | .tuple xs,e=>Zru (λes _ _=>ZdD xs&&mtL sc cp xs es) e
  | .comp fr t e it c, x => cp && Zkg (fun elt gens scope _ => b1 (fun g => g.is_async == 0 && ZbT sc nm fr scope && ZuM scope nm t g.target && !fr.contains t && e.fz && Zai g.iter &&
          (mtR sc false it g.iter||mt sc false it g.iter)&&mt (ZmM sc scope) false e elt&&(if c.Za8 then g.ifs.isEmpty else b1 (λi=>mtT (ZmM sc scope) false c i) g.ifs)) gens) x
  | .compu _ _ _ _ _,_=>false
  | .fstr a x b,e=>qJs (λvs _=>b3 (λp y q=>mtc (.str a) p&&mtc (.str b) q&&Zvh (λy cv sp _=>cv==-1&&sp.isNone&&mt sc cp x y) y) vs) e
  | .newobj,_=>false
  | .tval _,_=>false
  | .tcmp _ _ _,_=>false
  | .tnot _,_=>false
  | .tand _,_=>false
  | .tor _,_=>false
termination_by structural x _=>x
noncomputable def mtR(sc:Scope)(cp:Bool):X->Expr->Bool
  | .range1 a,e=>qFn sc "range" (b1 λx=>Zai x&&mt sc cp a x) e
  | .range2 a b,e=>qFn sc "range" (b2 λx y=>Zai x&&Zai y&&mt sc cp a x&&mt sc cp b y) e
  | .range3 a b c,e=>qFn sc "range" (b3 λx y z=>Zai x&&Zai y&&Zai z&&mt sc cp a x&&mt sc cp b y&&mt sc cp c z) e
  | _,_=>false
termination_by structural x _=>x
noncomputable def mtL(sc:Scope)(cp:Bool):X->List Expr->Bool
  | .nil,es=>es.isEmpty
  | .cons x xs,es=>bc (λe r=>Zai e&&mt sc cp x e&&mtL sc cp xs r) es
  | _,_=>false
termination_by structural x _=>x
noncomputable def mtT(sc:Scope)(cp:Bool):X->Expr->Bool
  | .tval x,e=>plainT e&&mt sc cp x e
  | .tcmp op l r,e=>ZmG op.op (λa b=>Zai b&&mt sc cp l a&&mt sc cp r b) e
  | .tnot x,e=>Zlm .Not (λa=>mtT sc cp x a) e
  | .tand xs,e=>Zm3 .And (λes=>ZoZ sc cp xs es) e
  | .tor xs,e=>Zm3 .Or (λes=>ZoZ sc cp xs es) e
  | _,_=>false
termination_by structural x _=>x
noncomputable def ZoZ(sc:Scope)(cp:Bool):X->List Expr->Bool
  | .nil,es=>es.isEmpty
  | .cons x xs,es=>bc (λe r=>mtT sc cp x e&&ZoZ sc cp xs r) es
  | _,_=>false
termination_by structural x _=>x
end
noncomputable def mtI(sc:Scope)(cp:Bool)(x:X)(e:Expr):Bool:=mtR nm fn sc cp x e||mt nm fn sc cp x e
end
end
section
noncomputable def Mut(o:Obj):Prop:=(∃es n,o.data=.dict es n)∨(∃xs n,o.data=.seq xs n)∨(∃v,o.data=.cell v)∨o.cls=.type "list_iterator" ∨ o.cls=.type "range_iterator"
noncomputable abbrev Gr(base:Addr->Prop)(mg mb:Str->Option Value)(Gd:Heap->Prop):Prop:=(∀h h',Gd h->(∀b o,(base b∨¬Mut o)->h.get? b=some o->h'.get? b=some o)->Gd h')∧(∀h b,Gd h->base b->∃o,h.get? b=some o)∧(∀h,Gd h->h.Ns mainGlobals mg)∧(∀h,Gd h->h.Ns builtinsNs mb)∧(∀h,Gd h->h.NoLimit)∧(∀n v,(n,v)∈([("len",.builtin "len"),("chr",.builtin "chr"),("sum",.builtin "sum"),("list",.type "list"),("range",.type "range"),("iter",.builtin "iter"),("object",.type "object"),("str",.type "str"),("isinstance",.builtin "isinstance")]:List (Str×Value))->mg n=none∧mb n=some v)
theorem Gr.keep{base:Addr->Prop}{mg mb:Str->Option Value}{Gd:Heap->Prop}(slf:Gr base mg mb Gd):∀h h',Gd h->(∀b o,(base b∨¬Mut o)->h.get? b=some o->h'.get? b=some o)->Gd h':=slf.1
theorem Gr.there{base:Addr->Prop}{mg mb:Str->Option Value}{Gd:Heap->Prop}(slf:Gr base mg mb Gd):∀h b,Gd h->base b->∃o,h.get? b=some o:=slf.2.1
theorem Gr.g{base:Addr->Prop}{mg mb:Str->Option Value}{Gd:Heap->Prop}(slf:Gr base mg mb Gd):∀h,Gd h->h.Ns mainGlobals mg:=slf.2.2.1
theorem Gr.b{base:Addr->Prop}{mg mb:Str->Option Value}{Gd:Heap->Prop}(slf:Gr base mg mb Gd):∀h,Gd h->h.Ns builtinsNs mb:=slf.2.2.2.1
theorem Gr.lim{base:Addr->Prop}{mg mb:Str->Option Value}{Gd:Heap->Prop}(slf:Gr base mg mb Gd):∀h,Gd h->h.NoLimit:=slf.2.2.2.2.1
theorem Gr.bi{base:Addr->Prop}{mg mb:Str->Option Value}{Gd:Heap->Prop}(slf:Gr base mg mb Gd):∀n v,(n,v)∈([("len",.builtin "len"),("chr",.builtin "chr"),("sum",.builtin "sum"),("list",.type "list"),("range",.type "range"),("iter",.builtin "iter"),("object",.type "object"),("str",.type "str"),("isinstance",.builtin "isinstance")]:List (Str×Value))->mg n=none∧mb n=some v:=slf.2.2.2.2.2
noncomputable abbrev Ok(Gd:Heap->Prop)(s:Shared):Prop:=(Gd s.heap)∧(1<=s.toks)
theorem Ok.gd{Gd:Heap->Prop}{s:Shared}(slf:Ok Gd s):Gd s.heap:=slf.1
theorem Ok.tk{Gd:Heap->Prop}{s:Shared}(slf:Ok Gd s):1<=s.toks:=slf.2
noncomputable abbrev Lv(A:Around)(n:Nat):Prop:=(A.handled=none)∧(A.depth+n<=900)∧(A.units+3 * n<=9000)
theorem Lv.hd{A:Around}{n:Nat}(slf:Lv A n):A.handled=none:=slf.1
theorem Lv.dp{A:Around}{n:Nat}(slf:Lv A n):A.depth+n<=900:=slf.2.1
theorem Lv.un{A:Around}{n:Nat}(slf:Lv A n):A.units+3 * n<=9000:=slf.2.2
theorem Lv.le{A:Around}{n m:Nat}(l:Lv A n)(h:m<=n):Lv A m:=⟨l.hd,by have:=l.dp;lia,by have:=l.un;lia⟩
noncomputable def Kc(Gd:Heap->Prop)(P:Addr->Prop)(d:D)(Q:Value->Shared->Prop)(s:Shared):Prop:=
 ∀v s',Gw s s'->Ok Gd s'->Rd P s'.heap v d->Q v s'
section
variable {base:Addr->Prop}{mg mb:Str->Option Value}{Gd:Heap->Prop}{P:Addr->Prop}{d:D}{Q:Value->Shared->Prop}{s:Shared}{v:Value}{tk:Tok}
theorem Kc.tok(k:Kc Gd P d Q s)(o:Ok Gd s)(ht:1<=tk)(r:Rd P s.heap v d):Q v { s with toks:=tk }:=k v _ (.tok ..) ⟨o.gd,ht⟩ r
theorem Kc.same(k:Kc Gd P d Q s)(o:Ok Gd s)(r:Rd P s.heap v d):Q v s:=k v _ (.refl _) o r
theorem Kc.ZkI(k:Kc Gd P d Q s)(o:Ok Gd s)(r:Rd P s.heap v d):Q v { s with toks:=s.toks+1 }:=k.tok o (Nat.le_succ_of_le o.tk) r
theorem Kc.Zvu(k:Kc Gd P d Q s)(o:Ok Gd s)(r:Rd P s.heap v d):Q v { s with toks:=s.toks+1+1 }:=k.tok o (Nat.le_succ_of_le (Nat.le_succ_of_le o.tk)) r
theorem Gr.keeps(G:Gr base mg mb Gd){h h':Heap}(x:Gd h)(k:∀b o,h.get? b=some o->h'.get? b=some o):Gd h':=G.keep _ _ x λb o _ e=>k b o e
theorem Kc.heap(k:Kc Gd P d Q s)(o:Ok Gd s)(G:Gr base mg mb Gd){h':Heap}(hk:∀b o,s.heap.get? b=some o->h'.get? b=some o)(ht:1<=tk)(r:Rd P h' v d):Q v { s with heap:=h',toks:=tk }:=
 k v _ (.of_keep hk) ⟨G.keeps o.gd hk,ht⟩ r
theorem Kc.push(k:Kc Gd P d Q s)(o:Ok Gd s)(G:Gr base mg mb Gd){ob:Obj}(r:Rd P (s.heap.push ob) v d):Q v { s with heap:=s.heap.push ob }:=
 k.heap (tk:=s.toks) o G (λ_ _ e=>Heap.get?_push_of_some _ e) o.tk r
theorem Kc.after{s₁:Shared}(k:Kc Gd P d Q s)(g:Gw s s₁):Kc Gd P d Q s₁:=λv s' g' o r=>k v s' (g.trans g') o r
end
section
variable {prog:Program}{w:World}{A:Around}{E:Value->Shared->Prop}{s:Shared}{α:Type}
theorem wrap{M:Model}{t:Sem α}{Q:α->Shared->Prop}(hs:1<=s.toks)(h:wpAny M A t (λv s'=>1<=s'.toks->Q v s') E s):wpAny M A t Q E s:=
 wpAny_mono (wpAny_toks_of (n:=1) hs h) (λ_ _ x=>x.2 x.1) λ_ _ x=>x.2
end
theorem ZgT{P:Addr->Prop}{h:Heap}{x:Str}{t:Tok}{l:List Nat}(e:x.cps.toList=l)(hl:l.length<=sizeLine):Rd P h (.str x t) (.str l):=by
 subst e;obtain⟨⟨c⟩⟩:=x;exact .str _ _ hl
@[elab_as_elim] theorem ZpI{l:List Nat}{d:D}{G:D->Prop}(h:okS l=some d)(k:l.length<=sizeLine->G (.str l)):G d:=ifS h λx e=>Option.some.inj e▸k x
@[elab_as_elim] theorem ZkN{l:List D}{d:D}{G:D->Prop}(h:okL l=some d)(k:l.length<=sizeLine->G (.list l)):G d:=ifS h λx e=>Option.some.inj e▸k x
theorem ZcQ(a b:List Nat):((⟨a.toArray⟩:Str)++(⟨b.toArray⟩:Str)).cps.toList=a++b:=by
 erw[rwl (Str.cps_append ..) ?_];simp
theorem str_len(a:List Nat):(⟨a.toArray⟩:Str).length=a.length:=by simp[Str.length]
theorem Zko{α:Type}(x:α)(n:Nat):List.foldl (λx1 x2=>x1++x2) (#[]:Array α) (List.replicate n #[x])=(List.replicate n x).toArray:=by
 have:∀(n:Nat) (a:Array α),List.foldl (λx1 x2=>x1++x2) a (List.replicate n #[x])=a++(List.replicate n x).toArray:=by
  intro n
  induction n with
  | zero=>intro a;simp
  | succ n ih=>intro a;erw[rwl (List.replicate_succ ..) (rwl (List.foldl_cons ..) (rwl (ih ..) (rwl (List.replicate_succ ..) ?_)))];apply Array.toList_inj.mp;simp
 erw[rwl (this ..) ?_];simp
section
variable {prog:Program}{w:World}{A:Around}{E:Value->Shared->Prop}{s:Shared}{P:Addr->Prop}{base:Addr->Prop}{mg mb:Str->Option Value}{Gd:Heap->Prop}{Q:Value->Shared->Prop}
theorem ZpV(G:Gr base mg mb Gd){a b d:D}{va vb:Value}(o:Ok Gd s)(hP:Pf P s.heap)(ra:Rd0 P s.heap va a)(rb:Rd0 P s.heap vb b)(h:Zvq a b=some d)(k:Kc Gd P d Q s):wpAny (model prog w) A (binaryOp .Add va vb) Q E s:=by
 cases a with
 | int a=>
  revert rb k
  refine Za2 (show intD _ b=_ from h) λb h=>eqs h λrb k=>ra.Za0 λ_=>rb.Za0 λ_=>?_
  exact add_int (k.ZkI o (.int _ _))
 | str a=>
  revert rb k
  refine ZbG (show Zd2 _ b=_ from h) λb h=>ZpI h λhl rb k=>ra.Zba λ_ _=>rb.Zba λ_ _=>?_
  refine wrap o.tk (add_str (λt' tk ht=>k.tok o ht (ZgT (ZcQ ..) hl)) ?_)
  erw[rwl (str_len ..) (rwl (str_len ..) (rwr (List.length_append ..) ?_))];exact hl
 | list a=>
  revert rb k
  refine Zds (show ZdR _ b=_ from h) λb h=>ZkN h λhl rb k=>ra.ZbL λi vs hi hr _=>rb.ZbL λj ws hj hq _=>?_
  obtain⟨n,hi⟩:=hi
  obtain⟨m,hj⟩:=hj
  have r:=hr.append hq
  refine PySem.P.add_list hi hj (k.push o G (.list (hP.fresh (Zau _)) ⟨0,?_⟩ (r.kp (.push _ _)) hl)) ?_
  ·erw[rwl (List.append_toArray ..) ?_];exact Heap.get?_push_size s.heap rfl
  ·have:=r.length
   rw[List.length_append] at this
   erw[rwl (List.size_toArray ..) (rwl (List.size_toArray ..) (rwl (this ..) ?_))]
   exact hl
 | _=>exact nn h
theorem Zum(G:Gr base mg mb Gd){op:Bop}{a b d:D}{va vb:Value}{n:Nat}(_L:Lv A n)(o:Ok Gd s)(hP:Pf P s.heap)(ra:Rd0 P s.heap va a)(rb:Rd0 P s.heap vb b)(h:bop op a b=some d)(k:Kc Gd P d Q s) :
  wpAny (model prog w) A (binaryOp op.op va vb) Q E s:=by
 cases op with
 | add=>exact ZpV G o hP ra rb h k
 | mul=>
  revert ra rb k
  refine Zds (show ZdR _ a=_ from h) λa h=>ZnA h λx h=>Za2 h λn h=>ifS h λhn h=>ZkN h λhl ra rb k=>ra.ZbL λi vs hi hr _=>rb.Za0 λ_=>?_
  revert hi
  refine hr.Zd0 λv0 r r0 rn=>?_
  erw[rwl (rn.nil_inv ..) ?_]
  rintro⟨n',hi⟩
  refine wpAny_binaryOp_repeat_ref (T := "list") (U := "int") (by decide) ⟨_,hi,rfl⟩ (λs'=>typeIs_int s' n _) noFill_list_mul F.fills_int_mul F.slot_int_rmul repeat_list F.slot_int_index.lookup
   (call_meets F.slot_int_rmul (typeIs_int s n _) F.entry_int_rmul (F.args_int_rmul_2 _ _) (int___rmul___int_list n _ i _ n')
    ⟨hi,rfl,⟨_,hi,rfl⟩,call_meets F.slot_list_mul ⟨_,hi,rfl⟩ F.entry_list_mul (F.args_list_mul_2 _ _)
     (AutoListH.list___mul___list_int_3 i _ n' n _ (by simp[Builtin.List.listFitsIndex];omega) (by simp;omega) (by simp[Builtin.List.listTooLong,sizeLine];omega))
     ⟨hi,k.push o G ?_⟩⟩)
  refine .list (vs:=List.replicate n.toNat v0) (hP.fresh (Zau _)) ⟨0,?_⟩ ((Zad.replicate r0 _).kp (.push _ _)) hl
  erw[rwl (Heap.get?_push_size _ rfl ..) ?_]
  exact congrArg (λz=>some ({ cls:=.type "list",data:=.seq z }:Obj)) (Zko v0 n.toNat)
 | sub=>
  revert ra rb k
  refine Za2 (show intD _ a=_ from h) λa h=>Za2 h λb h=>eqs h λra rb k=>ra.Za0 λ_=>rb.Za0 λ_=>?_
  exact sub_int' (k.ZkI o (.int _ _))
 | fdiv=>
  revert ra rb k
  refine Za2 (show intD _ a=_ from h) λa h=>Za2 h λb h=>ifS h λhb h=>eqs h λra rb k=>ra.Za0 λ_=>rb.Za0 λ_=>?_
  rw[←Int.fdiv_eq_ediv_of_nonneg a (Int.le_of_lt hb.1)] at k
  exact floordiv_int (Int.ne_of_gt hb.1) (k.ZkI o (.int _ _)) (.inl (PyProof.noPylong_small (by omega)))
 | mod=>
  revert ra rb k
  refine Za2 (show intD _ a=_ from h) λa h=>Za2 h λb h=>ifS h λhb h=>eqs h λra rb k=>ra.Za0 λ_=>rb.Za0 λ_=>?_
  rw[←Int.fmod_eq_emod_of_nonneg a (Int.le_of_lt hb)] at k
  exact mod_int' (Int.ne_of_gt hb) (k.ZkI o (.int _ _))
 | pow=>
  revert ra rb k
  refine Za2 (show intD _ a=_ from h) λa h=>Za2 h λb h=>ifS h λhb h=>eqs h λra rb k=>ra.Za0 λ_=>rb.Za0 λ_=>?_
  exact pow_int_small hb.1 (by omega) (by omega) (k.ZkI o (.int _ _))
theorem Zmd{A:Around}{n:Nat}(L:Lv A n):A.units < cLine:=by
 have h:=L.un
 have e:cLine=9900:=rfl
 lia
theorem ZhC(a b:List Nat):((⟨a.toArray⟩:Str)==(⟨b.toArray⟩:Str))=(a==b):=by
 erw[rwl (propext (Bool.eq_iff_iff ..)) (rwl (propext (beq_iff_eq ..)) (rwl (propext (beq_iff_eq ..)) ?_))]
 constructor
 ·intro h;have:=congrArg (λx:Str=>x.cps.toList) h;simpa using this
 ·intro h;erw[rwl (h ..) ?_]
theorem ZjK{A:Around}{h:Shared}{v v':Value}{a b:List Nat}{P P':Addr->Prop}(r:Rd P h.heap v (.str a))(q:Rd P' h.heap v' (.str b)):SeqAt.EqAt A h v v' (a==b):=by
 obtain⟨_,_,rfl⟩:=r.str_inv
 obtain⟨_,_,rfl⟩:=q.str_inv
 erw[rwr (ZhC ..) ?_]
 exact SeqAt.EqAt.str_str _ _ _ _
theorem ZlX{A:Around}{h:Shared}{v v':Value}{a b:Bool}{P P':Addr->Prop}(r:Rd P h.heap v (.bool a))(q:Rd P' h.heap v' (.bool b)):SeqAt.EqAt A h v v' (a==b):=by
 erw[rwl (r.bool_inv ..) (rwl (q.bool_inv ..) ?_)]
 exact SeqAt.EqAt.bool_bool _ _
theorem Zcr:∀{ds:List D} {ls:List (List Nat)},strs? ds=some ls->ds=ls.map .str
 | [],_,h=>eqs h rfl
 | d::r,_,h=>ZbG (show Zd2 (λl=>(strs? r).map (l::·)) d=_ from h) λl h=>Zdx h λq e=>congrArg (D.str l::·) (Zcr e)
theorem ZhE:∀{ds:List D} {ls:List Bool},ZdB ds=some ls->ds=ls.map .bool
 | [],_,h=>eqs h rfl
 | d::r,_,h=>ZlU (show Zki (λl=>(ZdB r).map (l::·)) d=_ from h) λl h=>Zdx h λq e=>congrArg (D.bool l::·) (ZhE e)
theorem ints_get:∀{ds:List D} {ls:List Int},Zhj ds=some ls->ds=ls.map .int
 | [],_,h=>eqs h rfl
 | d::r,_,h=>Za2 (show intD (λl=>(Zhj r).map (l::·)) d=_ from h) λl h=>Zdx h λq e=>congrArg (D.int l::·) (ints_get e)
theorem Zfo:∀{ds:List D} {ls:List (List (List Nat))},Zeu ds=some ls->ds=ls.map λl=>.list (l.map .str)
 | [],_,h=>eqs h rfl
 | d::r,_,h=>Zds (show ZdR (λl=>(strs? l).bind λx=>(Zeu r).map (x::·)) d=_ from h) λl h=>Zac h λx hx h=>Zdx h λq e=>by erw[rwl (Zcr hx ..) (rwl (Zfo e ..) ?_)];rfl
theorem ZiP{α:Type}[BEq α][LawfulBEq α](e:Nat->Bool):∀(a b:List α) (k:Nat),a.length=b.length->(∀j x y,a[j]? = some x->b[j]? = some y->e (k+j)=(x==y))->((List.range' k a.length).all e)=(a==b)
 | [],[],_,_,_=>by simp
 | x::a,y::b,k,hl,he=>by
  have h0:=he 0 x y rfl rfl
  have ih:=ZiP e a b (k+1) (by simpa using hl) λj x y h1 h2=>by have:=he (j+1) x y (by simpa using h1) (by simpa using h2);erw[rwr (this ..) ?_];congr 1;lia
  simp only[List.length_cons,List.range'_succ,List.all_cons,ih]
  rw[show e k=(x==y) by simpa using h0]
  rfl
theorem Zk9{A:Around}{h:Shared}{a b:List Value}{x y:List (List Nat)}{P P':Addr->Prop}(r:Zad P h.heap a (x.map .str))(q:Zad P' h.heap b (y.map .str))(hl:x.length=y.length) :
  ∃e:Nat->Bool,(∀j (h1:j < a.toArray.size) (h2:j < b.toArray.size),SeqAt.EqAt A h a.toArray[j] b.toArray[j] (e j))∧(List.range a.toArray.size).all e=(x==y):=by
 have e1:=r.length
 have e2:=q.length
 simp at e1 e2
 refine⟨λj=>x[j]?==y[j]?,λj h1 h2=>?_,?_⟩
 ·simp at h1 h2
  have hx:x[j]? = some x[j]:=List.getElem?_eq_getElem (by lia)
  have hy:y[j]? = some y[j]:=List.getElem?_eq_getElem (by lia)
  obtain⟨v,e3,rv⟩:=r.get (i:=j) (d:=.str x[j]) (by simp[hx])
  obtain⟨u,e4,ru⟩:=q.get (i:=j) (d:=.str y[j]) (by simp[hy])
  have e5:a[j]=v:=by rw[List.getElem?_eq_getElem (by lia)] at e3;exact Option.some.inj e3
  have e6:b[j]=u:=by rw[List.getElem?_eq_getElem (by lia)] at e4;exact Option.some.inj e4
  have e7:(x[j]?==y[j]?)=(x[j]==y[j]):=by erw[rwl (hx ..) (rwl (hy ..) ?_)];rfl
  show SeqAt.EqAt A h a.toArray[j] b.toArray[j] (x[j]?==y[j]?)
  erw[rwl (e7 ..) ?_]
  simp only[List.getElem_toArray,e5,e6]
  exact ZjK rv ru
 ·have:=ZiP (λj=>x[j]?==y[j]?) x y 0 hl (λj u v h1 h2=>by simp[h1,h2])
  erw[rwl (List.size_toArray ..) (rwl (e1 ..) (rwl (List.range_eq_range' ..) (rwl (this ..) ?_)))]
theorem Zj9{h:Heap}{v:Value}{a b:List Nat}{P P':Addr->Prop}(r:Rd P h v (.str a))(q:Rd P' h v (.str b)):a=b:=by
 obtain⟨_,t,e⟩:=r.str_inv
 obtain⟨_,t',e'⟩:=q.str_inv
 injection e.symm.trans e' with e1
 exact congrArg (λx:Str=>x.cps.toList) e1
theorem ZeY{h:Heap}{P P':Addr->Prop}:∀{x y:List (List Nat)} {vs:List Value},Zad P h vs (x.map .str)->Zad P' h vs (y.map .str)->x=y
 | [],[],_,_,_=>rfl
 | [],_::_,_,r,q=>by rw[r.nil_inv] at q;obtain⟨_,_,e,_⟩:=q.cons_inv;cases e
 | _::_,[],_,r,q=>by rw[q.nil_inv] at r;obtain⟨_,_,e,_⟩:=r.cons_inv;cases e
 | a::x,b::y,_,r,q=>by
  obtain⟨v,vs,e,r1,r2⟩:=r.cons_inv
  obtain⟨v',vs',e',q1,q2⟩:=q.cons_inv
  injection e.symm.trans e' with e1 e2
  rw[←e1] at q1
  rw[←e2] at q2
  erw[rwl (Zj9 r1 q1 ..) (rwl (ZeY r2 q2 ..) ?_)]
theorem Zmj{h:Heap}{a:Addr}{x y:Array Value}(p:h.PlainList a x)(q:h.PlainList a y):x=y:=by
 obtain⟨n,e⟩:=p
 obtain⟨m,e'⟩:=q
 rw[e] at e'
 simp at e'
 exact e'.1
theorem ZlY{A:Around}{h:Shared}{v v':Value}{x y:List (List Nat)}{P P':Addr->Prop}(hu:A.units < cLine)(r:Rd P h.heap v (.list (x.map .str)))(q:Rd P' h.heap v' (.list (y.map .str))) :
  SeqAt.EqAt A h v v' (x==y):=by
 obtain⟨a,vs,rfl,_,ha,rv,_⟩:=r.Zbq
 obtain⟨b,us,rfl,_,hb,ru,_⟩:=q.Zbq
 have e1:=rv.length
 have e2:=ru.length
 simp at e1 e2
 by_cases hab:a=b
 ·subst hab
  have:=Zmj ha hb
  have:vs=us:=by simpa using this
  subst this
  erw[rwl (ZeY rv ru ..) ?_]
  erw[rwl (beq_self_eq_true ..) ?_]
  exact SeqAt.EqAt.same _
 ·refine SeqAt.EqAt.of_refs hab ?_
  by_cases hl:x.length=y.length
  ·obtain⟨e,he,hall⟩:=Zk9 (A:=A.in1) (h:=h) rv ru hl
   erw[rwr (hall ..) ?_]
   exact SeqAt.RcAt.lists ha.isList hb.isList (by simp;lia) hu he
  ·have:(x==y)=false:=by
    erw[rwl (propext (beq_eq_false_iff_ne ..)) ?_];intro q;exact hl (by erw[rwl (q ..) ?_])
   erw[rwl (this ..) ?_]
   exact SeqAt.RcAt.lists_lengths ha.isList hb.isList (by simp;lia) hu
theorem Zkx{A:Around}{h:Shared}{a b:List Value}{x y:List (List (List Nat))}{P P':Addr->Prop}(hu:A.units < cLine)(r:Zad P h.heap a (x.map λl=>.list (l.map .str)))(q:Zad P' h.heap b (y.map λl=>.list (l.map .str)))(hl:x.length=y.length) :
  ∃e:Nat->Bool,(∀j (h1:j < a.toArray.size) (h2:j < b.toArray.size),SeqAt.EqAt A h a.toArray[j] b.toArray[j] (e j))∧(List.range a.toArray.size).all e=(x==y):=by
 have e1:=r.length
 have e2:=q.length
 simp at e1 e2
 refine⟨λj=>x[j]?==y[j]?,λj h1 h2=>?_,?_⟩
 ·simp at h1 h2
  have hx:x[j]? = some x[j]:=List.getElem?_eq_getElem (by lia)
  have hy:y[j]? = some y[j]:=List.getElem?_eq_getElem (by lia)
  obtain⟨v,e3,rv⟩:=r.get (i:=j) (d:=.list (x[j].map .str)) (by simp[hx])
  obtain⟨u,e4,ru⟩:=q.get (i:=j) (d:=.list (y[j].map .str)) (by simp[hy])
  have e5:a[j]=v:=by rw[List.getElem?_eq_getElem (by lia)] at e3;exact Option.some.inj e3
  have e6:b[j]=u:=by rw[List.getElem?_eq_getElem (by lia)] at e4;exact Option.some.inj e4
  have e7:(x[j]?==y[j]?)=(x[j]==y[j]):=by erw[rwl (hx ..) (rwl (hy ..) ?_)];rfl
  show SeqAt.EqAt A h a.toArray[j] b.toArray[j] (x[j]?==y[j]?)
  erw[rwl (e7 ..) ?_]
  simp only[List.getElem_toArray,e5,e6]
  exact ZlY hu rv ru
 ·have:=ZiP (λj=>x[j]?==y[j]?) x y 0 hl (λj u v h1 h2=>by simp[h1,h2])
  erw[rwl (List.size_toArray ..) (rwl (e1 ..) (rwl (List.range_eq_range' ..) (rwl (this ..) ?_)))]
theorem units_in1{A:Around}{n:Nat}(L:Lv A n):A.in1.units < cLine:=by
 have h:=L.un
 have e:cLine=9900:=rfl
 show A.units+1 < cLine
 lia
noncomputable def Zqs(prog:Program)(w:World)(A:Around)(E:Value->Shared->Prop)(s:Shared)(o p:CmpOp)(va vb:Value)(c:Bool):Prop:=
 (∀Q:Value->Shared->Prop,Q (.bool c) s->wpAny (model prog w) A (compareOp o va vb) Q E s)∧(∀Q:Value->Shared->Prop,Q (.bool !c) s->wpAny (model prog w) A (compareOp p va vb) Q E s)
theorem Zou{n:Nat}(L:Lv A n){a b:List D}{i j:Addr}{vs us:List Value}(hi:s.heap.PlainList i vs.toArray)(rv:Zad P s.heap vs a)(hj:s.heap.PlainList j us.toArray)(ru:Zad P s.heap us b){c:Bool}(h:ZuO a b=some c):Zqs prog w A E s .Eq .NotEq (.ref i) (.ref j) c:=by
 have hu:=Zmd L
 have len:∀c,c=false->vs.length≠us.length->Zqs prog w A E s .Eq .NotEq (.ref i) (.ref j) c:=λc hc hl=>by
  erw[rwl (hc ..) ?_]
  exact⟨λQ q=>SeqAt.eq_list_lengthsAt hi.isList hj.isList (bne_iff_ne.mpr hl) hu q,λQ q=>SeqAt.RcNeAt.lists_lengths hi.isList hj.isList (bne_iff_ne.mpr hl) hu prog w E Q q⟩
 have same:∀{e:Nat->Bool} {c},(List.range vs.toArray.size).all e=c->vs.length=us.length->(∀j (h1:j < vs.toArray.size) (h2:j < us.toArray.size),SeqAt.EqAt A.in1 s vs.toArray[j] us.toArray[j] (e j))->Zqs prog w A E s .Eq .NotEq (.ref i) (.ref j) c:=λhc hl he=>
  ⟨λQ q=>SeqAt.eq_listAt hi.isList hj.isList hl hu he (hc▸q),λQ q=>SeqAt.RcNeAt.lists hi.isList hj.isList hl hu he prog w E Q (hc▸q)⟩
 unfold ZuO at h
 cases b with
 | nil=>
  have eu:=ru.nil_inv
  cases a with
  | nil=>
   have ev:=rv.nil_inv
   refine eqs h (same (e:=λ_=>true) (by erw[rwl (ev ..) ?_];rfl) (by erw[rwl (eu ..) (rwl (ev ..) ?_)]) λj h1 _=>?_)
   rw[ev] at h1
   exact absurd h1 (Nat.not_lt_zero _)
  | cons x y=>exact len _ (Option.some.inj h).symm (by erw[rwl (rv.length ..) (rwl (eu ..) ?_)];exact Nat.succ_ne_zero _)
 | cons b0 b1=>
  refine Zac (show(Zeu a).bind _=_ from h) λx hx h=>Zac h λy hy h=>?_
  have ea:=Zfo hx
  have eb:=Zfo hy
  rw[ea] at rv
  rw[eb] at ru
  have e1:=rv.length
  have e2:=ru.length
  rw[List.length_map] at e1 e2
  by_cases hl:x.length=y.length
  ·obtain⟨e,he,hall⟩:=Zkx (A:=A.in1) (h:=s) (units_in1 L) rv ru hl
   exact eqs h (same hall (by erw[rwl (e1 ..) (rwl (e2 ..) (rwl (hl ..) ?_))]) he)
  ·exact len _ ((Option.some.inj h).symm.trans (beq_eq_false_iff_ne.mpr λq=>hl (by erw[rwl (q ..) ?_]))) (by erw[rwl (e1 ..) (rwl (e2 ..) ?_)];exact hl)
theorem s_eq{n:Nat}(L:Lv A n){a b:D}{va vb:Value}(ra:Rd0 P s.heap va a)(rb:Rd0 P s.heap vb b){c:Bool}(h:eqD a b=some c):Zqs prog w A E s .Eq .NotEq va vb c:=by
 cases a with
 | int a=>
  revert rb
  refine Za2 (show intD _ b=_ from h) λb h=>eqs h λrb=>ra.Za0 λ_=>rb.Za0 λ_=>?_
  exact⟨λQ q=>PyProof.Rows.eq_int q,λQ q=>PyProof.Rows.ne_int q⟩
 | str a=>
  revert rb
  refine ZbG (show Zd2 _ b=_ from h) λb h=>eqs h λrb=>ra.Zba λ_ _=>rb.Zba λ_ _=>?_
  erw[rwr (ZhC ..) ?_]
  exact⟨λQ q=>PyProof.Rows.eq_str q,λQ q=>PyProof.Rows.ne_str q⟩
 | bool a=>
  revert rb
  refine ZlU (show Zki _ b=_ from h) λb h=>eqs h λrb=>ra.ZmX (rb.ZmX ?_)
  exact⟨λQ q=>PyProof.Rows.eq_bool q,λQ q=>SeqAt.RcNeAt.bool_bool _ _ prog w E Q q⟩
 | list a=>
  revert rb
  exact Zds (show ZdR _ b=_ from h) λb h rb=>ra.ZbL λi vs hi rv _=>rb.ZbL λj us hj ru _=>Zou L hi rv hj ru h
 | _=>exact nn h
end
end
section
set_option backward.match.sparseCases false
theorem Zhs:∀a b:List Nat,ltL a b=decide (a < b)
 | [],[]=>by simp[Zt5,Zt9,ZtS]
 | [],_::_=>by simp[Zt5,Zt9,ZtS]
 | _::_,[]=>by simp[Zt5,Zt9,ZtS]
 | x::a,y::b=>by
  erw[rwl (Zvx ..) (rwl (Zhs a b ..) (rwl (propext (Bool.eq_iff_iff ..)) ?_))]
  by_cases h1:x < y
  ·simp[h1,List.cons_lt_cons_iff]
  ·by_cases h2:x=y
   ·simp[h2,List.cons_lt_cons_iff]
   ·simp[h1,h2,List.cons_lt_cons_iff]
noncomputable def isV(y:List Nat):Value->Bool
 | .str x _=>x.cps.toList==y
 | _=>false
noncomputable def isB(y:Bool):Value->Bool
 | .bool x=>x==y
 | _=>false
theorem ZlP{h:Heap}{P:Addr->Prop}{α:Type}[BEq α][LawfulBEq α]{f:α->D}{p:Value->Bool}{y:α}(hp:∀{v x},Rd P h v (f x)->p v=(y==x)):∀{ls:List α} {vs:List Value},Zad P h vs (ls.map f)->vs.toArray.any p=ls.contains y
 | [],_,r=>by erw[rwl (r.nil_inv ..) (rwl (List.any_toArray ..) ?_)];rfl
 | x::ls,_,r=>r.Zd0 λv vs r1 r2=>by
  have ih:=ZlP hp r2
  rw[List.any_toArray] at ih ⊢
  erw[rwl (List.any_cons ..) (rwl (List.contains_cons ..) (rwl (ih ..) (rwl (hp r1 ..) ?_)))]
theorem ZmW{h:Heap}{P:Addr->Prop}{y:List Nat}{vs:List Value}{ls:List (List Nat)}(r:Zad P h vs (ls.map .str)):vs.toArray.any (isV y)=ls.contains y:=ZlP (λr=>r.Zba λ_ _=>Bool.beq_comm) r
theorem Zpy{h:Heap}{P:Addr->Prop}{y:Bool}{vs:List Value}{ls:List Bool}(r:Zad P h vs (ls.map .bool)):vs.toArray.any (isB y)=ls.contains y:=ZlP (λr=>by erw[rwl (r.bool_inv ..) ?_];exact Bool.beq_comm) r
theorem ZkQ{h:Shared}{A:Around}{P:Addr->Prop}{α:Type}{f:α->D}{p:Value->Bool}{x:Value}(hp:∀{v l},Rd P h.heap v (f l)->SeqAt.EqAt A h v x (p v)){vs:List Value}{ls:List α}(r:Zad P h.heap vs (ls.map f))(v:Value)(hv:v∈vs.toArray):SeqAt.EqAt A h v x (p v):=by
 obtain⟨i,hi,e⟩:=List.mem_iff_getElem.mp (Array.mem_def.mp hv:v∈vs)
 obtain⟨d,hd,rv⟩:=r.Zu0 ((List.getElem?_eq_getElem hi).trans (congrArg some e))
 rw[List.getElem?_map] at hd
 exact Zdy hd λl _ e=>hp (e▸rv)
theorem ZgO{h:Shared}{A:Around}{P P':Addr->Prop}{y:List Nat}{x:Value}(q:Rd P' h.heap x (.str y)){vs:List Value}{ls:List (List Nat)}(r:Zad P h.heap vs (ls.map .str)):∀v∈vs.toArray,SeqAt.EqAt A h v x (isV y v):=
 ZkQ (λ{v l} rv=>by
  have e:isV y v=(l==y):=rv.Zba λ_ _=>rfl
  erw[rwl (e ..) ?_]
  exact ZjK rv q) r
theorem Zod{h:Shared}{A:Around}{P P':Addr->Prop}{y:Bool}{x:Value}(q:Rd P' h.heap x (.bool y)){vs:List Value}{ls:List Bool}(r:Zad P h.heap vs (ls.map .bool)):∀v∈vs.toArray,SeqAt.EqAt A h v x (isB y v):=
 ZkQ (λ{v l} rv=>by
  have e:isB y v=(l==y):=by erw[rwl (rv.bool_inv ..) ?_];rfl
  erw[rwl (e ..) ?_]
  exact ZlX rv q) r
section
variable {prog:Program}{w:World}{A:Around}{E:Value->Shared->Prop}{s:Shared}{P:Addr->Prop}{base:Addr->Prop}{mg mb:Str->Option Value}{Gd:Heap->Prop}
theorem Zu8{a b:D}{va vb:Value}(ra:Rd0 P s.heap va a)(rb:Rd0 P s.heap vb b){c:Bool}(h:inD a b=some c):Zqs prog w A E s .In .NotIn va vb c:=by
 have inl:∀{i vs p c},s.heap.PlainList i vs->vs.any p=c->(∀v∈vs,SeqAt.EqAt A.in1 s v va (p v))->Zqs prog w A E s .In .NotIn va (.ref i) c:=λhi hc he=>
  ⟨λQ q=>SeqAt.in_listAt _ hi.isList he (hc▸q),λQ q=>SeqAt.notIn_listAt _ hi.isList he (hc▸q)⟩
 cases a with
 | str y=>
  have h:inS y b=some c:=h
  cases b with
  | str l=>
   revert ra
   refine ZnA h λx h=>eqs h λra=>ra.Zba λ_ _=>rb.Zba λ_ _=>?_
   have e:=StrLaws.found_one ⟨l.toArray⟩ x
   have e2:decide (x∈(⟨l.toArray⟩:Str).cps.toList)=l.contains x:=by simp
   rw[e2] at e
   erw[rwr (e ..) ?_]
   exact⟨λQ q=>PyProof.Rows.in_str q,λQ q=>PyProof.Rows.notIn_str q⟩
  | list l=>
   refine Zdx h λls hl=>rb.ZbL λi vs hi rv _=>?_
   rw[Zcr hl] at rv
   exact inl hi (ZmW rv) (ZgO ra.str rv)
  | tuple l=>
   refine Zdx h λls hl=>rb.Zc1 λi vs _ hi rv _=>?_
   rw[Zcr hl] at rv
   erw[rwr (ZmW rv ..) ?_]
   exact⟨λQ q=>SeqAt.in_tupleAt _ hi.isTuple (ZgO ra.str rv) q,λQ q=>SeqAt.notIn_tupleAt _ hi.isTuple (ZgO ra.str rv) q⟩
  | _=>exact nn h
 | bool y=>
  revert rb
  refine Zds (show ZdR _ b=_ from h) λl h=>Zdx h λls hl rb=>rb.ZbL λi vs hi rv _=>?_
  rw[ZhE hl] at rv
  exact inl hi (Zpy rv) (Zod ra.bool rv)
 | _=>exact nn h
theorem Zu9{a b:D}{va vb:Value}(ra:Rd0 P s.heap va a)(rb:Rd0 P s.heap vb b){c:Bool}(h:isD a b=some c):Zqs prog w A E s .Is .IsNot va vb c:=by
 cases a with
 | obj a=>
  revert rb
  refine Zo6 (show ZsZ _ b=_ from h) λb h=>ifS h λe h=>eqs h λrb=>ra.ZkB (rb.ZkB ?_)
  erw[rwl (e ..) ?_]
  exact⟨λQ q=>wpAny_is_ref_self q,λQ q=>wpAny_isNot_ref_self q⟩
 | str a=>
  revert rb
  refine Zo6 (show ZsZ _ b=_ from h) λb h=>eqs h λrb=>ra.Zba λ_ _=>rb.ZkB ?_
  exact⟨λQ q=>wpAny_is_other rfl (by nofun) q,λQ q=>wpAny_isNot_other rfl (by nofun) q⟩
 | _=>exact nn h
theorem ZnL{f:Int->Int->Bool}{g:List Nat->List Nat->Bool}{a b:D}{va vb:Value}{o:CmpOp}(ra:Rd0 P s.heap va a)(rb:Rd0 P s.heap vb b){c:Bool}(h:ZsR f g a b=some c){Q:Value->Shared->Prop}(q:Q (.bool c) s)
  (ki:∀x y t u,Q (.bool (f x y)) s->wpAny (model prog w) A (compareOp o (.int x t) (.int y u)) Q E s) (ks:∀x y t u,Q (.bool (g x y)) s->wpAny (model prog w) A (compareOp o (.str ⟨x.toArray⟩ t) (.str ⟨y.toArray⟩ u)) Q E s):wpAny (model prog w) A (compareOp o va vb) Q E s:=by
 cases a with
 | int a=>
  revert rb q
  exact Za2 (show intD _ b=_ from h) λb h=>eqs h λrb q=>ra.Za0 λ_=>rb.Za0 λ_=>ki _ _ _ _ q
 | str a=>
  revert rb q
  exact ZbG (show Zd2 _ b=_ from h) λb h=>eqs h λrb q=>ra.Zba λ_ _=>rb.Zba λ_ _=>ks _ _ _ _ q
 | _=>exact nn h
theorem ZkS{n:Nat}(L:Lv A n){op:Cop}{a b:D}{va vb:Value}(ra:Rd0 P s.heap va a)(rb:Rd0 P s.heap vb b){c:Bool}(h:cop op a b=some c){Q:Value->Shared->Prop}(q:Q (.bool c) s) :
  wpAny (model prog w) A (compareOp op.op va vb) Q E s:=by
 cases op with
 | eq=>
  have eq:eqD a b=some c->wpAny (model prog w) A (compareOp .Eq va vb) Q E s:=λh=>(s_eq L ra rb h).1 Q q
  cases a with
  | tuple a=>
   revert rb q
   refine ZbG (show Zd2 _ b=_ from h) λb h=>eqs h λrb q=>ra.Zc1 λi vs _ ht _ _=>rb.Zba λt _=>?_
   exact SeqAt.RcAt.tuple_str _ t ht.isTuple (Zmd L) prog w E Q q
  | _=>exact eq h
 | ne=>revert q;exact Zdx (show(eqD a b).map _=_ from h) λx h q=>(s_eq L ra rb h).2 Q q
 | lt=>exact ZnL ra rb h q (λ_ _ _ _ q=>PyProof.Rows.lt_int q) λ_ _ _ _ q=>PySem.P.lt_str (Zhs _ _▸q)
 | le=>exact ZnL ra rb h q (λ_ _ _ _ q=>PyProof.Rows.le_int q) λ_ _ _ _ q=>PySem.P.le_str (Zhs _ _▸q)
 | gt=>exact ZnL ra rb h q (λ_ _ _ _ q=>PyProof.Rows.gt_int q) λ_ _ _ _ q=>PySem.P.gt_str (Zhs _ _▸q)
 | ge=>exact ZnL ra rb h q (λ_ _ _ _ q=>PyProof.Rows.ge_int q) λ_ _ _ _ q=>PySem.P.ge_str (Zhs _ _▸q)
 | isin=>exact(Zu8 ra rb h).1 Q q
 | notin=>revert q;exact Zdx (show(inD a b).map _=_ from h) λx h q=>(Zu8 ra rb h).2 Q q
 | is_=>exact(Zu9 ra rb h).1 Q q
 | isnt=>revert q;exact Zdx (show(isD a b).map _=_ from h) λx h q=>(Zu9 ra rb h).2 Q q
theorem Zn8{a:D}{v:Value}(r:Rd0 P s.heap v a)(o:Ok Gd s){b:Bool}(h:tru a=some b){Q:Bool->Shared->Prop}(q:∀s',Gw s s'->Ok Gd s'->s'.heap=s.heap->Q b s'):wpAny (model prog w) A (truthy v) Q E s:=by
 have t2:Ok Gd { s with toks:=s.toks+1+1 }:=⟨o.gd,Nat.le_succ_of_le (Nat.le_succ_of_le o.tk)⟩
 have hz:sizeLine=16777216:=rfl
 revert q
 cases a with
 | none=>erw[rwl (r.none_inv ..) ?_];exact eqs h λq=>wpAny_pure (q s (.refl _) o rfl)
 | bool x=>exact r.ZmX (eqs h λq=>wpAny_truthy_bool (q s (.refl _) o rfl))
 | str l=>
  refine r.Zba λt hl=>eqs h λq=>?_
  refine PySem.P.truthy_str (by erw[rwl (str_len ..) ?_];lia) ?_
  have e:(((⟨l.toArray⟩:Str).length:Int) != 0) = !l.isEmpty:=by
   erw[rwl (str_len ..) ?_]
   cases l with
   | nil=>rfl
   | cons=>rfl
  erw[rwl (e ..) ?_]
  exact q _ (.tok ..) t2 rfl
 | list l=>
  refine r.ZbL λi vs hi rv hl=>eqs h λq=>?_
  refine wpAny_truthy_list hi.isList (by erw[rwl (List.size_toArray ..) (rwl (rv.length ..) ?_)];lia) ?_
  have e:(!vs.toArray.isEmpty) = !l.isEmpty:=by
   cases l with
   | nil=>erw[rwl (rv.nil_inv ..) ?_];rfl
   | cons=>exact rv.Zd0 λ_ _ _ _=>rfl
  erw[rwl (e ..) ?_]
  exact q _ (.tok ..) t2 rfl
 | _=>exact nn h
end
end
section
theorem ZkO{n:Nat}{i:Int}{k:Nat}{G:Prop}(h:idxOf n i=some k)(kp:0<=i->i < n->i.toNat=k->G)(kn:i < 0->0<=i+n->(i+n).toNat=k->G):G:=by
 unfold idxOf at h
 by_cases q:0<=i
 ·rw[if_pos q] at h
  exact ifS h λq2 e=>kp q q2 (Option.some.inj e)
 ·rw[if_neg q] at h
  exact ifS h λq2 e=>kn (Int.not_le.mp q) q2 (Option.some.inj e)
theorem Zdm{n:Nat}{i:Int}{k:Nat}(h:idxOf n i=some k):seqIndex? i n=some k∧k < n:=by
 refine ZkO h (λh0 h1 e=>?_) λh0 h1 e=>?_
 ·have h2 : ¬i < 0:=Int.not_lt.mpr h0
  have:k < n:=by lia
  refine⟨?_,this⟩
  simp[seqIndex?,h2,h1,h0,e]
 ·have:k < n:=by lia
  refine⟨?_,this⟩
  have h2:i+n < n:=by lia
  simp[seqIndex?,h0,h1,h2,e]
theorem Zfp{i:Int}(h:ZdN i=true) : -1000000000<=i∧i<=1000000000:=of_decide_eq_true h
theorem szv:sizeLine=16777216:=rfl
section
variable {prog:Program}{w:World}{A:Around}{E:Value->Shared->Prop}{s:Shared}{P:Addr->Prop}{base:Addr->Prop}{mg mb:Str->Option Value}{Gd:Heap->Prop}{Q:Value->Shared->Prop}
theorem ZrK{a b d:D}{va vb:Value}(o:Ok Gd s)(ra:Rd0 P s.heap va a)(rb:Rd0 P s.heap vb b)(h:Zk8 a b=some d)(k:Kc Gd P d Q s) :
  wpAny (model prog w) A (getItem va vb) Q E s:=by
 have hz:=szv
 cases a with
 | str l=>
  revert rb
  refine Za2 (show intD _ b=_ from h) λi h=>ifS h λhi h=>Zac h λj hx h=>Zdy h λc hc e rb=>ra.Zba λ_ hl=>rb.Za0 λ_=>?_
  have hi:=Zfp hi
  obtain⟨hs,hj⟩:=Zdm hx
  refine PyProof.Rows.getItem_str (c:=c) (by simp;lia) (by erw[rwl (str_len ..) (rwl (hs ..) ?_)];exact(List.getElem?_toArray ..).trans hc) (k.ZkI o ?_)
  exact e▸.str [c] _ (by erw[rwl (hz ..) ?_];exact Nat.le_of_ble_eq_true rfl)
 | list l=>
  revert rb
  refine Za2 (show intD _ b=_ from h) λi h=>ifS h λhi h=>Zac h λj hx h rb=>ra.ZbL λa vs hl rv hz=>rb.Za0 λ_=>?_
  have hi:=Zfp hi
  have e1:=rv.length
  obtain⟨v,hv,rd⟩:=rv.get h
  have hv':vs.toArray[j]? = some v:=(List.getElem?_toArray ..).trans hv
  have hq:Q v s:=k.same o rd
  refine ZkO hx (λh0 h1 e=>?_) λh0 h1 e=>?_
  ·exact wpAny_getItem_list hl.isList (by lia) (by lia) (by erw[rwl (e ..) ?_];exact hv') hq
  ·exact wpAny_getItem_list_neg hl.isList (by lia) (by erw[rwl (List.size_toArray ..) (rwl (e1 ..) ?_)];lia) (by lia) (by erw[rwl (List.size_toArray ..) (rwl (e1 ..) (rwl (e ..) ?_))];exact hv') hq
 | tuple l=>
  revert rb
  refine Za2 (show intD _ b=_ from h) λi h=>ifS h λhi h=>Zac h λj hx h rb=>ra.Zc1 λa vs _ hl rv hz=>rb.Za0 λ_=>?_
  have hi:=Zfp hi
  obtain⟨n,hl⟩:=hl
  obtain⟨v,hv,rd⟩:=rv.get h
  obtain⟨hs,hj⟩:=Zdm hx
  exact PySem.P.getItem_tuple hl (by lia) (by lia) (by erw[rwl (List.size_toArray ..) (rwl (rv.length ..) ?_)];exact hs) ((List.getElem?_toArray ..).trans hv) (k.same o rd)
 | _=>exact nn h
theorem ZdA(a b:Nat):sliceRange (a:Int) (b:Int) 1=List.range' a (b - a):=by
 have e:(if(a:Int) < b then((b:Int) - a+1 - 1) / 1 else 0).toNat=b - a:=by
  erw[rwl (Int.ediv_one ..) (rwl (Int.add_sub_cancel ..) ?_)]
  rcases Nat.lt_or_ge a b with h | h
  ·erw[rwl (if_pos (Int.ofNat_lt.mpr h) ..) (rwr (Int.ofNat_sub (Nat.le_of_lt h) ..) ?_)];rfl
  ·erw[rwl (if_neg (Int.not_lt.mpr (Int.ofNat_le.mpr h)) ..) (rwl (Nat.sub_eq_zero_of_le h ..) ?_)];rfl
 show(List.range (if(a:Int) < b then((b:Int) - a+1 - 1) / 1 else 0).toNat).map (λ(k:Nat)=>((a:Int)+1 * (k:Int)).toNat)=_
 erw[rwl (e ..) (rwl (List.range'_eq_map_range ..) ?_)]
 exact List.map_congr_left λk _=>by erw[rwl (Int.one_mul ..) (rwr (Int.natCast_add ..) ?_)];rfl
theorem Zf6{α:Type}(l:List α):∀(m a:Nat),a+m<=l.length->(List.range' a m).filterMap (λi=>l[i]?)=(l.drop a).take m
 | 0,_,_=>rfl
 | m+1,a,h=>by
  have ha:a < l.length:=Nat.lt_of_lt_of_le (Nat.lt_add_of_pos_right (Nat.succ_pos m)) h
  rw[List.range'_succ,List.filterMap_cons,List.getElem?_eq_getElem ha,Zf6 l m (a+1) (by lia),List.drop_eq_getElem_cons ha]
  rfl
theorem ZeE(a b:Nat)(n:Nat)(hb:b<=n){α:Type}(l:List α)(hl:l.length=n) :
  (sliceRange (a:Int) (b:Int) 1).filterMap (λi=>l[i]?)=(l.take b).drop a:=by
 erw[rwl (ZdA ..) (rwl (List.drop_take ..) ?_)]
 rcases Nat.le_total a b with h | h
 ·exact Zf6 l _ _ (by lia)
 ·erw[rwl (Nat.sub_eq_zero_of_le h ..) ?_];rfl
theorem Zll(n:Nat)(i:Int):max 0 (min (if i < 0 then i+n else i) (n:Int))=((min (ZdH n i) n:Nat):Int):=by
 unfold ZdH
 by_cases h:i < 0
 ·erw[rwl (if_pos h ..) (rwl (if_pos h ..) ?_)]
  have hn:i+n<=n:=by lia
  erw[rwl (Int.min_eq_left hn ..) ?_]
  rcases Int.le_total 0 (i+n) with q | q
  ·obtain⟨k,e⟩:=Int.eq_ofNat_of_zero_le q
   rw[e] at hn ⊢
   erw[rwl (Int.max_eq_right (Int.natCast_nonneg k) ..) (rwl (Int.toNat_natCast ..) (rwl (Nat.min_eq_left (Int.ofNat_le.mp hn) ..) ?_))]
  ·erw[rwl (Int.max_eq_left q ..) (rwl (Int.toNat_of_nonpos q ..) (rwl (Nat.zero_min ..) ?_))];rfl
 ·erw[rwl (if_neg h ..) (rwl (if_neg h ..) ?_)]
  obtain⟨k,rfl⟩:=Int.eq_ofNat_of_zero_le (Int.not_lt.mp h)
  erw[rwl (Int.toNat_natCast ..) (rwl (Nat.min_assoc ..) (rwl (Nat.min_self ..) (rwl (Int.max_eq_right (Int.le_min.mpr ⟨Int.natCast_nonneg k,Int.natCast_nonneg n⟩) ..) ?_)))]
  rcases Nat.le_total k n with q | q
  ·erw[rwl (Nat.min_eq_left q ..) (rwl (Int.min_eq_left (Int.ofNat_le.mpr q) ..) ?_)]
  ·erw[rwl (Nat.min_eq_right q ..) (rwl (Int.min_eq_right (Int.ofNat_le.mpr q) ..) ?_)]
theorem ZsO(n:Nat)(lo:Option Int):(lo.map λ(i:Int)=>max 0 (min (if i < 0 then i+(n:Int) else i) (n:Int))).getD 0=((min ((lo.map (ZdH n)).getD 0) n:Nat):Int):=by
 cases lo with
 | none=>exact congrArg Nat.cast (Nat.zero_min n).symm
 | some i=>exact Zll n i
theorem Zs5(n:Nat)(hi:Option Int):(hi.map λ(i:Int)=>max 0 (min (if i < 0 then i+(n:Int) else i) (n:Int))).getD (n:Int)=((min ((hi.map (ZdH n)).getD n) n:Nat):Int):=by
 cases hi with
 | none=>exact congrArg Nat.cast (Nat.min_self n).symm
 | some i=>exact Zll n i
theorem ZmI{α:Type}(l:List α)(a b:Nat):(l.take (min b l.length)).drop (min a l.length)=(l.take b).drop a:=by
 erw[rwr (List.take_eq_take_min ..) ?_]
 rcases Nat.le_total a l.length with h | h
 ·erw[rwl (Nat.min_eq_left h ..) ?_]
 ·erw[rwl (Nat.min_eq_right h ..) (rwl (List.drop_of_length_le (List.length_take_le' _ _) ..) (rwl (List.drop_of_length_le (Nat.le_trans (List.length_take_le' _ _) h) ..) ?_))]
theorem Zex{α:Type}(l:List α)(lo hi:Option Int) :
  (sliceRange ((lo.map λi=>max 0 (min (if i < 0 then i+(l.length:Int) else i) (l.length:Int))).getD 0) ((hi.map λi=>max 0 (min (if i < 0 then i+(l.length:Int) else i) (l.length:Int))).getD (l.length:Int)) 1).filterMap (λi=>l[i]?)=slice l lo hi:=by
 erw[rwl (ZsO ..) (rwl (Zs5 ..) (rwl (ZeE _ _ l.length (Nat.min_le_right _ _) l rfl ..) ?_))]
 exact ZmI l _ _
theorem Zg2{α:Type}(l:List α)(lo hi:Option Int):(slice l lo hi).length<=l.length:=
 Nat.le_trans (List.length_drop▸Nat.sub_le _ _) (List.length_take_le' _ _)
theorem ZhL(vs:List Value)(lo hi:Option Int):slicePick vs.toArray lo hi none=(slice vs lo hi).toArray:=by
 unfold slicePick sliceBounds
 erw[rwr (Zex vs lo hi ..) ?_]
 simp only[Option.getD_none,show(1:Int) > 0 by decide,if_true]
 congr 1
 cases lo<;>cases hi<;>simp
theorem Zad.slice{h:Heap}{vs:List Value}{ds:List D}(r:Zad P h vs ds)(lo hi:Option Int):Zad P h (slice vs lo hi) (slice ds lo hi):=by
 unfold Mine.Internal.slice
 erw[rwl (r.length ..) ?_]
 exact(r.take _).drop _
theorem Zj8(l:List Nat)(t:Tok)(lo hi:Option (Int×Tok)):(slicePicked ⟨l.toArray⟩ lo hi none).filterMap ((⟨l.toArray⟩:Str).cps[·]?)=slice l (lo.map (·.1)) (hi.map (·.1)):=by
 unfold slicePicked Builtin.Str.strSliceIndices
 erw[rwr (Zex l ..) ?_]
 simp only[Option.map_none,Option.getD_none,show(1:Int) > 0 by decide,if_true,str_len]
 cases lo<;>cases hi<;>simp
theorem ZfP(a b:Nat):(sliceRange (a:Int) (b:Int) 1).length=b - a:=by erw[rwl (ZdA ..) (rwl (List.length_range' ..) ?_)]
theorem ZpU{H L n:Nat}(h:min H n - min L n=n):min H n - L=n:=by
 rcases Nat.le_total L n with q | q
 ·rw[Nat.min_eq_left q] at h;exact h
 ·rw[Nat.min_eq_right q] at h
  have:n=0:=by have:=Nat.min_le_right H n;lia
  erw[rwl (this ..) (rwl (Nat.min_zero ..) (rwl (Nat.zero_sub ..) ?_))]
theorem Zmz{H L n:Nat}(h:min H n - L=n)(h0:n≠0):n<=H∧L=0:=by
 have:=Nat.min_le_right H n
 have:=Nat.min_le_left H n
 lia
theorem Zk1{α:Type}(l:List α)(lo hi:Option Int)(h:(slice l lo hi).length=l.length):slice l lo hi=l:=by
 unfold slice at h ⊢
 rw[List.length_drop,List.length_take] at h
 by_cases h0:l.length=0
 ·erw[rwl (List.length_eq_zero_iff.mp h0 ..) (rwl (List.take_nil ..) (rwl (List.drop_nil ..) ?_))]
 ·obtain⟨h1,h2⟩:=Zmz h h0
  erw[rwl (List.take_of_length_le h1 ..) (rwl (h2 ..) (rwl (List.drop_zero ..) ?_))]
theorem Zig(l:List Nat)(lo hi:Option (Int×Tok))(h:(slicePicked ⟨l.toArray⟩ lo hi none).length=l.length):slice l (lo.map (·.1)) (hi.map (·.1))=l:=by
 have e:slicePicked ⟨l.toArray⟩ lo hi none=sliceRange (((lo.map (·.1)).map λi=>max 0 (min (if i < 0 then i+(l.length:Int) else i) (l.length:Int))).getD 0) (((hi.map (·.1)).map λi=>max 0 (min (if i < 0 then i+(l.length:Int) else i) (l.length:Int))).getD (l.length:Int)) 1:=by
  cases lo<;>cases hi<;>rfl
 rw[e,ZsO,Zs5,ZfP] at h
 refine Zk1 l _ _ ?_
 unfold slice
 erw[rwl (List.length_drop ..) (rwl (List.length_take ..) ?_)]
 exact ZpU h
theorem ZjI{v:Value}{x:D}{y:Option Int}(r:Rd0 P s.heap v x)(e:Zjw x=some y):∃z:Option (Int×Tok),v=partValue z∧z.map (·.1)=y∧IsPart v y:=by
 cases x with
 | none=>exact eqs e (r.none_inv▸⟨none,rfl,rfl,.none⟩)
 | int i=>exact eqs e (r.Za0 λt=>⟨some (i,t),rfl,rfl,.int _ _⟩)
 | _=>exact nn e
set_option tactic.hygienic true in
theorem ZuN(G:Gr base mg mb Gd){a lo hi d:D}{va vl vu:Value}{sl:Addr}(o:Ok Gd s)(hP:Pf P s.heap)(ra:Rd0 P s.heap va a)(rl:Rd0 P s.heap vl lo)(ru:Rd0 P s.heap vu hi)
  (hs:s.heap.get? sl=some { cls:=.type "slice",data:=.fields #[vl,vu,.none] }) (h:Zuz a lo hi=some d) (k:Kc Gd P d Q s) :
  wpAny (model prog w) A (getItem va (.ref sl)) Q E s:=by
 refine Zac h λlo' e1 h=>Zac h λhi' e2 h=>?_
 obtain⟨zl,el,hzl,pl⟩:=ZjI rl e1
 obtain⟨zu,eu,hzu,pu⟩:=ZjI ru e2
 revert k
 cases a with
 | str l=>
  refine eqs h λk=>ra.Zba λt hl=>?_
  rw[el,eu] at hs
  refine wpAny_getItem_str_slice (l:=zl) (u:=zu) (st:=none) ⟨_,hs,rfl,rfl⟩ rfl ?_
  unfold sliceMade
  rw[←hzl,←hzu] at k
  split
  ·rename_i hc
   rw[Zig l zl zu ((eq_of_beq hc).trans (str_len l))] at k
   exact k.same o (.str _ _ hl)
  ·erw[rwl (Zj8 l t zl zu ..) ?_]
   have hlen:=Nat.le_trans (Zg2 l (zl.map (·.1)) (zu.map (·.1))) hl
   exact⟨str_len _▸hlen,k.ZkI o (.str _ _ hlen)⟩
 | list l=>
  refine eqs h λk=>ra.ZbL λa vs hl rv hz=>?_
  have e3:=rv.slice lo' hi'
  have hlen:=Nat.le_trans (Zg2 l lo' hi') hz
  refine wpAny_getItem_list_slice hl.isList ⟨_,hs,rfl,rfl⟩ pl pu .none (by simp) (k.push o G ?_) (by erw[rwl (List.size_toArray ..) (rwl (rv.length ..) ?_)];exact hz)
  refine .list (vs:=Mine.Internal.slice vs lo' hi') (hP.fresh (Zau _)) ⟨0,?_⟩ (e3.kp (.push _ _)) hlen
  erw[rwl (Heap.get?_push_size _ rfl ..) (rwl (ZhL ..) ?_)]
 | _=>exact nn h
end
end
section
open PySem.Builtin PySem.Builtin.Str PySem.StrLaws
theorem ZiC(x y:Str)(lo hi limit:Nat)(hl:1<=limit) :
  (occurrences x y lo hi limit=[]∧∀i,lo<=i->¬At x y hi i)∨
  ∃i r,occurrences x y lo hi limit=i::r∧lo<=i∧At x y hi i∧∀k,lo<=k->k < i->¬At x y hi k:=by
 rw[occ_eq]
 rcases occ_first x y hi limit hl (List.range' lo (hi+1 - lo)) lo (λi hi=>(List.mem_range'_1.mp hi).1) with⟨h0,hn⟩ | ⟨pre,a,post,e,h0,ha,hn⟩
 ·refine .inl ⟨by rw[h0],λi hlo hi'=>?_⟩
  exact hn i (List.mem_range'_1.mpr (Zt0 hlo hi'.1)) hi'
 ·obtain⟨h1,h2⟩:=range'_split_from e
  have hne:∀(l:List Nat),l[0]? = some a->∃r,l=a::r:=by
   intro l hl
   cases l with
   | nil=>cases hl
   | cons b r=>simp at hl;exact⟨r,by rw[hl]⟩
  obtain⟨r,hr⟩:=hne (forIn (List.range' lo (hi+1 - lo)) ((#[]:Array Nat),lo) (occBody x y hi limit)).run.fst.toList (by simpa using h0)
  exact .inr ⟨a,r,hr,h1,ha,λk hk hk'=>hn k (h2 k hk hk')⟩
theorem Zjf(l:List Nat)(c lo hi:Nat)(hh:hi<=l.length) :
  (match occurrences ⟨l.toArray⟩ ⟨#[c]⟩ lo hi 1 with | k::_=>(k:Int) | []=>-1)=ZeC c l lo hi:=by
 have at1:∀i,At ⟨l.toArray⟩ ⟨#[c]⟩ hi i↔(i < hi∧l[i]? = some c):=by
  intro i
  have h1:(i+1<=l.length∧subAt ⟨l.toArray⟩ ⟨#[c]⟩ i=true)↔l[i]? = some c:=by
   have h1:=subAt_one ⟨l.toArray⟩ c i
   rw[show(⟨l.toArray⟩:Str).length=l.length from str_len l] at h1
   rw[show(⟨#[c]⟩:Str).length=1 from rfl] at h1
   simpa using h1
  have e1:(⟨#[c]⟩:Str).length=1:=rfl
  unfold At
  rw[e1]
  constructor
  ·intro h;exact⟨by lia,h1.mp ⟨by lia,h.2⟩⟩
  ·intro h;exact⟨by lia,(h1.mpr h.2).2⟩
 unfold ZeC
 rcases ZiC ⟨l.toArray⟩ ⟨#[c]⟩ lo hi 1 (Nat.le_refl _) with⟨e,hn⟩ | ⟨i,r,e,h1,h2,h3⟩
 ·rw[e]
  have:(List.range' lo (hi - lo)).find? (λi=>l[i]?==some c)=none:=by
   rw[List.find?_eq_none]
   intro i hi' h
   have:=List.mem_range'_1.mp hi'
   exact hn i (by lia) ((at1 i).mpr ⟨by lia,by simpa using h⟩)
  rw[this]
 ·rw[e]
  have h2':=(at1 i).mp h2
  have:(List.range' lo (hi - lo)).find? (λi=>l[i]?==some c)=some i:=by
   rw[List.find?_range'_eq_some]
   refine⟨by simpa using h2'.2,by rw[List.mem_range'_1];lia,λj hj hj'=>?_⟩
   have:=h3 j hj hj'
   rw[at1] at this
   simp only[Bool.not_eq_true',beq_eq_false_iff_ne,ne_eq]
   intro q;exact this ⟨by lia,q⟩
  rw[this]
theorem ZiH(x y:Str)(i j:Int)(t u v z:Tok):Gives («str.find» ⟨[.str x t,.str y u,.int i v,.int j z],[]⟩) (.int (match occurrences x y (fromIndex x.length i) (min (fromIndex x.length j) x.length) 1 with | k::_=>(k:Int) | []=>-1)):=by
 show Gives (match occurrences x y (fromIndex x.length i) (min (fromIndex x.length j) x.length) 1 with | k::_=>retInt k | []=>(do rule "str.find.not-found";retInt (-1))) _
 cases occurrences x y (fromIndex x.length i) (min (fromIndex x.length j) x.length) 1 with
 | nil=>exact .rule (.of_eq rfl)
 | cons k _=>exact .of_eq rfl
noncomputable def Bfn.val:Bfn->Value
 | .len=>.builtin "len" | .chr=>.builtin "chr" | .sum=>.builtin "sum" | .list=>.type "list"
section
variable {prog:Program}{w:World}{A:Around}{E:Value->Shared->Prop}{s:Shared}{P:Addr->Prop}{base:Addr->Prop}{mg mb:Str->Option Value}{Gd:Heap->Prop}{Q:Value->Shared->Prop}
theorem Zgz{n:Nat}{i:Int}(h:0<=i):fromIndex n i=i.toNat:=by unfold fromIndex;erw[rwl (if_neg (Int.not_lt.mpr h) ..) (rwl (Int.max_eq_right h ..) ?_)]
theorem Zp2{l:List Nat}{c:Nat}{i:Int}{va vb vi:Value}(o:Ok Gd s)(ra:Rd0 P s.heap va (.str l))(rb:Rd0 P s.heap vb (.str [c]))(ri:Rd0 P s.heap vi (.int i))(h0:0<=i)(k:Kc Gd P (.int (ZeC c l i.toNat l.length)) Q s) :
  wpAny (model prog w) A (call (.builtin "str.find") [va,vb,vi]) Q E s:=by
 refine ra.Zba λ_ _=>rb.Zba λ_ _=>ri.Za0 λ_=>SC.find3 ?_
 have e:Txt.find3 ⟨l.toArray⟩ ⟨[c].toArray⟩ i=ZeC c l i.toNat l.length:=by
  unfold Txt.find3
  erw[rwl (str_len ..) (rwr (Zjf l c i.toNat l.length (Nat.le_refl _) ..) (rwl (Zgz h0 ..) ?_))]
  rfl
 erw[rwl (e ..) ?_]
 exact k.ZkI o (.int _ _)
theorem Zpz{l:List Nat}{c:Nat}{i j:Int}{va vb vi vj:Value}(o:Ok Gd s)(ra:Rd0 P s.heap va (.str l))(rb:Rd0 P s.heap vb (.str [c]))(ri:Rd0 P s.heap vi (.int i))(rj:Rd0 P s.heap vj (.int j))(h0:0<=i)(h1:0<=j)(h2:j<=l.length)
  (k:Kc Gd P (.int (ZeC c l i.toNat j.toNat)) Q s) :
  wpAny (model prog w) A (call (.builtin "str.find") [va,vb,vi,vj]) Q E s:=by
 refine ra.Zba λ_ _=>rb.Zba λ_ _=>ri.Za0 λ_=>rj.Za0 λ_=>?_
 have hj:j.toNat<=l.length:=Int.toNat_le.mpr h2
 rw[←Zjf l c i.toNat j.toNat hj] at k
 refine call_gives F.slot_str_find (typeIs_str _ _ _) F.entry_str_find (F.args_str_find_4 _ _ _ _) (ZiH _ _ i j _ _ _ _) ?_
 erw[rwl (Zgz h0 ..) (rwl (Zgz h1 ..) (rwl (str_len ..) (rwl (Nat.min_eq_left hj ..) ?_)))]
 exact k.ZkI o (.int _ _)
theorem Zfh(xs:List Int):∀m,m<=xs.length->preSum (λj=>xs.getD j 0) m=(xs.take m).sum
 | 0,_=>rfl
 | m+1,hm=>by
  rw[preSum,Zfh xs m (Nat.le_of_succ_le hm),List.take_add_one,List.sum_append,List.getD_eq_getElem?_getD,List.getElem?_eq_getElem hm]
  exact congrArg (_ + ·) (Int.add_zero _).symm
theorem ZuP(G:Gr base mg mb Gd){n:Nat}(L:Lv A n){xs:List Int}{v:Value}(o:Ok Gd s)(ra:Rd0 P s.heap v (.list (xs.map .int)))(k:Kc Gd P (.int xs.sum) Q s):wpAny (model prog w) A (call (.builtin "sum") [v]) Q E s:=by
 refine ra.ZbL λi vs hi rv hl=>call_sum_walkAnyS (wpAny_pyIter_list hi.isList ?_)
 have e1:=rv.length
 rw[List.length_map] at e1
 have hlt:=Heap.lt_size hi.choose_spec
 have hi2:(s.heap.push { cls:=.type "list_iterator",data:=.fields #[.ref i,.int 0 0] }).IsList i vs.toArray:=Zqe hi.isList (.push _ _)
 refine⟨s.heap.objs.size,_,_,_,_,_,_,λj=>xs.getD j 0,rfl,(Walks.list (prog:=prog) (w:=w) (A:=A.in1) L.hd s.heap.objs.size i (Nat.ne_of_lt hlt) vs.toArray).toS,⟨⟨_,Heap.get?_push_size _ rfl,rfl,rfl⟩,hi2⟩,λb hb=>?_,λj v hv=>?_,λs' t' m=>?_⟩
 ·simp only[Heap.size_push]
  simp at hb
  exact hb.elim (λe=>e▸Nat.lt_succ_self _) λe=>e▸Nat.lt_succ_of_lt hlt
 ·obtain⟨d,hd,rd⟩:=rv.Zu0 ((List.getElem?_toArray ..).symm.trans hv)
  rw[List.getElem?_map] at hd
  refine Zdy hd λx hj e=>?_
  obtain⟨t,e2⟩:=(e▸rd:Rd P s.heap v (.int x)).int_inv
  refine⟨t,?_⟩
  show v=Value.int (xs.getD j 0) t
  erw[rwl (e2 ..) (rwl (List.getD_eq_getElem?_getD ..) (rwl (hj ..) ?_))];rfl
 ·have e2:preSum (λj=>xs.getD j 0) vs.toArray.size=xs.sum:=by
   erw[rwl (List.size_toArray ..) (rwl (e1 ..) (rwl (Zfh xs _ (Nat.le_refl _) ..) (rwl (List.take_length ..) ?_)))]
  erw[rwl (e2 ..) ?_]
  have hk:∀b o,s.heap.get? b=some o->s'.heap.get? b=some o:=λb o e=>m.heap b o (by simp;intro q;rw[q] at e;exact absurd (Heap.lt_size e) (Nat.lt_irrefl _)) (Heap.get?_push_of_some _ e)
  exact k _ s' ⟨.of hk,λb o e=>⟨o,hk b o e⟩,m.os.trans rfl,λg=>by erw[rwl (m.gens ..) ?_];exact g⟩ ⟨G.keeps o.gd hk,Nat.le_trans o.tk m.toks⟩ (.int _ _)
theorem ZiZ{h':Heap}:∀(ls:List Nat) (vs:List Value),vs.length=ls.length->(∀(j:Nat) (v:Value),vs[j]? = some v->∃c u,ls[j]? = some c∧v=Value.str ⟨#[c]⟩ u)->Zad P h' vs (ls.map λc=>D.str [c])
 | [],_,e,_=>List.length_eq_zero_iff.mp e▸.nil
 | c::ls,vs,e,hv=>by
  cases vs with
  | nil=>exact absurd e.symm (Nat.succ_ne_zero _)
  | cons v vs=>
   obtain⟨c',u,h3,h4⟩:=hv 0 v rfl
   erw[rwl (h4 ..) (rwl (Option.some.inj h3 ..) ?_)]
   exact .cons (.str [c'] u (Nat.le_of_ble_eq_true rfl)) (ZiZ ls vs (Nat.succ.inj e) λj v hj=>hv (j+1) v hj)
theorem ZtR(G:Gr base mg mb Gd){n:Nat}(L:Lv A n){b:Bfn}{a d:D}{v:Value}(o:Ok Gd s)(hP:Pf P s.heap)(ra:Rd0 P s.heap v a)(h:bfn b a=some d)(k:Kc Gd P d Q s) :
  wpAny (model prog w) A (call b.val [v]) Q E s:=by
 have hz:=szv
 revert ra k
 cases b with
 | len=>
  have h:Zvl a=some d:=h
  cases a with
  | str l=>
   refine eqs h λra k=>ra.Zba λt hl=>PySem.P.len_str (by erw[rwl (str_len ..) ?_];lia) ?_
   erw[rwl (str_len ..) ?_]
   exact k.Zvu o (.int _ _)
  | list l=>
   refine eqs h λra k=>ra.ZbL λi vs hi rv hl=>?_
   rw[←rv.length] at k hl
   exact len_list hi.isList (by erw[rwl (List.size_toArray ..) ?_];lia) (k.Zvu o (.int _ _))
  | _=>exact nn h
 | chr=>
  refine Za2 (show intD _ a=_ from h) λi h=>ifS h λhc h=>eqs h λra k=>ra.Za0 λ_=>?_
  exact PySem.P.chr_of_int (by simp;lia) (k.ZkI o (.str [i.toNat] _ (Nat.le_of_ble_eq_true rfl)))
 | sum=>exact Zds (show ZdR _ a=_ from h) λl h=>Zdx h λxs hx ra k=>ZuP G L o (ints_get hx▸ra) k
 | list=>
  refine ZbG (show Zd2 _ a=_ from h) λl h=>eqs h λra k=>ra.Zba λt hl=>wrap o.tk ?_
  refine call_list_str L.hd ⟨l.toArray⟩ t (λh' tk acc' c' hk hS hacc ht=>k.heap o G hk ht ?_) hl
  have ⟨h1,h2⟩:=hacc
  exact .list (vs:=acc'.toList) (hP.fresh (Zau _)) ⟨c',by simpa using hS⟩ (ZiZ l acc'.toList (by simpa using h1) λj v hj=>let ⟨c,u,h3,h4⟩:=h2 j v ((Array.getElem?_toList ..).symm.trans hj);⟨c,u,(List.getElem?_toArray ..).symm.trans h3,h4⟩) (by erw[rwl (List.length_map ..) ?_];exact hl)
end
end
section
open PySem.Builtin PySem.Builtin.Str PySem.StrLaws
theorem Zeb(c:Nat)(z:List Nat):∀l:List Nat,c ∉ l->Zbe c z l=l
 | [],_=>rfl
 | k::r,h=>by
  have h1 : ¬k=c:=λe=>h (e▸List.mem_cons_self ..)
  have ih:=Zeb c z r λm=>h (List.mem_cons_of_mem _ m)
  unfold Zbe at ih ⊢
  erw[rwl (List.flatMap_cons ..) (rwl (ih ..) (rwl (if_neg h1 ..) ?_))];rfl
theorem ZhZ(c:Nat)(z a b:List Nat):Zbe c z (a++b)=Zbe c z a++Zbe c z b:=by unfold Zbe;erw[rwl (List.flatMap_append ..) ?_]
theorem Zhf(c:Nat)(z:List Nat):∀parts:List Str,(∀p∈parts,c ∉ p.cps.toList)->Zbe c z (Str.join ⟨#[c]⟩ parts).cps.toList=(Str.join ⟨z.toArray⟩ parts).cps.toList
 | [],_=>rfl
 | [p],h=>Zeb c z _ (h p (List.mem_singleton.mpr rfl))
 | p::q::r,h=>by
  have ih:=Zhf c z (q::r) λa ha=>h a (List.mem_cons_of_mem _ ha)
  show Zbe c z (p++⟨#[c]⟩++Str.join ⟨#[c]⟩ (q::r)).cps.toList=(p++⟨z.toArray⟩++Str.join ⟨z.toArray⟩ (q::r)).cps.toList
  simp only[Str.cps_append,Array.toList_append,ZhZ]
  erw[rwl (ih ..) (rwl (Zeb c z _ (h p (List.mem_cons_self ..)) ..) ?_)]
  simp[Zbe]
theorem ZdO(x:Str)(c:Nat)(z:List Nat):(Txt.replace x ⟨#[c]⟩ ⟨z.toArray⟩).cps.toList=Zbe c z x.cps.toList:=by
 erw[rwl (StrLaws.replace_one ..) (rwr (Zhf c z _ (StrLaws.split_free x c) ..) (rwl (StrLaws.join_split ..) ?_))]
theorem Zmp(c:Nat)(z:List Nat)(l:List Nat):(Zbe c z l).length<=l.length * (z.length+1):=by
 induction l with
 | nil=>simp[Zbe]
 | cons a r ih=>
  unfold Zbe at ih ⊢
  erw[rwl (List.flatMap_cons ..) (rwl (List.length_append ..) (rwl (List.length_cons ..) (rwl (Nat.succ_mul ..) ?_)))]
  have h1:(if a=c then z else [a]).length<=z.length+1:=by split<;>simp
  lia
theorem Zdr(sep:List Nat):∀ls:List (List Nat),(Str.join ⟨sep.toArray⟩ (ls.map λl=>(⟨l.toArray⟩:Str))).cps.toList=ZbX sep ls
 | []=>rfl
 | [x]=>by simp[Str.join,Zl6,Zle,Zim]
 | x::y::r=>by
  have ih:=Zdr sep (y::r)
  show((⟨x.toArray⟩:Str)++⟨sep.toArray⟩++Str.join ⟨sep.toArray⟩ ((y::r).map λl=>(⟨l.toArray⟩:Str))).cps.toList=_
  simp only[Str.cps_append,Array.toList_append,ih,Zl6,Zle,Zim]
theorem Zfl(sep:List Nat):∀ls:List (List Nat),(ZbX sep ls).length<=(ls.map (·.length)).sum+ls.length * sep.length
 | []=>Nat.zero_le _
 | [x]=>by simp[Zl6,Zle,Zim]
 | x::y::r=>by
  have ih:=Zfl sep (y::r)
  simp only[Zl6,Zle,Zim,List.length_append,List.map_cons,List.sum_cons,List.length_cons,Nat.succ_mul] at ih ⊢
  lia
theorem Zgc{h:Heap}{P:Addr->Prop}:∀{vs:List Value} {ls:List (List Nat)},Zad P h vs (ls.map .str)->StrsAre vs (ls.map λl=>(⟨l.toArray⟩:Str))
 | [],[],_=>.nil
 | v::vs,x::ls,r=>by
  cases r with | cons r1 r2=>
  obtain⟨_,t,rfl⟩:=r1.str_inv
  exact .cons _ t (Zgc r2)
section
variable {prog:Program}{w:World}{A:Around}{E:Value->Shared->Prop}{s:Shared}{P:Addr->Prop}{base:Addr->Prop}{mg mb:Str->Option Value}{Gd:Heap->Prop}{Q:Value->Shared->Prop}
theorem Zr5{l:List Nat}{c:Nat}{z:List Nat}{va:Value}{t:Tok}(o:Ok Gd s)(ra:Rd0 P s.heap va (.str l))(ht:t≠0)(hz:z.length<=9)(hl:l.length<=1000000)(hne:z≠[c])
  (k:Kc Gd P (.str (Zbe c z l)) Q s) :
  wpAny (model prog w) A (call (.builtin "str.replace") [va,.str ⟨#[c]⟩ t,.str ⟨z.toArray⟩ (t+1)]) Q E s:=by
 obtain⟨_,_,rfl⟩:=ra.str_inv
 refine wrap o.tk ?_
 refine SC.replaceW (hu:=ht) (hv:=Nat.succ_ne_zero t) (huv:=Nat.ne_of_lt (Nat.lt_succ_self t)) (hyz:=?_) (hx:=by erw[rwl (str_len ..) ?_];lia) (hz:=by erw[rwl (str_len ..) ?_];lia) λt' k' ht'=>k.tok o ht' (ZgT ?_ ?_)
 ·erw[rwl (propext (beq_eq_false_iff_ne ..)) ?_]
  intro q
  have:=congrArg (λx:Str=>x.cps.toList) q
  simp at this
  exact hne this.symm
 ·exact ZdO ⟨l.toArray⟩ c z
 ·have h1:=Zmp c z l
  have h2:l.length * (z.length+1)<=1000000 * 10:=Nat.mul_le_mul hl (by lia)
  erw[rwl (szv ..) ?_];lia
theorem ZoX{sep:List Nat}{ls:List (List Nat)}{va:Value}{D:Addr}{vs:List Value}(o:Ok Gd s)(ra:Rd0 P s.heap va (.str sep))(hD:s.heap.IsList D vs.toArray)(rv:Zad P s.heap vs (ls.map .str))
  (h1:ls.length<=1000000) (h2:sep.length<=4) (h3:(ls.map (·.length)).sum<=1000000) (k:Kc Gd P (.str (ZbX sep ls)) Q s) :
  wpAny (model prog w) A (call (.builtin "str.join") [va,.ref D]) Q E s:=by
 obtain⟨_,_,rfl⟩:=ra.str_inv
 have h4:ls.length * sep.length<=1000000 * 4:=Nat.mul_le_mul h1 h2
 refine wrap o.tk ?_
 refine join_list hD (Zgc rv) ?_ λt' k' ht'=>k.tok o ht' (ZgT ?_ ?_)
 ·erw[rwl (List.map_map ..) (rwl (List.length_map ..) (rwl (str_len ..) ?_))]
  have:(ls.map ((λx:Str=>x.length) ∘ λl=>(⟨l.toArray⟩:Str)))=ls.map (·.length):=by
   apply List.map_congr_left;intro a _;exact str_len a
  erw[rwl (this ..) ?_];lia
 ·show(glued ⟨sep.toArray⟩ _).cps.toList=_
  erw[rwl (glued_eq_join ..) (rwl (Zdr ..) ?_)]
 ·have:=Zfl sep ls
  erw[rwl (szv ..) ?_];lia
end
end
section
noncomputable def Zb0(env:Env)(h:Heap)(n:Str)(v:Value):Prop:=
 (env.kindOf n=some .local∧∃m,h.Ns env.locals m∧m n=some v)∨((env.kindOf n=some .cell∨env.kindOf n=some .free)∧∃c,env.cells.lookup n=some c∧h.IsCell c (some v))
theorem Zb0.kp{env:Env}{h h':Heap}{n:Str}{v:Value}(x:Zb0 env h n v)(k:Kp h h'):Zb0 env h' n v:=by
 rcases x with⟨hk,m,hn,e⟩ | ⟨hk,c,e,hc⟩
 ·exact .inl ⟨hk,m,Zkk hn k,e⟩
 ·exact .inr ⟨hk,c,e,Zik hc k⟩
noncomputable abbrev ZaO(env:Env)(sc:Scope)(nm:List Str)(P:Addr->Prop)(σ:Sg)(h:Heap):Prop:=(env.scope=sc)∧(sc.kind=.function)∧(env.globals=mainGlobals)∧(env.builtins=builtinsNs)∧(∀n,sc.names.lookup n=some .cell->∃c,env.cells.lookup n=some c)∧(∀i d,rd σ i=some d->∃n v,nm[i]? = some n∧Zb0 env h n v∧Rd P h v d)∧(∀i d,rdt σ i=some d->∃n v,nm[i]? = some n∧Zb0 env h n v∧Rd0 P h v d)
theorem ZaO.scp{env:Env}{sc:Scope}{nm:List Str}{P:Addr->Prop}{σ:Sg}{h:Heap}(slf:ZaO env sc nm P σ h):env.scope=sc:=slf.1
theorem ZaO.kf{env:Env}{sc:Scope}{nm:List Str}{P:Addr->Prop}{σ:Sg}{h:Heap}(slf:ZaO env sc nm P σ h):sc.kind=.function:=slf.2.1
theorem ZaO.gl{env:Env}{sc:Scope}{nm:List Str}{P:Addr->Prop}{σ:Sg}{h:Heap}(slf:ZaO env sc nm P σ h):env.globals=mainGlobals:=slf.2.2.1
theorem ZaO.bi{env:Env}{sc:Scope}{nm:List Str}{P:Addr->Prop}{σ:Sg}{h:Heap}(slf:ZaO env sc nm P σ h):env.builtins=builtinsNs:=slf.2.2.2.1
theorem ZaO.cells{env:Env}{sc:Scope}{nm:List Str}{P:Addr->Prop}{σ:Sg}{h:Heap}(slf:ZaO env sc nm P σ h):∀n,sc.names.lookup n=some .cell->∃c,env.cells.lookup n=some c:=slf.2.2.2.2.1
theorem ZaO.vars{env:Env}{sc:Scope}{nm:List Str}{P:Addr->Prop}{σ:Sg}{h:Heap}(slf:ZaO env sc nm P σ h):∀i d,rd σ i=some d->∃n v,nm[i]? = some n∧Zb0 env h n v∧Rd P h v d:=slf.2.2.2.2.2.1
theorem ZaO.ZtH{env:Env}{sc:Scope}{nm:List Str}{P:Addr->Prop}{σ:Sg}{h:Heap}(slf:ZaO env sc nm P σ h):∀i d,rdt σ i=some d->∃n v,nm[i]? = some n∧Zb0 env h n v∧Rd0 P h v d:=slf.2.2.2.2.2.2
theorem ZaO.kp{env:Env}{sc:Scope}{nm:List Str}{P:Addr->Prop}{σ:Sg}{h h':Heap}(x:ZaO env sc nm P σ h)(k:Kp h h'):ZaO env sc nm P σ h':=⟨x.scp,
x.kf,
x.gl,
x.bi,
x.cells,
(λi d e=>let ⟨n,v,a,b,c⟩:=x.vars i d e;⟨n,v,a,b.kp k,c.kp k⟩),
(λi d e=>let ⟨n,v,a,b,c⟩:=x.ZtH i d e;⟨n,v,a,b.kp k,c.kp k⟩)⟩
section
variable {prog:Program}{w:World}{A:Around}{E:Value->Shared->Prop}{s:Shared}{P:Addr->Prop}{base:Addr->Prop}{mg mb:Str->Option Value}{Gd:Heap->Prop}{Q:Value->Shared->Prop}
theorem Zcu{env:Env}{n:Str}{v:Value}{p:Pos}(hk:env.scope.kind=.function)(x:Zb0 env s.heap n v)(hd:n≠("__debug__" : Str))(hc:n≠("__classdict__" : Str))(h:Q v s):wpAny (model prog w) A (eval (.Name n p) env) Q E s:=by
 refine wpAny_Name ?_ (by simpa using hd)
 rcases x with⟨hl,m,hn,e⟩ | ⟨hl,c,e,hcell⟩
 ·exact wpAny_loadName_local hk hl hn e h
 ·rcases hl with hl | hl
  ·exact wpAny_loadName_cell hk hl e hcell h
  ·exact wpAny_loadName_free hk hl e hcell h (by simpa using hc)
theorem ZcR{env:Env}{n:Str}{v:Value}{p:Pos}(G:Gr base mg mb Gd)(o:Gd s.heap){sc:Scope}{nm:List Str}{σ:Sg}(x:ZaO env sc nm P σ s.heap)(hn:ZcC sc n=true)(hv:mg n=some v)(hd:n≠("__debug__" : Str))(h:Q v s) :
  wpAny (model prog w) A (eval (.Name n p) env) Q E s:=by
 refine Calls.Name_function_global (x.scp▸x.kf) ?_ (Calls.loadGlobal_global (x.gl▸G.g _ o) hv h) (by simpa using hd)
 rw[Env.kindOf,x.scp];simpa[ZcC] using hn
theorem ZcL{env:Env}{n:Str}{v:Value}{p:Pos}(G:Gr base mg mb Gd)(o:Gd s.heap){sc:Scope}{nm:List Str}{σ:Sg}(x:ZaO env sc nm P σ s.heap)(hn:ZcC sc n=true)
  (hv:(n,v)∈([("len",.builtin "len"),("chr",.builtin "chr"),("sum",.builtin "sum"),("list",.type "list"),("range",.type "range"),("iter",.builtin "iter"),("object",.type "object"),("str",.type "str"),("isinstance",.builtin "isinstance")]:List (Str×Value)))
  (hd:n≠("__debug__" : Str)) (h:Q v s):wpAny (model prog w) A (eval (.Name n p) env) Q E s:=by
 have ⟨h1,h2⟩:=G.bi n v hv
 refine Calls.Name_function_global (x.scp▸x.kf) ?_ (Calls.loadGlobal_builtin (x.gl▸G.g _ o) h1 (x.bi▸G.b _ o) h2 h) (by simpa using hd)
 rw[Env.kindOf,x.scp];simpa[ZcC] using hn
end
inductive It (P S:Addr->Prop) (h:Heap) (I:Addr):List D->Prop
 | list {l:Addr} {i:Nat} {vs:List Value} {ds:List D}:h.IsListIter I l i->h.PlainList l vs.toArray->l≠I->S l->Zad P h (vs.drop i) ds->It P S h I ds
 | range {x:Int} {n:Nat} {step:Int}:IsRangeIter h I x n step->It P S h I ((List.range n).map λ(k:Nat)=>D.int (x+(k:Int) * step))
theorem It.mono{P S:Addr->Prop}{h h':Heap}{I:Addr}{ds:List D}(x:It P S h I ds)(k:∀b o,NT o->(P b∨S b∨b=I)->h.get? b=some o->h'.get? b=some o):It P S h' I ds:=by
 cases x with
 | list hi hl hne hs hr=>
  obtain⟨o,e,hc,r⟩:=hi
  obtain⟨n,e2⟩:=hl
  exact .list ⟨o,k _ _ (.ZaD hc) (.inr (.inr rfl)) e,hc,r⟩ ⟨n,k _ _ (.ZaD rfl) (.inr (.inl hs)) e2⟩ hne hs (hr.mono λa o n e p=>⟨p,k a o n (.inl p) e⟩)
 | range hi=>exact .range (k _ _ (.ZaD rfl) (.inr (.inr rfl)) hi)
theorem Zl0{α:Type}{l:List α}{i:Nat}{a:α}{r:List α}(h:l.drop i=a::r):l[i]? = some a∧l.drop (i+1)=r:=by
 constructor
 ·have:=congrArg (λz=>z[0]?) h
  simpa[List.getElem?_drop] using this
 ·have:=congrArg (λz=>z.drop 1) h
  simpa[List.drop_drop] using this
section
variable {prog:Program}{w:World}{A:Around}{E:Value->Shared->Prop}{s:Shared}{P S:Addr->Prop}
set_option tactic.hygienic true in
theorem It.done(hh:A.handled=none){I:Addr}{Q:Option Value->Shared->Prop}(x:It P S s.heap I [])(h:∀h',Heap.ExtBut I s.heap h'->Q none { s with heap:=h' }):wpAny (model prog w) A (pyNext (.ref I)) Q E s:=by
 generalize hds:([]:List D)=ds at x
 cases x with
 | list hi hl hne hs hr=>
  rename_i l i vs
  subst hds
  refine wpAny_pyNext_list_end hh hi hl.isList ?_ h
  have e1:=hr.length
  simp only[List.length_drop,List.length_nil] at e1
  simp;lia
 | range hi=>
  rename_i x n st
  have:n=0:=by
   have:=congrArg List.length hds
   simp at this;lia
  subst this
  exact wpAny_pyNext_range_end hh hi (by simp) h
set_option tactic.hygienic true in
theorem It.next{I:Addr}{Q:Option Value->Shared->Prop}{d:D}{ds:List D}(x:It P S s.heap I (d::ds))(hPI : ¬P I)
  (h:∀v h' tk,Rd P s.heap v d->It P S h' I ds->Heap.SameBut I s.heap h'->Q (some v) { s with heap:=h',toks:=tk }):wpAny (model prog w) A (pyNext (.ref I)) Q E s:=by
 generalize hds:d::ds=ds' at x
 cases x with
 | list hi hl hne hs hr=>
  rename_i l i vs
  subst hds
  generalize hvs:vs.drop i=vs' at hr
  cases hr with
  | cons r1 r2=>
   rename_i v vr
   obtain⟨h1,h2⟩:=Zl0 hvs
   refine wpAny_pyNext_list_item (x:=v) hi hl.isList (by simpa using h1) λh' hi' hsb=>h v h' s.toks r1 (.list (vs:=vs) hi' ?_ hne hs ?_) hsb
   ·obtain⟨n,e⟩:=hl;exact⟨n,(hsb.2 _ hne).trans e⟩
   ·erw[rwl (h2 ..) ?_]
    exact r2.mono λa o n e p=>⟨p,(hsb.2 a λq=>hPI (q▸p)).trans e⟩
 | range hi=>
  rename_i x n st
  cases n with
  | zero=>simp at hds
  | succ n=>
   rw[List.range_succ_eq_map,List.map_cons,List.map_map] at hds
   injection hds with h1 h2
   subst h1 h2
   refine wpAny_pyNext_range_item hi (by lia) λh' hi' hsb=>h _ h' _ ?_ ?_ hsb
   ·simpa using Rd.int (P:=P) (h:=s.heap) x s.toks
   ·have e:((n+1:Nat):Int) - 1=n:=by lia
    rw[e] at hi'
    have:=It.range (P:=P) (S:=S) hi'
    have e2:((List.range n).map ((λ(k:Nat)=>D.int (x+(k:Int) * st)) ∘ Nat.succ))=(List.range n).map λ(k:Nat)=>D.int (x+st+(k:Int) * st):=by
     apply List.map_congr_left
     intro k _
     simp only[Function.comp,Nat.succ_eq_add_one]
     congr 1
     have:((k+1:Nat):Int) * st=k * st+st:=by erw[rwl (Int.natCast_add ..) (rwl (Int.add_mul ..) ?_)];simp
     lia
    erw[rwl (e2 ..) ?_];exact this
end
end
section
noncomputable def KpB(W:Addr->Prop)(h h':Heap):Prop:=∀b o,NT o->¬W b->h.get? b=some o->h'.get? b=some o
theorem KpB.refl(W:Addr->Prop)(h:Heap):KpB W h h:=λ_ _ _ _ e=>e
theorem KpB.trans{W:Addr->Prop}{a b c:Heap}(x:KpB W a b)(y:KpB W b c):KpB W a c:=λi o n w e=>y i o n w (x i o n w e)
theorem Kp.toB{W:Addr->Prop}{a b:Heap}(x:Kp a b):KpB W a b:=λi o n _ e=>x i o n e
theorem KpB.of_same{W:Addr->Prop}{a:Addr}{h h':Heap}(hs:Heap.ExtBut a h h')(hw:W a):KpB W h h':=λb o _ w e=>hs b o (λq=>w (q▸hw)) e
noncomputable abbrev GwB(W:Addr->Prop)(s s':Shared):Prop:=(KpB W s.heap s'.heap)∧(∀b o,¬W b->s.heap.get? b=some o->∃o',s'.heap.get? b=some o')∧(s'.os=s.os)∧(AllBare s.gens->AllBare s'.gens)
theorem GwB.kp{W:Addr->Prop}{s s':Shared}(slf:GwB W s s'):KpB W s.heap s'.heap:=slf.1
theorem GwB.ex{W:Addr->Prop}{s s':Shared}(slf:GwB W s s'):∀b o,¬W b->s.heap.get? b=some o->∃o',s'.heap.get? b=some o':=slf.2.1
theorem GwB.os{W:Addr->Prop}{s s':Shared}(slf:GwB W s s'):s'.os=s.os:=slf.2.2.1
theorem GwB.gens{W:Addr->Prop}{s s':Shared}(slf:GwB W s s'):AllBare s.gens->AllBare s'.gens:=slf.2.2.2
theorem GwB.refl(W:Addr->Prop)(s:Shared):GwB W s s:=⟨.refl _ _,λ_ o _ e=>⟨o,e⟩,rfl,id⟩
theorem GwB.trans{W:Addr->Prop}{a b c:Shared}(x:GwB W a b)(y:GwB W b c):GwB W a c:=⟨x.kp.trans y.kp,λi o w e=>let ⟨o',e'⟩:=x.ex i o w e;y.ex i o' w e',y.os.trans x.os,λg=>y.gens (x.gens g)⟩
theorem Gw.toB{W:Addr->Prop}{a b:Shared}(x:Gw a b):GwB W a b:=⟨x.kp.toB,λi o _ e=>x.ex i o e,x.os,x.gens⟩
theorem GwB.of_same{W:Addr->Prop}{a:Addr}{s:Shared}{h':Heap}{tk:Tok}(hs:Heap.ExtBut a s.heap h')(hw:W a):GwB W s { s with heap:=h',toks:=tk }:=
 ⟨.of_same hs hw,λb o w e=>⟨o,hs b o (λq=>w (q▸hw)) e⟩,rfl,id⟩
theorem GwB.Zvv{W:Addr->Prop}{a b c:Shared}(x:Gw a b)(y:GwB W b c)(h:∀i,W i->a.heap.get? i=none):Gw a c:=
 ⟨λi o n e=>y.kp i o n (λw=>by rw[h i w] at e;cases e) (x.kp i o n e),λi o e=>let ⟨o',e'⟩:=x.ex i o e;y.ex i o' (λw=>by rw[h i w] at e;cases e) e',y.os.trans x.os,λg=>y.gens (x.gens g)⟩
theorem Gr.fresh{base:Addr->Prop}{mg mb:Str->Option Value}{Gd:Heap->Prop}(G:Gr base mg mb Gd){h:Heap}{a:Addr}(x:Gd h)(e:h.get? a=none) : ¬base a:=λb=>by
 obtain⟨o,eo⟩:=G.there h a x b;rw[e] at eo;cases eo
theorem Gr.same{base:Addr->Prop}{mg mb:Str->Option Value}{Gd:Heap->Prop}(G:Gr base mg mb Gd){h h':Heap}{a:Addr}{o:Obj}(x:Gd h)(hb : ¬base a)(e:h.get? a=some o)(hm:Mut o)(hs:Heap.ExtBut a h h'):Gd h':=
 G.keep _ _ x λb ob n eb=>hs b ob (λq=>by subst q;rw[e] at eb;cases eb;exact n.elim hb λn=>n hm) eb
theorem Mut.ns{h:Heap}{a:Addr}{m:Str->Option Value}(x:h.Ns a m):∃o,h.get? a=some o∧Mut o∧NT o:=by
 obtain⟨o,es,ep,e,hd,_⟩:=x;exact⟨o,e,.inl ⟨es,ep,hd⟩,.Zeo hd⟩
theorem Mut.cell{h:Heap}{a:Addr}{v:Option Value}(x:h.IsCell a v):∃o,h.get? a=some o∧Mut o∧NT o:=by
 obtain⟨o,e,hd⟩:=x;exact⟨o,e,.inr (.inr (.inl ⟨v,hd⟩)),.ZgP hd⟩
theorem Mut.plain{h:Heap}{a:Addr}{v:Array Value}(x:h.PlainList a v):∃o,h.get? a=some o∧Mut o∧NT o:=by
 obtain⟨n,e⟩:=x;exact⟨_,e,.inr (.inl ⟨v,n,rfl⟩),.ZaD rfl⟩
theorem It.mut{P S:Addr->Prop}{h:Heap}{I:Addr}{ds:List D}(x:It P S h I ds):∃o,h.get? I=some o∧Mut o∧NT o:=by
 cases x with
 | list hi=>obtain⟨o,e,hc,_⟩:=hi;exact⟨o,e,.inr (.inr (.inr (.inl hc))),.ZaD hc⟩
 | range hi=>exact⟨_,hi,.inr (.inr (.inr (.inr rfl))),.ZaD rfl⟩
theorem Pf.same{P:Addr->Prop}{h h':Heap}{a:Addr}(x:Pf P h)(hs:Heap.ExtBut a h h')(ha:∃o,NT o∧h'.get? a=some o):Pf P h':=λb n=>by
 by_cases q:b=a
 ·subst q;exact ha
 ·obtain⟨o,no,e⟩:=x b n;exact⟨o,no,hs b o q e⟩
end
section
theorem Rd.but{P:Addr->Prop}{h h':Heap}{a:Addr}{v:Value}{d:D}(r:Rd P h v d)(hP : ¬P a)(hs:Heap.ExtBut a h h'):Rd P h' v d:=r.mono λb o _ e p=>⟨p,hs b o (λq=>hP (q▸p)) e⟩
theorem Zad.but{P:Addr->Prop}{h h':Heap}{a:Addr}{vs:List Value}{ds:List D}(r:Zad P h vs ds)(hP : ¬P a)(hs:Heap.ExtBut a h h'):Zad P h' vs ds:=r.mono λb o _ e p=>⟨p,hs b o (λq=>hP (q▸p)) e⟩
theorem Zd5{h h':Heap}{a l:Addr}{its:Array Value}(x:h.PlainList l its)(hn:l≠a)(hs:Heap.ExtBut a h h'):h'.PlainList l its:=let ⟨n,e⟩:=x;⟨n,hs _ _ hn e⟩
theorem Gw.but{s s₁:Shared}{a:Addr}{h':Heap}{tk:Tok}(x:Gw s s₁)(hn:s.heap.get? a=Option.none)(hs:Heap.ExtBut a s₁.heap h'):Gw s { s₁ with heap:=h',toks:=tk }:=⟨(λb o n e=>hs b o (λq=>nn (hn.symm.trans (q▸e))) (x.kp b o n e)),
(λb o e=>let ⟨o',e'⟩:=x.ex b o e;⟨o',hs b o' (λq=>nn (hn.symm.trans (q▸e))) e'⟩),
x.os,
x.gens⟩
section
variable {prog:Program}{w:World}{A:Around}{s:Shared}{P S:Addr->Prop}{base:Addr->Prop}{mg mb:Str->Option Value}{Gd:Heap->Prop}
noncomputable def turnT(M:Model)(A:Around)(ifs:List Expr)(elt:Expr)(cenv:Env)(Qs:Option Value->Shared->Prop)(E:Value->Shared->Prop)(s:Shared):Prop:=
 wpAny M A (forIn ifs true λc r=>if r=true then do let ok ←isTrue c cenv (eval c cenv);pure (ForInStep.yield ok) else pure (ForInStep.yield r))
  (λok s₃=>if ok=true then wpAny M A (eval elt cenv) (λx s₄=>Qs (some x) s₄) E s₃ else Qs none s₃) E s
noncomputable abbrev CA(P S base:Addr->Prop)(h:Heap)(C I Dd:Addr):Prop:=(¬P I)∧(¬P Dd)∧(¬P C)∧(¬S Dd)∧(¬S C)∧(Dd≠I)∧(Dd≠C)∧(I≠C)∧(¬base I)∧(¬base Dd)∧(¬base C)∧(h.get? I=none)∧(h.get? Dd=none)∧(h.get? C=none)
theorem CA.pI{P S base:Addr->Prop}{h:Heap}{C I Dd:Addr}(slf:CA P S base h C I Dd) : ¬P I:=slf.1
theorem CA.pD{P S base:Addr->Prop}{h:Heap}{C I Dd:Addr}(slf:CA P S base h C I Dd) : ¬P Dd:=slf.2.1
theorem CA.pC{P S base:Addr->Prop}{h:Heap}{C I Dd:Addr}(slf:CA P S base h C I Dd) : ¬P C:=slf.2.2.1
theorem CA.sD{P S base:Addr->Prop}{h:Heap}{C I Dd:Addr}(slf:CA P S base h C I Dd) : ¬S Dd:=slf.2.2.2.1
theorem CA.sC{P S base:Addr->Prop}{h:Heap}{C I Dd:Addr}(slf:CA P S base h C I Dd) : ¬S C:=slf.2.2.2.2.1
theorem CA.dI{P S base:Addr->Prop}{h:Heap}{C I Dd:Addr}(slf:CA P S base h C I Dd):Dd≠I:=slf.2.2.2.2.2.1
theorem CA.dC{P S base:Addr->Prop}{h:Heap}{C I Dd:Addr}(slf:CA P S base h C I Dd):Dd≠C:=slf.2.2.2.2.2.2.1
theorem CA.iC{P S base:Addr->Prop}{h:Heap}{C I Dd:Addr}(slf:CA P S base h C I Dd):I≠C:=slf.2.2.2.2.2.2.2.1
theorem CA.bI{P S base:Addr->Prop}{h:Heap}{C I Dd:Addr}(slf:CA P S base h C I Dd) : ¬base I:=slf.2.2.2.2.2.2.2.2.1
theorem CA.bD{P S base:Addr->Prop}{h:Heap}{C I Dd:Addr}(slf:CA P S base h C I Dd) : ¬base Dd:=slf.2.2.2.2.2.2.2.2.2.1
theorem CA.bC{P S base:Addr->Prop}{h:Heap}{C I Dd:Addr}(slf:CA P S base h C I Dd) : ¬base C:=slf.2.2.2.2.2.2.2.2.2.2.1
theorem CA.nI{P S base:Addr->Prop}{h:Heap}{C I Dd:Addr}(slf:CA P S base h C I Dd):h.get? I=none:=slf.2.2.2.2.2.2.2.2.2.2.2.1
theorem CA.nD{P S base:Addr->Prop}{h:Heap}{C I Dd:Addr}(slf:CA P S base h C I Dd):h.get? Dd=none:=slf.2.2.2.2.2.2.2.2.2.2.2.2.1
theorem CA.nC{P S base:Addr->Prop}{h:Heap}{C I Dd:Addr}(slf:CA P S base h C I Dd):h.get? C=none:=slf.2.2.2.2.2.2.2.2.2.2.2.2.2
noncomputable abbrev CI(P S:Addr->Prop)(Gd:Heap->Prop)(f:D->Option (Option D))(total:List D)(N:Nat)(C I Dd:Addr)(s:Shared)(ys dn:List D)(acc:List Value)(m:Str->Option Value)(p ds:List D)(s':Shared):Prop:=(ZbQ f ds=some ys)∧(dn++(p++ys)=total)∧(s'.heap.PlainList Dd acc.toArray)∧(Zad P s'.heap acc dn)∧(s'.heap.Ns C m)∧(acc.length+(p.length+ds.length)<=N)∧(It P S s'.heap I ds)∧(Ok Gd s')∧(Pf P s'.heap)∧(Gw s s')
theorem CI.hc{P S:Addr->Prop}{Gd:Heap->Prop}{f:D->Option (Option D)}{total:List D}{N:Nat}{C I Dd:Addr}{s:Shared}{ys dn:List D}{acc:List Value}{m:Str->Option Value}{p ds:List D}{s':Shared}(slf:CI P S Gd f total N C I Dd s ys dn acc m p ds s'):ZbQ f ds=some ys:=slf.1
theorem CI.tt{P S:Addr->Prop}{Gd:Heap->Prop}{f:D->Option (Option D)}{total:List D}{N:Nat}{C I Dd:Addr}{s:Shared}{ys dn:List D}{acc:List Value}{m:Str->Option Value}{p ds:List D}{s':Shared}(slf:CI P S Gd f total N C I Dd s ys dn acc m p ds s'):dn++(p++ys)=total:=slf.2.1
theorem CI.pl{P S:Addr->Prop}{Gd:Heap->Prop}{f:D->Option (Option D)}{total:List D}{N:Nat}{C I Dd:Addr}{s:Shared}{ys dn:List D}{acc:List Value}{m:Str->Option Value}{p ds:List D}{s':Shared}(slf:CI P S Gd f total N C I Dd s ys dn acc m p ds s'):s'.heap.PlainList Dd acc.toArray:=slf.2.2.1
theorem CI.ra{P S:Addr->Prop}{Gd:Heap->Prop}{f:D->Option (Option D)}{total:List D}{N:Nat}{C I Dd:Addr}{s:Shared}{ys dn:List D}{acc:List Value}{m:Str->Option Value}{p ds:List D}{s':Shared}(slf:CI P S Gd f total N C I Dd s ys dn acc m p ds s'):Zad P s'.heap acc dn:=slf.2.2.2.1
theorem CI.ns{P S:Addr->Prop}{Gd:Heap->Prop}{f:D->Option (Option D)}{total:List D}{N:Nat}{C I Dd:Addr}{s:Shared}{ys dn:List D}{acc:List Value}{m:Str->Option Value}{p ds:List D}{s':Shared}(slf:CI P S Gd f total N C I Dd s ys dn acc m p ds s'):s'.heap.Ns C m:=slf.2.2.2.2.1
theorem CI.z{P S:Addr->Prop}{Gd:Heap->Prop}{f:D->Option (Option D)}{total:List D}{N:Nat}{C I Dd:Addr}{s:Shared}{ys dn:List D}{acc:List Value}{m:Str->Option Value}{p ds:List D}{s':Shared}(slf:CI P S Gd f total N C I Dd s ys dn acc m p ds s'):acc.length+(p.length+ds.length)<=N:=slf.2.2.2.2.2.1
theorem CI.it{P S:Addr->Prop}{Gd:Heap->Prop}{f:D->Option (Option D)}{total:List D}{N:Nat}{C I Dd:Addr}{s:Shared}{ys dn:List D}{acc:List Value}{m:Str->Option Value}{p ds:List D}{s':Shared}(slf:CI P S Gd f total N C I Dd s ys dn acc m p ds s'):It P S s'.heap I ds:=slf.2.2.2.2.2.2.1
theorem CI.o{P S:Addr->Prop}{Gd:Heap->Prop}{f:D->Option (Option D)}{total:List D}{N:Nat}{C I Dd:Addr}{s:Shared}{ys dn:List D}{acc:List Value}{m:Str->Option Value}{p ds:List D}{s':Shared}(slf:CI P S Gd f total N C I Dd s ys dn acc m p ds s'):Ok Gd s':=slf.2.2.2.2.2.2.2.1
theorem CI.hP{P S:Addr->Prop}{Gd:Heap->Prop}{f:D->Option (Option D)}{total:List D}{N:Nat}{C I Dd:Addr}{s:Shared}{ys dn:List D}{acc:List Value}{m:Str->Option Value}{p ds:List D}{s':Shared}(slf:CI P S Gd f total N C I Dd s ys dn acc m p ds s'):Pf P s'.heap:=slf.2.2.2.2.2.2.2.2.1
theorem CI.g{P S:Addr->Prop}{Gd:Heap->Prop}{f:D->Option (Option D)}{total:List D}{N:Nat}{C I Dd:Addr}{s:Shared}{ys dn:List D}{acc:List Value}{m:Str->Option Value}{p ds:List D}{s':Shared}(slf:CI P S Gd f total N C I Dd s ys dn acc m p ds s'):Gw s s':=slf.2.2.2.2.2.2.2.2.2
section
variable {f:D->Option (Option D)}{total p ds ys dn:List D}{acc:List Value}{m:Str->Option Value}{N:Nat}{C I Dd:Addr}{s₀ s₁:Shared}
theorem CI.gw(V:CI P S Gd f total N C I Dd s ys dn acc m p ds s₀)(g:Gw s₀ s₁)(o:Ok Gd s₁):CI P S Gd f total N C I Dd s ys dn acc m p ds s₁:=
 ⟨V.hc,V.tt,Zbp V.pl g.kp,V.ra.kp g.kp,Zkk V.ns g.kp,V.z,V.it.mono λb ob n _ e=>g.kp b ob n e,o,V.hP.kp g.kp,V.g.trans g⟩
theorem CI.done(G:Gr base mg mb Gd)(W:CA P S base s.heap C I Dd)(V:CI P S Gd f total N C I Dd s ys dn acc m [] [] s₀){h':Heap}{tk:Tok}(he:Heap.ExtBut I s₀.heap h')(ht:1<=tk) :
  Gw s { s₀ with heap:=h',toks:=tk }∧Ok Gd { s₀ with heap:=h',toks:=tk }∧h'.PlainList Dd acc.toArray∧Zad P h' acc total∧h'.Ns C m:=by
 have b:=V.tt
 rw[←Option.some.inj V.hc,List.nil_append,List.append_nil] at b
 exact⟨V.g.but W.nI he,⟨let ⟨_,eI,mI,_⟩:=V.it.mut;G.same V.o.gd W.bI eI mI he,ht⟩,Zd5 V.pl W.dI he,b▸V.ra.but W.pI he,V.ns.extBut he (Ne.symm W.iC)⟩
theorem CI.turn(G:Gr base mg mb Gd)(W:CA P S base s.heap C I Dd){d:D}(V:CI P S Gd f total N C I Dd s ys dn acc m [] (d::ds) s₀){h₁ h₂:Heap}{tk:Tok}{m₂:Str->Option Value}(hit:It P S h₁ I ds)(hs₁:Heap.ExtBut I s₀.heap h₁)(hn:h₂.Ns C m₂)(hs₂:Heap.ExtBut C h₁ h₂)(ht:1<=tk) :
  ∃r zs,f d=some r∧CI P S Gd f total N C I Dd s zs dn acc m₂ r.toList ds { s₀ with heap:=h₂,toks:=tk }:=by
 refine Zac (show(f d).bind _=some ys from V.hc) λr hr a=>Zdy a λzs hz a=>⟨r,zs,hr,hz,?_,Zd5 (Zd5 V.pl W.dI hs₁) W.dC hs₂,(V.ra.but W.pI hs₁).but W.pC hs₂,hn,?_,?_,⟨?_,ht⟩,?_,(V.g.but (tk:=tk) W.nI hs₁).but W.nC hs₂⟩
 ·have b:=V.tt
  rw[←a] at b
  cases r with
  | none=>exact b
  | some y=>exact b
 ·cases r with
  | none=>exact Nat.le_trans (Nat.add_le_add_left (Nat.le_succ _) _) V.z
  | some y=>exact Nat.le_trans (Nat.le_of_eq (congrArg (acc.length + ·) ((Nat.add_comm 1 ds.length).trans (Nat.zero_add _).symm))) V.z
 ·exact hit.mono λb ob _ q e=>hs₂ b ob (λx=>q.elim (λq=>W.pC (x▸q)) λq=>q.elim (λq=>W.sC (x▸q)) λq=>W.iC (q.symm.trans x)) e
 ·obtain⟨_,eI,mI,_⟩:=V.it.mut
  obtain⟨_,eC,mC,_⟩:=Mut.ns (V.ns.extBut hs₁ (Ne.symm W.iC))
  exact G.same (G.same V.o.gd W.bI eI mI hs₁) W.bC eC mC hs₂
 ·exact(V.hP.same hs₁ (let ⟨o,e,_,n⟩:=hit.mut;⟨o,n,e⟩)).same hs₂ (let ⟨o,e,_,n⟩:=Mut.ns hn;⟨o,n,e⟩)
theorem CI.app(G:Gr base mg mb Gd)(W:CA P S base s.heap C I Dd)(hN:N<=sizeLine){y:D}(V:CI P S Gd f total N C I Dd s ys dn acc m [y] ds s₀){vy:Value}(ry:Rd P s₀.heap vy y){E:Value->Shared->Prop}{Q:Shared->Prop}(k:∀dn acc s₁,CI P S Gd f total N C I Dd s ys dn acc m [] ds s₁->Q s₁) :
  wpAny (model prog w) A (call (.builtin "list.append") [.ref Dd,vy]) (λ_=>Q) E s₀:=by
 refine wrap V.o.tk (wpAny_list_append_plain (hsz:=Nat.le_trans (Nat.le_add_right _ _) (Nat.le_trans V.z hN)) V.pl λh₄ hl hs ht=>k (dn++[y]) (acc++[vy]) _ ?_)
 rw[List.push_toArray] at hl
 exact⟨V.hc,(List.append_assoc ..).trans V.tt,hl,(V.ra.snoc ry).but W.pD hs.extBut,V.ns.sameBut hs (Ne.symm W.dC),by erw[rwl (List.length_append ..) (rwl (Nat.add_assoc ..) ?_)];exact Nat.le_trans (Nat.le_of_eq (congrArg (λn=>acc.length+(1+n)) (Nat.zero_add _))) V.z,
  V.it.mono λb ob _ q e=>hs.extBut b ob (λx=>q.elim (λq=>W.pD (x▸q)) λq=>q.elim (λq=>W.sD (x▸q)) λq=>W.dI (x.symm.trans q)) e,⟨let ⟨_,eD,mD,_⟩:=Mut.plain V.pl;G.same V.o.gd W.bD eD mD hs.extBut,ht⟩,V.hP.same hs.extBut (let ⟨o,e,_,n⟩:=Mut.plain hl;⟨o,n,e⟩),V.g.but (tk:=_) W.nD hs.extBut⟩
end
noncomputable def CJ(P S:Addr->Prop)(Gd:Heap->Prop)(f:D->Option (Option D))(total:List D)(N:Nat)(C I Dd:Addr)(s:Shared)(k:Nat)(s':Shared):Prop:=∃ds ys dn acc m,CI P S Gd f total N C I Dd s ys dn acc m [] ds s'∧k=ds.length
noncomputable def CK(P S:Addr->Prop)(Gd:Heap->Prop)(f:D->Option (Option D))(total:List D)(N:Nat)(C I Dd:Addr)(s:Shared)(k:Nat)(s':Shared):Prop:=∃n,n < k∧CJ P S Gd f total N C I Dd s n s'
theorem Zmr(G:Gr base mg mb Gd)(hh:A.handled=none){R:Result->Shared->Prop}{elt iter:Expr}{x:Str}{px:Pos}{ifs:List Expr}{scope:Scope}{pos:Pos}{I Dd:Addr}{cenv:Env}{f:D->Option (Option D)}{total:List D}{N:Nat}{s₀:Shared}
  (hN:N<=sizeLine) (W:CA P S base s.heap cenv.locals I Dd) (hx:cenv.kindOf x=some .local) (hk:cenv.scope.kind=.function)
  (hb:∀d v s₁ m₁ r E' (Qs:Option Value->Shared->Prop),f d=some r->Ok Gd s₁->Pf P s₁.heap->s₁.heap.Ns cenv.locals m₁->m₁ x=some v->Gw s s₁->Rd P s₁.heap v d->
   (r=none->∀s₂,Gw s₁ s₂->Ok Gd s₂->Qs none s₂)->(∀y,r=some y->∀vy s₂,Gw s₁ s₂->Ok Gd s₂->Rd P s₂.heap vy y->Qs (some vy) s₂)->turnT (model prog w) A ifs elt cenv Qs E' s₁)
  (hR:∀s'' (acc:List Value) m,Gw s s''->Ok Gd s''->s''.heap.PlainList Dd acc.toArray->Zad P s''.heap acc total->s''.heap.Ns cenv.locals m->R (.ok .next) s'')
  {k:Nat} (V:CJ P S Gd f total N cenv.locals I Dd s k s₀):codeAny (model prog w) A (.compLoop (.ListComp elt [⟨.Name x px,iter,ifs,0⟩] scope pos) 0 (.ref I) (.ref Dd) cenv) R s₀:=by
 refine codeAny_compLoop_tests (CJ P S Gd f total N cenv.locals I Dd s) (λk s₀ V=>?_) k V
 obtain⟨ds,ys,dn,acc,m,V,e0⟩:=V
 cases ds with
 | nil=>exact wrap V.o.tk (V.it.done hh λh' he htk=>let ⟨g,o,a,b,c⟩:=V.done G W he htk;hR _ acc m g o a b c)
 | cons d ds=>
  refine wrap V.o.tk (V.it.next W.pI λv h₁ tk₁ rv hit hs₁ htk=>?_)
  refine wpAny_assign_Name (wpAny_storeName_local hx (V.ns.extBut hs₁.extBut (Ne.symm W.iC)) (λh₂ hn₂ hs₂=>?_) (by erw[rwl (hk ..) ?_];rfl))
  obtain⟨r,zs,hf,V₂⟩:=V.turn G W hit hs₁.extBut hn₂ hs₂.extBut (Nat.le_succ_of_le htk)
  refine wpAny_mono (hb d v _ _ r _ (λov s₄=>ov.elim (CK P S Gd f total N cenv.locals I Dd s k s₄) λy=>wpAny (model prog w) A (call (.builtin "list.append") [.ref Dd,y]) (λ_=>CK P S Gd f total N cenv.locals I Dd s k) (notedBy (model prog w) A cenv λe s'=>R (.error e) s') s₄) hf V₂.o V₂.hP hn₂ (if_pos rfl) V₂.g ((rv.but W.pI hs₁.extBut).but W.pC hs₂.extBut) (λe s₃ g₃ o₃=>?_) (λy e vy s₃ g₃ o₃ ry=>?_)) (λok s₃ h₃=>by cases ok<;>exact h₃) λ_ _ e=>e
  ·rw[e] at V₂
   exact⟨_,e0▸Nat.lt_succ_self _,ds,_,_,_,_,V₂.gw g₃ o₃,rfl⟩
  ·rw[e] at V₂
   exact(V₂.gw g₃ o₃).app G W hN ry λdn acc s₁ V₃=>⟨_,e0▸Nat.lt_succ_self _,ds,_,_,_,_,V₃,rfl⟩
end
end
section
noncomputable def Zb9(cells:List (Str×Addr)):List (Str×NameKind)->List (Str×Addr)->List (Str×Addr)
 | [],acc=>acc
 | (n,k)::r,acc=>if k==.free then(match cells.lookup n with | some c=>Zb9 cells r ((n,c)::acc) | none=>Zb9 cells r acc) else Zb9 cells r acc
theorem ZvN(cells acc:List (Str×Addr)):Zb9 cells [] acc=acc:=rfl
theorem Zq4(cells acc:List (Str×Addr))(n:Str)(k:NameKind)(r:List (Str×NameKind)):Zb9 cells ((n,k)::r) acc=if k==.free then(match cells.lookup n with | some c=>Zb9 cells r ((n,c)::acc) | none=>Zb9 cells r acc) else Zb9 cells r acc:=rfl
theorem ZbM{scope:Scope}{env:Env}(h:∀n,(n,NameKind.free)∈scope.names->∃c,env.cells.lookup n=some c):closureFor scope env=pure (Zb9 env.cells scope.names []):=by
 unfold closureFor
 have key:∀(names:List (Str×NameKind)) (acc:List (Str×Addr)) (f:Str×NameKind->List (Str×Addr)->Sem (ForInStep (List (Str×Addr)))),
   (∀n k cs,f (n,k) cs=if(k==NameKind.free)=true then(do let c ←cellOf env n;pure (.yield ((n,c)::cs))) else pure (.yield cs))->
   (∀n,(n,NameKind.free)∈names->∃c,env.cells.lookup n=some c)->forIn names acc f=pure (Zb9 env.cells names acc):=by
  intro names
  induction names with
  | nil=>intro acc f _ _;rfl
  | cons y r ih=>
   intro acc f hf hn
   obtain⟨n,k⟩:=y
   rw[List.forIn_cons,hf,Zq4]
   have hr:=λa=>ih a f hf λn hm=>hn n (List.mem_cons_of_mem _ hm)
   by_cases hk:(k==NameKind.free)=true
   ·have hk':k=.free:=eq_of_beq hk
    obtain⟨c,hc⟩:=hn n (hk'▸List.mem_cons_self)
    rw[if_pos hk,if_pos hk,hc]
    have:cellOf env n=pure c:=by unfold cellOf;rw[hc]
    rw[this]
    exact hr _
   ·rw[if_neg hk,if_neg hk]
    exact hr _
 simp only[]
 rw[key scope.names [] _ (λn k cs=>by cases k<;>rfl) h]
 rfl
set_option tactic.hygienic true in
theorem Zbk{cells:List (Str×Addr)}{n:Str}{c:Addr}(hc:cells.lookup n=some c):∀(names:List (Str×NameKind)) (acc:List (Str×Addr)),(∀c',acc.lookup n=some c'->c'=c)->
  (∀c',(Zb9 cells names acc).lookup n=some c'->c'=c)∧((n,NameKind.free)∈names∨(acc.lookup n).isSome->(Zb9 cells names acc).lookup n=some c)
 | [],acc,ha=>⟨ha,λh=>by
   rcases h with h | h
   ·cases h
   ·obtain⟨c',e⟩:=Option.isSome_iff_exists.mp h
    erw[rwl (ZvN ..) (rwl (e ..) (rwl (ha c' e ..) ?_))]⟩
 | (m,k)::r,acc,ha=>by
  erw[rwl (Zq4 ..) ?_]
  have skip:=Zbk hc r acc ha
  split
  ·rename_i hk
   have hk':k=.free:=eq_of_beq hk
   split
   ·rename_i c' hm
    have ha':∀c'',((m,c')::acc).lookup n=some c''->c''=c:=λc'' e=>by
     rw[List.lookup_cons] at e
     split at e
     ·rename_i q
      have:n=m:=eq_of_beq q
      subst this
      rw[hc] at hm;cases hm;cases e;rfl
     ·exact ha _ e
    have ih:=Zbk hc r ((m,c')::acc) ha'
    refine⟨ih.1,λh=>ih.2 ?_⟩
    rcases h with h | h
    ·rcases List.mem_cons.mp h with q | q
     ·cases q
      right
      erw[rwl (List.lookup_cons ..) (rwl (beq_self_eq_true ..) ?_)];rfl
     ·exact .inl q
    ·right
     erw[rwl (List.lookup_cons ..) ?_]
     split
     ·rfl
     ·exact h
   ·rename_i hm
    refine⟨skip.1,λh=>skip.2 ?_⟩
    rcases h with h | h
    ·rcases List.mem_cons.mp h with q | q
     ·cases q;rw[hc] at hm;cases hm
     ·exact .inl q
    ·exact .inr h
  ·rename_i hk
   refine⟨skip.1,λh=>skip.2 ?_⟩
   rcases h with h | h
   ·rcases List.mem_cons.mp h with q | q
    ·cases q;exact absurd rfl hk
    ·exact .inl q
   ·exact .inr h
theorem ZbP{scope sc:Scope}{env:Env}(h:env.scope=sc):relabel scope env=ZmM sc scope:=by
 subst h;rfl
theorem Zf4{sc:Scope}{names:List (Str×NameKind)}{x:Str}(h:names.lookup x=some .local):(ZpA sc names).lookup x=some .local:=by
 have:=@lookup_relabel_local ({ scope:=sc,locals:=0,globals:=0,cells:=[] }:Env) names x h
 exact this
theorem ZfC{sc:Scope}(hk:sc.kind=.function){x:Str}(hc:sc.names.lookup x=some .cell):∀{names:List (Str×NameKind)},names.lookup x=some .free->(ZpA sc names).lookup x=some .cell
 | [],h=>by simp at h
 | (n,k)::r,h=>by
  rw[List.lookup_cons] at h
  have ih:=@ZfC sc hk x hc r
  unfold ZpA at ih ⊢
  erw[rwl (List.map_cons ..) ?_]
  cases hx:x==n with
  | true=>
   rw[hx] at h
   cases h
   have e:n=x:=(eq_of_beq hx).symm
   subst e
   simp[List.lookup_cons,hk,hc]
  | false=>
   rw[hx] at h
   have ih:=ih h
   dsimp only
   split<;>(erw[rwl (List.lookup_cons ..) (rwl (hx ..) ?_)];exact ih)
set_option tactic.hygienic true in
theorem Zfu{sc:Scope}{x:Str}:∀{names:List (Str×NameKind)},(∀y∈names,y.2≠.cell)->(ZpA sc names).lookup x=some .cell->(x,NameKind.free)∈names∧sc.names.lookup x=some .cell
 | [],_,h=>by simp[ZpA] at h
 | (n,k)::r,hn,h=>by
  have ih:=@Zfu sc x r (λy hy=>hn y (List.mem_cons_of_mem _ hy))
  unfold ZpA at ih h
  rw[List.map_cons] at h
  dsimp only at h
  split at h
  ·rename_i hc
   simp only[Bool.and_eq_true] at hc
   rw[List.lookup_cons] at h
   split at h
   ·rename_i q
    have e:x=n:=eq_of_beq q
    subst e
    have hk:=eq_of_beq hc.1.1
    subst hk
    exact⟨List.mem_cons_self,eq_of_beq hc.2⟩
   ·have:=ih h;exact⟨List.mem_cons_of_mem _ this.1,this.2⟩
  ·rw[List.lookup_cons] at h
   split at h
   ·cases h;exact absurd rfl (hn _ List.mem_cons_self)
   ·have:=ih h;exact⟨List.mem_cons_of_mem _ this.1,this.2⟩
theorem mem_lookup{α:Type}{names:List (Str×α)}{n:Str}{k:α}(h:names.lookup n=some k):(n,k)∈names:=mem_of_lookup h
theorem Zo2{σ:Sg}{t i:Nat}{d d':D}(h:rd (σ.set t (.fz d)) i=some d'):(i=t∧d'=d)∨(i≠t∧rd σ i=some d'):=by
 unfold rd at h ⊢
 by_cases q:i=t
 ·subst q
  by_cases hl:i < σ.length
  ·rw[List.getElem?_set_self hl] at h;cases h;exact .inl ⟨rfl,rfl⟩
  ·rw[List.getElem?_eq_none (by simp;lia)] at h;cases h
 ·rw[List.getElem?_set_ne (Ne.symm q)] at h;exact .inr ⟨q,h⟩
theorem ZpT{σ:Sg}{t i:Nat}{d d':D}(h:rdt (σ.set t (.fz d)) i=some d'):(i=t∧d'=d)∨(i≠t∧rdt σ i=some d'):=by
 unfold rdt at h ⊢
 by_cases q:i=t
 ·subst q
  by_cases hl:i < σ.length
  ·rw[List.getElem?_set_self hl] at h;cases h;exact .inl ⟨rfl,rfl⟩
  ·rw[List.getElem?_eq_none (by simp;lia)] at h;cases h
 ·rw[List.getElem?_set_ne (Ne.symm q)] at h;exact .inr ⟨q,h⟩
theorem ZqN{fr:List Nat}{σ:Sg}{i:Nat}{d:D}(h:rd (mask fr σ) i=some d):fr.contains i=true∧rd σ i=some d:=by
 unfold rd mask at h
 rw[List.getElem?_mapIdx] at h
 unfold rd
 cases e:σ[i]? with
 | none=>rw[e] at h;cases h
 | some s=>
  rw[e] at h
  simp only[Option.map_some] at h
  cases hf:fr.contains i with
  | true=>rw[hf] at h;exact⟨rfl,h⟩
  | false=>rw[hf] at h;cases h
theorem Zon{fr:List Nat}{σ:Sg}{i:Nat}{d:D}(h:rdt (mask fr σ) i=some d):fr.contains i=true∧rdt σ i=some d:=by
 unfold rdt mask at h
 rw[List.getElem?_mapIdx] at h
 unfold rdt
 cases e:σ[i]? with
 | none=>rw[e] at h;cases h
 | some s=>
  rw[e] at h
  simp only[Option.map_some] at h
  cases hf:fr.contains i with
  | true=>rw[hf] at h;exact⟨rfl,h⟩
  | false=>rw[hf] at h;cases h
theorem ZaO.excl{env:Env}{sc:Scope}{nm:List Str}{P P':Addr->Prop}{σ:Sg}{h:Heap}(x:ZaO env sc nm P σ h)(hP:∀a o,h.get? a=some o->P a->P' a):ZaO env sc nm P' σ h:=⟨x.scp,
x.kf,
x.gl,
x.bi,
x.cells,
(λi d e=>let ⟨n,v,a,b,c⟩:=x.vars i d e;⟨n,v,a,b,c.mono λa o _ e p=>⟨hP a o e p,e⟩⟩),
(λi d e=>let ⟨n,v,a,b,c⟩:=x.ZtH i d e;⟨n,v,a,b,c.mono (λa o _ e p=>⟨hP a o e p,e⟩) λ_ _ _ e=>e⟩)⟩
set_option tactic.hygienic true in
theorem ZaW{sc:Scope}{nm:List Str}{fr:List Nat}{scope:Scope}(h:ZbT sc nm fr scope=true) :
  (∀y∈scope.names,y.2≠.cell)∧(∀y∈scope.names,y.2=.local->scope.names.lookup y.1=some .local)∧(∀n,(n,NameKind.free)∈scope.names->sc.names.lookup n=some .cell)∧scope.kind=.function∧sc.kind=.function∧
   ∀i,fr.contains i=true->∃n,nm[i]? = some n∧scope.names.lookup n=some .free:=by
 unfold ZbT at h
 simp only[Bool.and_eq_true,List.all_eq_true,beq_iff_eq,bne_iff_ne,Bool.or_eq_true] at h
 obtain⟨⟨⟨h1,h2⟩,h3⟩,h4⟩:=h
 refine⟨λy hy=>(h1 y hy).1.1,λy hy e=>(h1 y hy).1.2.resolve_left (λq=>q e),λn hn=>(h1 _ hn).2.resolve_left (λq=>q rfl),h2,h3,λi hi=>?_⟩
 have:=h4 i (by simpa using hi)
 split at this
 ·rename_i n hn
  exact⟨n,hn,by simpa using this⟩
 ·cases this
theorem ZaO.comp{env:Env}{sc:Scope}{nm:List Str}{P:Addr->Prop}{σ:Sg}{h:Heap}(x:ZaO env sc nm P σ h){fr:List Nat}{scope:Scope}(ok:ZbT sc nm fr scope=true){C:Addr}{m:Str->Option Value}(hn:h.Ns C m)
  {t:Nat} {n:Str} {d:D} {v:Value} (ht:nm[t]? = some n) (hl:scope.names.lookup n=some .local) (hm:m n=some v) (hr:Rd P h v d) (_htf:fr.contains t=false) :
  ZaO (compEnvC scope (Zb9 env.cells scope.names []) C env) (ZmM sc scope) nm P ((mask fr σ).set t (.fz d)) h:=⟨ZbP x.scp,
(ZaW ok).2.2.2.1,
x.gl,
x.bi,
(λy hy=>by
  obtain⟨h1,h2⟩:=Zfu (ZaW ok).1 hy
  obtain⟨c,hc⟩:=x.cells y h2
  exact⟨c,(Zbk hc scope.names [] (λ_ e=>by simp at e)).2 (.inl h1)⟩),
(λi d' e=>by
  rcases Zo2 e with⟨rfl,rfl⟩ | ⟨hne,e⟩
  ·exact⟨n,v,ht,.inl ⟨by show(relabel scope env).names.lookup n=_;erw[rwl (ZbP x.scp ..) ?_];exact Zf4 hl,m,hn,hm⟩,hr⟩
  ·obtain⟨h1,h2⟩:=ZqN e
   obtain⟨y,hy,hf⟩:=(ZaW ok).2.2.2.2.2 i h1
   obtain⟨y',u,hy',hv,hru⟩:=x.vars i d' h2
   rw[hy] at hy';cases hy'
   have hc:=(ZaW ok).2.2.1 y (mem_lookup hf)
   refine⟨y,u,hy,.inr ⟨.inl (by show(relabel scope env).names.lookup y=_;erw[rwl (ZbP x.scp ..) ?_];exact ZfC x.kf hc hf),?_⟩,hru⟩
   rcases hv with⟨hk,_⟩ | ⟨_,c,e1,e2⟩
   ·rw[Env.kindOf,x.scp,hc] at hk;cases hk
   ·exact⟨c,(Zbk e1 scope.names [] (λ_ e=>by simp at e)).2 (.inl (mem_lookup hf)),e2⟩),
(λi d' e=>by
  rcases ZpT e with⟨rfl,rfl⟩ | ⟨hne,e⟩
  ·exact⟨n,v,ht,.inl ⟨by show(relabel scope env).names.lookup n=_;erw[rwl (ZbP x.scp ..) ?_];exact Zf4 hl,m,hn,hm⟩,.of hr⟩
  ·obtain⟨h1,h2⟩:=Zon e
   obtain⟨y,hy,hf⟩:=(ZaW ok).2.2.2.2.2 i h1
   obtain⟨y',u,hy',hv,hru⟩:=x.ZtH i d' h2
   rw[hy] at hy';cases hy'
   have hc:=(ZaW ok).2.2.1 y (mem_lookup hf)
   refine⟨y,u,hy,.inr ⟨.inl (by show(relabel scope env).names.lookup y=_;erw[rwl (ZbP x.scp ..) ?_];exact ZfC x.kf hc hf),?_⟩,hru⟩
   rcases hv with⟨hk,_⟩ | ⟨_,c,e1,e2⟩
   ·rw[Env.kindOf,x.scp,hc] at hk;cases hk
   ·exact⟨c,(Zbk e1 scope.names [] (λ_ e=>by simp at e)).2 (.inl (mem_lookup hf)),e2⟩)⟩
end
section
theorem Ze2{f:D->Option (Option D)}:∀{ds ys:List D},ZbQ f ds=some ys->ys.length<=ds.length
 | [],_,h=>eqs h (Nat.le_refl _)
 | d::ds,_,h=>Zac (show(f d).bind _=some _ from h) λr _ h=>by
  revert h
  cases r with
  | none=>exact λh=>Zdx h λzs h=>Nat.le_succ_of_le (Ze2 h)
  | some _=>exact λh=>Zdx h λzs h=>Nat.succ_le_succ (Ze2 h)
theorem It.excl{P P' S:Addr->Prop}{h:Heap}{I:Addr}{ds:List D}(x:It P S h I ds)(hP:∀a o,h.get? a=some o->P a->P' a):It P' S h I ds:=by
 cases x with
 | list hi hl hne hs hr=>exact .list hi hl hne hs (hr.mono λa o _ e p=>⟨hP a o e p,e⟩)
 | range hi=>exact .range hi
theorem It.self{prog:Program}{w:World}{A:Around}{E:Value->Shared->Prop}{s:Shared}{P S:Addr->Prop}{I:Addr}{ds:List D}{Q:Value->Shared->Prop}(x:It P S s.heap I ds)(h:Q (.ref I) s):wpAny (model prog w) A (pyIter (.ref I)) Q E s:=by
 cases x with
 | list hi=>exact wpAny_pyIter_listiter hi h
 | range hi=>exact wpAny_pyIter_rangeiter hi h
section
variable {prog:Program}{w:World}{A:Around}{E:Value->Shared->Prop}{s:Shared}{P:Addr->Prop}{base:Addr->Prop}{mg mb:Str->Option Value}{Gd:Heap->Prop}
theorem Zq8(G:Gr base mg mb Gd)(hP:Pf P s.heap){s₁:Shared}{h₁:Heap}{I Dd C:Addr}{S:Addr->Prop}{ds ys:List D}{f:D->Option (Option D)}{m:Str->Option Value}{tk:Tok}(g₁:Gw s s₁)(o₁:Ok Gd s₁)(hit:It (λa=>P a∧a≠I) S s₁.heap I ds)(hI:s.heap.get? I=none)(hbI : ¬base I)(hS:∀b,S b->∃ob,s₁.heap.get? b=some ob)
  (hD:s₁.heap.get? Dd=none) (hC:s₁.heap.get? C=none) (hDC:Dd≠C) (k1:∀b ob,s₁.heap.get? b=some ob->h₁.get? b=some ob) (hacc:h₁.PlainList Dd ([]:List Value).toArray) (hn:h₁.Ns C m) (htk:1<=tk) (hc:ZbQ f ds=some ys) :
  CA (λa=>(P a∧a≠I)∧a≠Dd∧a≠C) S base s.heap C I Dd∧CJ (λa=>(P a∧a≠I)∧a≠Dd∧a≠C) S Gd f ys ds.length C I Dd s ds.length { s₁ with heap:=h₁,toks:=tk }:=by
 have ne:∀{a b o},s₁.heap.get? a=some o->s₁.heap.get? b=none->b≠a:=λe e' q=>nn (e'.symm.trans (q▸e))
 obtain⟨oI,eI,_,nI⟩:=hit.mut
 refine⟨⟨λp=>p.1.2 rfl,λp=>p.2.1 rfl,λp=>p.2.2 rfl,λq=>let ⟨_,e⟩:=hS _ q;nn (hD.symm.trans e),λq=>let ⟨_,e⟩:=hS _ q;nn (hC.symm.trans e),ne eI hD,hDC,Ne.symm (ne eI hC),hbI,G.fresh o₁.gd hD,G.fresh o₁.gd hC,hI,g₁.none hD,g₁.none hC⟩,
  ds,ys,[],[],m,⟨hc,rfl,hacc,.nil,hn,Nat.le_of_eq ((Nat.zero_add _).trans (Nat.zero_add _)),?_,⟨G.keeps o₁.gd k1,htk⟩,?_,g₁.trans (.of_keep k1)⟩,rfl⟩
 ·exact(hit.excl (P':=λa=>(P a∧a≠I)∧a≠Dd∧a≠C) λa ob e p=>⟨p,Ne.symm (ne e hD),Ne.symm (ne e hC)⟩).mono λb ob _ _ e=>k1 b ob e
 ·intro a na
  by_cases qI:a=I
  ·exact⟨oI,nI,qI▸k1 _ _ eI⟩
  ·by_cases qD:a=Dd
   ·obtain⟨oI,eI,_,nI⟩:=Mut.plain hacc;exact⟨oI,nI,qD▸eI⟩
   ·by_cases qC:a=C
    ·obtain⟨oI,eI,_,nI⟩:=Mut.ns hn;exact⟨oI,nI,qC▸eI⟩
    ·obtain⟨ob,no,e⟩:=hP a λp=>na ⟨⟨p,qI⟩,qD,qC⟩
     exact⟨ob,no,k1 _ _ (g₁.kp _ _ no e)⟩
theorem Zf1(G:Gr base mg mb Gd){use:Option (Value->Sem Unit)}{Q:Value->Shared->Prop}{env:Env}{sc:Scope}{nm:List Str}{σ:Sg}{fr:List Nat}{scope:Scope}{elt tg iter:Expr}{pos:Pos}{ifs:List Expr}{f:D->Option (Option D)}{ds ys:List D}
  (x:ZaO env sc nm P σ s.heap) (hP:Pf P s.heap) (ok:ZbT sc nm fr scope=true) (hset:∀v,foldedSetIterable iter env v=pure v) (hlen:ds.length<=sizeLine)
  (hsrc:∀Q':Value->Shared->Prop,(∀I s₁ S,Gw s s₁->Ok Gd s₁->It (λa=>P a∧a≠I) S s₁.heap I ds->s.heap.get? I=none->¬base I->(∀b,S b->∃ob,s₁.heap.get? b=some ob)->Q' (.ref I) s₁)->
   wpAny (model prog w) A (eval iter env) (λxv s₁=>wpAny (model prog w) A (pyIter xv) Q' E s₁) E s)
  (hc:ZbQ f ds=some ys)
  (hU:∀Dd C s' m,Gw s s'->Ok Gd s'->Rd (λa=>P a∧a≠C) s'.heap (.ref Dd) (.list ys)->s.heap.get? Dd=none->s.heap.get? C=none->Dd≠C->¬base C->s'.heap.Ns C m->compPost (model prog w) A E use Q (.ref Dd) C (.ok .next) s')
  (loop:∀(P₁ S:Addr->Prop) (I Dd C:Addr) (s₁:Shared) (R:Result->Shared->Prop),CA P₁ S base s.heap C I Dd->ZaO env sc nm P₁ σ s.heap->CJ P₁ S Gd f ys ds.length C I Dd s ds.length s₁->
   (∀s'' (acc:List Value) m,Gw s s''->Ok Gd s''->s''.heap.PlainList Dd acc.toArray->Zad P₁ s''.heap acc ys->s''.heap.Ns C m->R (.ok .next) s'')->
   codeAny (model prog w) A (.compLoop (.ListComp elt [⟨tg,iter,ifs,0⟩] scope pos) 0 (.ref I) (.ref Dd) (compEnvC scope (Zb9 env.cells scope.names []) C env)) R s₁) :
  wpAny (model prog w) A (comprehension (.ListComp elt [⟨tg,iter,ifs,0⟩] scope pos) scope env (firstIterPos [⟨tg,iter,ifs,0⟩] pos) (newList []) false (eval iter env) use) Q E s:=by
 have sk:=ZaW ok
 refine wpAny_comprehension_free rfl hset (ZbM λn hn=>x.cells n (sk.2.2.1 n hn)) sk.2.2.2.1 sk.2.1 (hsrc _ λI s₁ S g₁ o₁ hit hI hbI hS=>wpAny_newObj_type ?_)
 refine wpAny_newFunctionEnv sk.1 (λy hy=>absurd hy List.not_mem_nil) (λh₁ hns₁ hsb₁=>?_) sk.2.2.2.1
 have hDH:(s₁.heap.push { cls:=.type "list",dict:=none,data:=.seq ([]:List Value).toArray }).get? s₁.heap.objs.size=some { cls:=.type "list",dict:=none,data:=.seq ([]:List Value).toArray }:=Heap.get?_push_size _ rfl
 have kh:=λb ob e=>hsb₁.extBut b ob (Nat.ne_of_lt (Heap.lt_size e)) (Heap.get?_push_of_some _ e)
 have hC:s₁.heap.get? (s₁.heap.push { cls:=.type "list",dict:=none,data:=.seq ([]:List Value).toArray }).objs.size=none:=by
  cases e:s₁.heap.get? (s₁.heap.push { cls:=.type "list",dict:=none,data:=.seq ([]:List Value).toArray }).objs.size with
  | none=>rfl
  | some ob=>exact nn ((Zau _).symm.trans (Heap.get?_push_of_some _ e))
 obtain⟨W,V⟩:=Zq8 G hP (f:=f) (ys:=ys) (tk:=s₁.toks+([]:List (Str×Value)).length) g₁ o₁ hit hI hbI hS (Zau _) hC (Nat.ne_of_lt (Heap.lt_size hDH)) (λb ob e=>kh b ob (Heap.get?_push_of_some _ e)) ⟨0,kh _ _ hDH⟩ hns₁ o₁.tk hc
 have e2:∀{a:Addr} {o:Obj} {b},s.heap.get? a=some o->s.heap.get? b=none->a≠b:=λe e' q=>nn (e'.symm.trans (q▸e))
 have l1:=loop _ _ _ _ _ _ (compPost (model prog w) A E use Q (.ref s₁.heap.objs.size) _) W (x.excl λa ob e p=>⟨⟨p,e2 e W.nI⟩,e2 e W.nD,e2 e W.nC⟩) V λs'' acc m g'' o'' hpl hra hn''=>
  hU _ _ s'' m g'' o'' (.list (vs:=acc) ⟨hP.fresh W.nD,W.dC⟩ hpl (hra.mono λa ob _ e p=>⟨⟨p.1.1,p.2.2⟩,e⟩) (Nat.le_trans (Ze2 hc) hlen)) W.nD W.nC W.dC W.bC hn''
 obtain⟨_,_,_,_,_,V,_⟩:=V
 exact codeAny_compStart_list l1 (It.self V.it l1)
theorem Zhb(G:Gr base mg mb Gd)(hh:A.handled=none){use:Option (Value->Sem Unit)}{Q:Value->Shared->Prop}{env:Env}{sc:Scope}{nm:List Str}{σ:Sg}{fr:List Nat}{t:Nat}{scope:Scope}{elt iter:Expr}{y:Str}{py pos:Pos}{ifs:List Expr}{f:D->Option (Option D)}{ds ys:List D}
  (x:ZaO env sc nm P σ s.heap) (hP:Pf P s.heap) (ok:ZbT sc nm fr scope=true) (hy:nm[t]? = some y) (hl:scope.names.lookup y=some .local) (htf:fr.contains t=false) (hset:∀v,foldedSetIterable iter env v=pure v) (hlen:ds.length<=sizeLine)
  (hsrc:∀Q':Value->Shared->Prop,(∀I s₁ S,Gw s s₁->Ok Gd s₁->It (λa=>P a∧a≠I) S s₁.heap I ds->s.heap.get? I=none->¬base I->(∀b,S b->∃ob,s₁.heap.get? b=some ob)->Q' (.ref I) s₁)->
   wpAny (model prog w) A (eval iter env) (λxv s₁=>wpAny (model prog w) A (pyIter xv) Q' E s₁) E s)
  (hbody:∀d r cenv s₁ (P₁:Addr->Prop) E' Qs,f d=some r->ZaO cenv (ZmM sc scope) nm P₁ ((mask fr σ).set t (.fz d)) s₁.heap->Ok Gd s₁->Pf P₁ s₁.heap->
   (r=none->∀s₂,Gw s₁ s₂->Ok Gd s₂->Qs none s₂)->(∀z,r=some z->∀vz s₂,Gw s₁ s₂->Ok Gd s₂->Rd P₁ s₂.heap vz z->Qs (some vz) s₂)->turnT (model prog w) A ifs elt cenv Qs E' s₁)
  (hc:ZbQ f ds=some ys)
  (hU:∀Dd C s' m,Gw s s'->Ok Gd s'->Rd (λa=>P a∧a≠C) s'.heap (.ref Dd) (.list ys)->s.heap.get? Dd=none->s.heap.get? C=none->Dd≠C->¬base C->s'.heap.Ns C m->compPost (model prog w) A E use Q (.ref Dd) C (.ok .next) s') :
  wpAny (model prog w) A (comprehension (.ListComp elt [⟨.Name y py,iter,ifs,0⟩] scope pos) scope env (firstIterPos [⟨.Name y py,iter,ifs,0⟩] pos) (newList []) false (eval iter env) use) Q E s:=
 Zf1 G x hP ok hset hlen hsrc hc hU λP₁ S I Dd C s₁ R W x₁ V hR=>
  Zmr (cenv:=compEnvC scope (Zb9 env.cells scope.names []) C env) G hh hlen W (lookup_relabel_local hl) (ZaW ok).2.2.2.1 (λd v s₂ m₁ r E' Qs hf o₂ hP₂ hn₂ hm₂ g₂ rv hnone hsome=>hbody d r _ s₂ P₁ E' Qs hf ((x₁.kp g₂.kp).comp ok hn₂ hy hl hm₂ rv htf) o₂ hP₂ hnone hsome) hR V
theorem Zkj(G:Gr base mg mb Gd)(hh:A.handled=none){Q:Value->Shared->Prop}{env:Env}{sc:Scope}{nm:List Str}{σ:Sg}{fr:List Nat}{t:Nat}{scope:Scope}{elt iter:Expr}{y:Str}{py pos:Pos}{ifs:List Expr}{f:D->Option (Option D)}{ds ys:List D}
  (x:ZaO env sc nm P σ s.heap) (o:Ok Gd s) (hP:Pf P s.heap) (ok:ZbT sc nm fr scope=true) (hy:nm[t]? = some y) (hl:scope.names.lookup y=some .local) (htf:fr.contains t=false) (hset:∀v,foldedSetIterable iter env v=pure v) (hlen:ds.length<=sizeLine)
  (hsrc:∀Q':Value->Shared->Prop,(∀I s₁ S,Gw s s₁->Ok Gd s₁->It (λa=>P a∧a≠I) S s₁.heap I ds->s.heap.get? I=none->¬base I->(∀b,S b->∃ob,s₁.heap.get? b=some ob)->Q' (.ref I) s₁)->
   wpAny (model prog w) A (eval iter env) (λxv s₁=>wpAny (model prog w) A (pyIter xv) Q' E s₁) E s)
  (hbody:∀d r cenv s₁ (P₁:Addr->Prop) E' Qs,f d=some r->ZaO cenv (ZmM sc scope) nm P₁ ((mask fr σ).set t (.fz d)) s₁.heap->Ok Gd s₁->Pf P₁ s₁.heap->
   (r=none->∀s₂,Gw s₁ s₂->Ok Gd s₂->Qs none s₂)->(∀z,r=some z->∀vz s₂,Gw s₁ s₂->Ok Gd s₂->Rd P₁ s₂.heap vz z->Qs (some vz) s₂)->turnT (model prog w) A ifs elt cenv Qs E' s₁)
  (hc:ZbQ f ds=some ys) (k:Kc Gd P (.list ys) Q s) :
  wpAny (model prog w) A (eval (.ListComp elt [⟨.Name y py,iter,ifs,0⟩] scope pos) env) Q E s:=by
 erw[rwl (eval_ListComp ..) ?_]
 refine Zhb (use:=none) G hh x hP ok hy hl htf hset hlen hsrc hbody hc λDd C s' m g' o' r hD hC hDC hCb hn=>?_
 refine⟨m,hn,λh' hs=>k _ _ ⟨λb ob n e=>hs.extBut b ob (λq=>by rw[q,hC] at e;cases e) (g'.kp b ob n e),λb ob e=>let ⟨o2,e2⟩:=g'.ex b ob e;⟨o2,hs.extBut b o2 (λq=>by rw[q,hC] at e;cases e) e2⟩,g'.os,g'.gens⟩
  ⟨let ⟨oC,eC,mC,_⟩:=Mut.ns hn;G.same o'.gd hCb eC mC hs.extBut,o'.tk⟩ (r.mono λa ob _ e p=>⟨p.1,hs.extBut a ob p.2 e⟩)⟩
end
end
section
noncomputable def RdX(b:Bool)(P:Addr->Prop)(h:Heap)(v:Value)(d:D):Prop:=if b then Rd P h v d else Rd0 P h v d
theorem RdX.weak{b:Bool}{P:Addr->Prop}{h:Heap}{v:Value}{d:D}(x:RdX b P h v d):Rd0 P h v d:=by
 cases b with
 | true=>exact .of x
 | false=>exact x
theorem RdX.str{P:Addr->Prop}{h:Heap}{v:Value}{d:D}{b:Bool}(hb:b=true)(x:RdX b P h v d):Rd P h v d:=by subst hb;exact x
theorem Zcm{op:CmpOp}{e:Expr}(h:Zai e=true):behindInMarks op e=false:=by
 cases e<;>first | rfl | exact nf h
theorem ZdV{e:Expr}{env:Env}(h:Zai e=true)(v:Value):foldedSetIterable e env v=pure v:=by
 cases e<;>first | rfl | exact nf h
theorem Zab{e:Expr}{r:List Expr}{env:Env}(h:Zai e=true):starEach (e::r) env=(false,eval e env)::starEach r env:=by
 cases e<;>first | rfl | exact nf h
theorem ZdQ{e:Expr}{o i:Value}(h:Zai e=true):subscripted e false o i=operate [o,i] (getItem o i):=by
 cases e<;>first | rfl | exact nf h
theorem ZaQ{o:Expr}{n:Str}{env:Env}{m:Sem Value}(h:ZeR o=true):attributeBase o n env m=m:=by
 cases o with
 | Call g as kw p=>
  cases as with
  | cons=>cases g<;>rfl
  | nil=>
   cases kw with
   | cons=>cases g<;>rfl
   | nil=>cases g<;>first | rfl | exact nf h
 | _=>rfl
theorem Zah{pos:Pos}{t:Sem Value}{r:List (Bool×Sem Value)}:backTo pos ((false,t)::r)=(false,t)::backTo pos r:=rfl
theorem Zay{pos:Pos}:backTo pos []=[]:=rfl
theorem Zam{env:Env}:starEach [] env=[]:=rfl
noncomputable abbrev Zak(prog:Program)(w:World)(Gd:Heap->Prop)(mg:Str->Option Value)(Γ:ZaC)(fn:Nat->Str)(fa:Nat->Addr)(n:Nat):Prop:=(∀f ds d,Γ f ds=some d->mg (fn f)=some (.ref (fa f)))∧(∀f ds d,Γ f ds=some d->∃o fd,o.data=.func fd∧∀h,Gd h->h.get? (fa f)=some o)∧(∀f ds d,Γ f ds=some d->∀(A:Around) (P:Addr->Prop) (s:Shared) (vs:List Value) (R:Result->Shared->Prop),Lv A n->Ok Gd s->Pf P s.heap->Zad P s.heap vs ds->
  (∀v s',Gw s s'->Ok Gd s'->Rd P s'.heap v d->R (.ok (.ret v)) s')->codeAny (model prog w) A (.call (.ref (fa f)) ⟨vs,[]⟩) R s)
theorem Zak.nm{prog:Program}{w:World}{Gd:Heap->Prop}{mg:Str->Option Value}{Γ:ZaC}{fn:Nat->Str}{fa:Nat->Addr}{n:Nat}(slf:Zak prog w Gd mg Γ fn fa n):∀f ds d,Γ f ds=some d->mg (fn f)=some (.ref (fa f)):=slf.1
theorem Zak.ob{prog:Program}{w:World}{Gd:Heap->Prop}{mg:Str->Option Value}{Γ:ZaC}{fn:Nat->Str}{fa:Nat->Addr}{n:Nat}(slf:Zak prog w Gd mg Γ fn fa n):∀f ds d,Γ f ds=some d->∃o fd,o.data=.func fd∧∀h,Gd h->h.get? (fa f)=some o:=slf.2.1
theorem Zak.ok{prog:Program}{w:World}{Gd:Heap->Prop}{mg:Str->Option Value}{Γ:ZaC}{fn:Nat->Str}{fa:Nat->Addr}{n:Nat}(slf:Zak prog w Gd mg Γ fn fa n):∀f ds d,Γ f ds=some d->∀(A:Around) (P:Addr->Prop) (s:Shared) (vs:List Value) (R:Result->Shared->Prop),Lv A n->Ok Gd s->Pf P s.heap->Zad P s.heap vs ds->
  (∀v s',Gw s s'->Ok Gd s'->Rd P s'.heap v d->R (.ok (.ret v)) s')->codeAny (model prog w) A (.call (.ref (fa f)) ⟨vs,[]⟩) R s:=slf.2.2
section
variable (prog:Program) (w:World) (base:Addr->Prop) (mg mb:Str->Option Value) (Gd:Heap->Prop) (Γ:ZaC) (nm:List Str) (fn:Nat->Str) (fa:Nat->Addr) (n:Nat)
noncomputable def evB(op:BoolOp)(σ:Sg)(xs:X):Option D:=match op with | .And=>ZeW Γ σ xs | .Or=>Zk6 Γ σ xs
noncomputable def tvB(op:BoolOp)(σ:Sg)(xs:X):Option Bool:=match op with | .And=>Zkf Γ σ xs | .Or=>Zrz Γ σ xs
noncomputable def SE(x:X):Prop:=∀(sc:Scope) (cp:Bool) (e:Expr) (env:Env) (σ:Sg) (A:Around) (P:Addr->Prop) (s:Shared) (E:Value->Shared->Prop) (Q:Value->Shared->Prop) (d:D),
 mt nm fn sc cp x e=true->ZaO env sc nm P σ s.heap->Lv A n->Ok Gd s->Pf P s.heap->ev Γ σ x=some d->(∀v s',Gw s s'->Ok Gd s'->RdX x.fz P s'.heap v d->Q v s')->wpAny (model prog w) A (eval e env) Q E s
noncomputable def SL(xs:X):Prop:=∀(sc:Scope) (cp:Bool) (es:List Expr) (env:Env) (σ:Sg) (A:Around) (P:Addr->Prop) (s:Shared) (pos:Pos) (E:Value->Shared->Prop) (Q:List Value->Shared->Prop) (ds:List D),
 mtL nm fn sc cp xs es=true->ZdD xs=true->ZaO env sc nm P σ s.heap->Lv A n->Ok Gd s->Pf P s.heap->evL Γ σ xs=some ds->(∀vs s',Gw s s'->Ok Gd s'->Zad P s'.heap vs ds->Q vs s')->wpAny (model prog w) A (spliced (backTo pos (starEach es env))) Q E s
noncomputable def ST(x:X):Prop:=∀(sc:Scope) (cp:Bool) (e:Expr) (env:Env) (σ:Sg) (A:Around) (P:Addr->Prop) (s:Shared) (E:Value->Shared->Prop) (Q:Bool->Shared->Prop) (b:Bool),
 mtT nm fn sc cp x e=true->ZaO env sc nm P σ s.heap->Lv A n->Ok Gd s->Pf P s.heap->tv Γ σ x=some b->(∀s',Gw s s'->Ok Gd s'->Q b s')->wpAny (model prog w) A (isTrue e env (eval e env)) Q E s
noncomputable def SB(op:BoolOp)(xs:X):Prop:=∀(sc:Scope) (cp:Bool) (es:List Expr) (env:Env) (σ:Sg) (A:Around) (P:Addr->Prop) (s:Shared) (pos:Pos) (E:Value->Shared->Prop) (Q:Value->Shared->Prop) (d:D),
 mtL nm fn sc cp xs es=true->ZdD xs=true->ZaO env sc nm P σ s.heap->Lv A n->Ok Gd s->Pf P s.heap->evB Γ op σ xs=some d->(∀v s',Gw s s'->Ok Gd s'->Rd P s'.heap v d->Q v s')->
 wpAny (model prog w) A (boolOp pos op (evalEach es env)) Q E s
noncomputable def SBT(op:BoolOp)(xs:X):Prop:=∀(sc:Scope) (cp:Bool) (es:List Expr) (env:Env) (σ:Sg) (A:Around) (P:Addr->Prop) (s:Shared) (E:Value->Shared->Prop) (Q:Bool->Shared->Prop) (b:Bool),
 ZoZ nm fn sc cp xs es=true->ZaO env sc nm P σ s.heap->Lv A n->Ok Gd s->Pf P s.heap->tvB Γ op σ xs=some b->(∀s',Gw s s'->Ok Gd s'->Q b s')->
 wpAny (model prog w) A (allTrue op es env) Q E s
end
section
variable {prog:Program}{w:World}{base:Addr->Prop}{mg mb:Str->Option Value}{Gd:Heap->Prop}{Γ:ZaC}{nm:List Str}{fn:Nat->Str}{fa:Nat->Addr}{n:Nat}
theorem ZjV(G:Gr base mg mb Gd)(d0:D):SE prog w Gd Γ nm fn n (.const d0):=by
 intro sc cp e env σ A P s E Q d hm x L o hP hv k
 have hm:mtc d0 e=true:=hm
 revert k
 refine eqs (show some d0=some d from hv) λk=>?_
 cases d0 with
 | none=>exact Zom hm λ_ _=>wpAny_Constant_none (k _ _ (.refl _) o .none)
 | bool b=>exact Zom hm λ_ _=>wpAny_Constant_bool (k _ _ (.refl _) o (.bool _))
 | int i=>
  refine or2 hm (λh=>Zom h λ_ _=>wpAny_Constant_int (k _ _ (.tok ..) ⟨o.gd,Nat.le_succ_of_le o.tk⟩ (.int _ _))) λh=>Zfx h λ_ _ h=>Zom h λ_ _=>?_
  refine wpAny_UnaryOp (wpAny_Constant_int (PyProof.Rows.neg_int ?_))
  exact k _ _ (.tok ..) ⟨o.gd,Nat.le_succ_of_le (Nat.le_succ_of_le o.tk)⟩ (show Rd P s.heap (.int (- -i) _) (.int i) from by erw[rwl (Int.neg_neg ..) ?_];exact .int _ _)
 | str l=>
  exact Zbg hm λh1 h2=>Zom h1 λ_ _=>wpAny_Constant_str (k _ _ (.tok ..) ⟨o.gd,Nat.le_succ_of_le o.tk⟩ (show Rd P s.heap _ _ from .str l _ (Nat.le_trans (of_decide_eq_true h2) (Nat.le_of_ble_eq_true rfl))))
 | _=>exact nf hm
@[elab_as_elim] theorem Zlz{i:Nat}{e:Expr}{G:Expr->Prop}(h:mtv nm i e=true)(k:∀y p,nm[i]? = some y->y≠("__debug__" : Str)->y≠("__classdict__" : Str)->G (.Name y p)):G e:=
 Zby (show Zcs _ e=true from h) λy p h=>Zd3 h λh1 h2 h3=>k y p (eq_of_beq h1) (bne_iff_ne.mp h2) (bne_iff_ne.mp h3)
theorem ZrN(i:Nat):SE prog w Gd Γ nm fn n (.var i):=by
 intro sc cp e env σ A P s E Q d hm x L o hP hv k
 refine Zlz (show mtv nm i e=true from hm) λy p h1 h2 h3=>?_
 obtain⟨z,v,hz,hvar,hr⟩:=x.vars i d hv
 exact Zcu (x.scp▸x.kf) (Option.some.inj (h1.symm.trans hz)▸hvar) h2 h3 (k v s (.refl _) o hr)
theorem Zqn(i:Nat):SE prog w Gd Γ nm fn n (.tvar i):=by
 intro sc cp e env σ A P s E Q d hm x L o hP hv k
 refine Zlz (show mtv nm i e=true from hm) λy p h1 h2 h3=>?_
 obtain⟨z,v,hz,hvar,hr⟩:=x.ZtH i d hv
 exact Zcu (x.scp▸x.kf) (Option.some.inj (h1.symm.trans hz)▸hvar) h2 h3 (k v s (.refl _) o hr)
theorem bind_some{α β:Type}{a:Option α}{f:α->Option β}{b:β}(h:a.bind f=some b):∃x,a=some x∧f x=some b:=Zac h λx e h=>⟨x,e,h⟩
theorem map_some{α β:Type}{a:Option α}{f:α->β}{b:β}(h:a.map f=some b):∃x,a=some x∧f x=b:=Zdy h λx e h=>⟨x,e,h⟩
theorem Zsq(G:Gr base mg mb Gd){op:Bop}{l r:X}(hl:SE prog w Gd Γ nm fn n l)(hr:SE prog w Gd Γ nm fn n r):SE prog w Gd Γ nm fn n (.bin op l r):=by
 intro sc cp e env σ A P s E Q d hm x L o hP hv k
 refine Zac (show(ev Γ σ l).bind _=_ from hv) λa ha hv=>Zac hv λb hb hv=>?_
 refine Zly (show Zrt _ e=true from hm) λea oo eb p hm=>Zd3 hm λm1 m2 m3=>eqb m1 ?_
 refine wpAny_BinOp (hl sc cp ea env σ A P s E _ a m2 x L o hP ha λva s₁ g₁ o₁ ra=>?_)
 refine hr sc cp eb env σ A P s₁ E _ b m3 (x.kp g₁.kp) L o₁ (hP.kp g₁.kp) hb λvb s₂ g₂ o₂ rb=>?_
 exact Zum G L o₂ ((hP.kp g₁.kp).kp g₂.kp) (ra.weak.kp g₂.kp) rb.weak hv λv s' g' o' r'=>k v s' ((g₁.trans g₂).trans g') o' r'
theorem Zso{op:Cop}{l r:X}(hl:SE prog w Gd Γ nm fn n l)(hr:SE prog w Gd Γ nm fn n r):SE prog w Gd Γ nm fn n (.cmp op l r):=by
 intro sc cp e env σ A P s E Q d hm x L o hP hv k
 refine Zac (show(ev Γ σ l).bind _=_ from hv) λa ha hv=>Zac hv λb hb hv=>Zdy hv λc hc he=>?_
 refine ZmQ (show ZmG _ _ e=true from hm) λea eb p hm=>Zd3 hm λm1 m2 m3=>?_
 refine wpAny_Compare1 (hl sc cp ea env σ A P s E _ a m2 x L o hP ha λva s₁ g₁ o₁ ra=>?_) (Zcm m1)
 refine hr sc cp eb env σ A P s₁ E _ b m3 (x.kp g₁.kp) L o₁ (hP.kp g₁.kp) hb λvb s₂ g₂ o₂ rb=>?_
 exact ZkS L (ra.weak.kp g₂.kp) rb.weak hc (k _ _ (g₁.trans g₂) o₂ (he▸.bool c))
theorem ZfL{M:Model}{A:Around}{E:Value->Shared->Prop}{s:Shared}{env:Env}{l y z:Expr}{o1 o2:CmpOp}{pos:Pos}{Q:Value->Shared->Prop}(hz:Zai z=true)
  (h:wpAny M A (eval l env) (λa s₁=>wpAny M A (eval y env) (λb s₂=>wpAny M A (compareOp o1 a b) (λc s₃=>wpAny M A (truthy c) (λt s₄=>
   if t then wpAny M A (eval z env) (λc' s₅=>wpAny M A (compareOp o2 b c') Q E s₅) E s₄ else Q c s₄) E s₃) E s₂) E s₁) E s) :
  wpAny M A (eval (.Compare l [o1,o2] [y,z] pos) env) Q E s:=by
 erw[rwl (arm_eval_Compare ..) ?_]
 refine wpAny_bind (wpAny_mono h (λa s₁ h₁=>?_) λ_ _ x=>x)
 show wpAny M A (compareChain pos a [o1,o2] [eval y env,markedBehindIn o2 z (eval z env)]) Q E s₁
 erw[rwl (markedBehindIn_of_false (Zcm hz) ..) ?_]
 show wpAny M A (do
  let rv ←holding [a] (eval y env)
  standAt pos
  let c ←holding [a,rv] (compareOp o1 a rv)
  release [a,rv] [c]
  if ←holding [c,rv] (truthy c) then compareChain pos rv [o2] [eval z env] else pure c) Q E s₁
 refine wpAny_bind (wpAny_holding (wpAny_mono h₁ (λb s₂ h₂=>?_) λ_ _ x=>x))
 refine wpAny_bind (wpAny_standAt (wpAny_bind (wpAny_holding (wpAny_mono h₂ (λc s₃ h₃=>?_) λ_ _ x=>x))))
 refine wpAny_bind (wpAny_release ?_)
 refine wpAny_bind (wpAny_holding (wpAny_mono h₃ (λt s₄ h₄=>?_) λ_ _ x=>x))
 cases t with
 | false=>exact wpAny_pure h₄
 | true=>
  show wpAny M A (do
   let rv ←holding [b] (eval z env)
   standAt pos
   operate [b,rv] (compareOp o2 b rv)) Q E s₄
  refine wpAny_bind (wpAny_holding (wpAny_mono h₄ (λc' s₅ h₅=>?_) λ_ _ x=>x))
  exact wpAny_bind (wpAny_standAt (λΓ p hΓ=>by erw[rwl (Sem.wp_operate ..) ?_];exact h₅ Γ p hΓ))
theorem ZpX{o1 o2:Cop}{a b c:X}(ha:SE prog w Gd Γ nm fn n a)(hb:SE prog w Gd Γ nm fn n b)(hc:SE prog w Gd Γ nm fn n c):SE prog w Gd Γ nm fn n (.cmp2 o1 o2 a b c):=by
 intro sc cp e env σ A P s E Q d hm x L o hP hv k
 refine Zac (show(ev Γ σ a).bind _=_ from hv) λxa hxa hv=>Zac hv λxb hxb hv=>Zac hv λt ht hv=>?_
 refine Zp8 (show Zp6 _ _ _ e=true from hm) λel ey ez p hm=>Zm4 hm λm3 m4 m5 m6 m7=>?_
 refine ZfL m4 (ha sc cp el env σ A P s E _ xa m5 x L o hP hxa λva s₁ g₁ o₁ ra=>?_)
 refine hb sc cp ey env σ A P s₁ E _ xb m6 (x.kp g₁.kp) L o₁ (hP.kp g₁.kp) hxb λvb s₂ g₂ o₂ rb=>?_
 refine ZkS L (ra.weak.kp g₂.kp) rb.weak ht (wpAny_truthy_bool ?_)
 cases t with
 | false=>exact k _ _ (g₁.trans g₂) o₂ (Option.some.inj hv▸.bool false)
 | true=>
  refine Zac (show(ev Γ σ c).bind _=_ from hv) λxc hxc hv=>Zdy hv λr hr he=>?_
  refine hc sc cp ez env σ A P s₂ E _ xc m7 ((x.kp g₁.kp).kp g₂.kp) L o₂ ((hP.kp g₁.kp).kp g₂.kp) hxc λvc s₃ g₃ o₃ rc=>?_
  exact ZkS L (rb.weak.kp g₃.kp) rc.weak hr (k _ _ ((g₁.trans g₂).trans g₃) o₃ (he▸.bool r))
theorem Zs8{y:X}(hy:SE prog w Gd Γ nm fn n y):SE prog w Gd Γ nm fn n (.not y):=by
 intro sc cp e env σ A P s E Q d hm x L o hP hv k
 refine Zac (show(ev Γ σ y).bind _=_ from hv) λa ha hv=>Zdy hv λb hb he=>?_
 refine Zfx (show Zlm .Not _ e=true from hm) λea p hm=>?_
 refine wpAny_UnaryOp (hy sc cp _ env σ A P s E _ a hm x L o hP ha λva s₁ g₁ o₁ ra=>not_value (Zn8 ra.weak o₁ hb λs₂ g₂ o₂ _=>?_))
 exact k _ _ (g₁.trans g₂) o₂ (he▸.bool _)
theorem ZsY{t a b:X}(ht:ST prog w Gd Γ nm fn n t)(ha:SE prog w Gd Γ nm fn n a)(hb:SE prog w Gd Γ nm fn n b):SE prog w Gd Γ nm fn n (.ite t a b):=by
 intro sc cp e env σ A P s E Q d hm x L o hP hv k
 refine Zac (show(tv Γ σ t).bind _=_ from hv) λc hc hv=>?_
 refine Zuq (show qIf _ e=true from hm) λeu ec ed p hm=>Zm4 hm λm1 m2 m3 m4 m5=>?_
 refine wpAny_IfExp (ht sc cp _ env σ A P s E _ c m3 x L o hP hc λs₁ g₁ o₁=>?_)
 cases c with
 | true=>exact ha sc cp _ env σ A P s₁ E Q d m4 (x.kp g₁.kp) L o₁ (hP.kp g₁.kp) hv λv s' g' o' r'=>k v s' (g₁.trans g') o' (r'.str m1)
 | false=>exact hb sc cp _ env σ A P s₁ E Q d m5 (x.kp g₁.kp) L o₁ (hP.kp g₁.kp) hv λv s' g' o' r'=>k v s' (g₁.trans g') o' (r'.str m2)
end
end
section
section
variable {prog:Program}{w:World}{base:Addr->Prop}{mg mb:Str->Option Value}{Gd:Heap->Prop}{Γ:ZaC}{nm:List Str}{fn:Nat->Str}{fa:Nat->Addr}{n:Nat}
theorem Ztn:SL prog w Gd Γ nm fn n .nil:=by
 intro sc cp es env σ A P s pos E Q ds hm hf x L o hP hv k
 revert k
 exact eqs (show some []=some ds from hv) λk=>ZcB (show es.isEmpty=true from hm) (Calls.spliced_nil (k _ _ (.refl _) o .nil))
theorem ZqJ{y ys:X}(hy:SE prog w Gd Γ nm fn n y)(hys:SL prog w Gd Γ nm fn n ys):SL prog w Gd Γ nm fn n (.cons y ys):=by
 intro sc cp es env σ A P s pos E Q ds hm hf x L o hP hv k
 refine Zac (show(ev Γ σ y).bind _=_ from hv) λa ha hv=>Zdy hv λas has he=>?_
 refine Zrx (show bc _ es=true from hm) λe r hm=>Zd3 hm λm1 m2 m3=>?_
 refine Zbg (show(y.fz&&ZdD ys)=true from hf) λf1 f2=>?_
 erw[rwl (Zab m1 ..) (rwl (Zah ..) ?_)]
 refine Calls.spliced_cons (hy sc cp e env σ A P s E _ a m2 x L o hP ha λv s₁ g₁ o₁ rv=>?_)
 refine hys sc cp r env σ A P s₁ pos E _ as m3 f2 (x.kp g₁.kp) L o₁ (hP.kp g₁.kp) has λvs s₂ g₂ o₂ rvs=>?_
 exact k _ _ (g₁.trans g₂) o₂ (he▸.cons ((rv.str f1).kp g₂.kp) rvs)
noncomputable def evR(Γ:ZaC)(σ:Sg)(op:BoolOp)(ys:X)(a:D)(b:Bool):Option D:=match op with
 | .And=>if b then ZeW Γ σ ys else some a
 | .Or=>if b then some a else Zk6 Γ σ ys
theorem ZnB{op:BoolOp}{y ys:X}{σ:Sg}{d:D}{G:Prop}(h:evB Γ op σ (.cons y ys)=some d)(k:∀a,ev Γ σ y=some a->(if ys.ZmY then some a else(tru a).bind (evR Γ σ op ys a))=some d->G):G:=by
 cases op with
 | And=>exact Zac (show(ev Γ σ y).bind _=_ from h) k
 | Or=>exact Zac (show(ev Γ σ y).bind _=_ from h) k
theorem ZqE{sc:Scope}{cp:Bool}{ys:X}(h:mtL nm fn sc cp ys []=true):ys.ZmY=true:=by
 cases ys<;>first | rfl | exact nf h
theorem Zn1{sc:Scope}{cp:Bool}{ys:X}{e:Expr}{r:List Expr}(h:mtL nm fn sc cp ys (e::r)=true):ys.ZmY=false:=by
 cases ys<;>first | rfl | exact nf h
theorem Zq2{op:BoolOp}{y ys:X}(hy:SE prog w Gd Γ nm fn n y)(hys:SB prog w Gd Γ nm fn n op ys):SB prog w Gd Γ nm fn n op (.cons y ys):=by
 intro sc cp es env σ A P s pos E Q d hm hf x L o hP hv k
 refine Zrx (show bc _ es=true from hm) λe r hm=>Zd3 hm λm1 m2 m3=>?_
 refine Zbg (show(y.fz&&ZdD ys)=true from hf) λf1 f2=>ZnB hv λa ha hv=>?_
 cases r with
 | nil=>
  rw[if_pos (ZqE m3)] at hv
  exact hy sc cp e env σ A P s E Q _ m2 x L o hP ha λv s' g o' r=>k v s' g o' (Option.some.inj hv▸r.str f1)
 | cons e2 r2=>
  rw[Zn1 m3] at hv
  refine Zac (show(tru a).bind _=_ from hv) λt ht hv=>?_
  show wpAny (model prog w) A (do
   let v ←eval e env
   standAt pos
   let t ←holding [v] (truthy v)
   match op,t with
   | .And,false | .Or,true=>pure v
   | _,_=>boolOp pos op (evalEach (e2::r2) env)) Q E s
  refine wpAny_bind (hy sc cp e env σ A P s E _ a m2 x L o hP ha λv s₁ g₁ o₁ rv=>?_)
  refine wpAny_bind (wpAny_standAt (wpAny_bind (wpAny_holding (Zn8 rv.weak o₁ ht λs₂ g₂ o₂ he=>?_))))
  have g:=g₁.trans g₂
  have stop:some a=some d->wpAny (model prog w) A (pure v) Q E s₂:=λe=>wpAny_pure (k _ _ g o₂ (Option.some.inj e▸(rv.str f1).kp g₂.kp))
  have rest:evB Γ op σ ys=some d->wpAny (model prog w) A (boolOp pos op (evalEach (e2::r2) env)) Q E s₂:=λhr=>
   hys sc cp (e2::r2) env σ A P s₂ pos E Q d m3 f2 (x.kp g.kp) L o₂ (hP.kp g.kp) hr λv' s' g' o' r'=>k v' s' (g.trans g') o' r'
  cases op<;>cases t
  ·exact stop hv
  ·exact rest hv
  ·exact rest hv
  ·exact stop hv
theorem ZsE{op:BoolOp}:SB prog w Gd Γ nm fn n op .nil:=by
 intro sc cp es env σ A P s pos E Q d hm hf x L o hP hv k
 cases op<;>exact nn hv
theorem Zqj{xs:X}(h:SB prog w Gd Γ nm fn n .And xs):SE prog w Gd Γ nm fn n (.band xs):=by
 intro sc cp e env σ A P s E Q d hm x L o hP hv k
 refine Zf8 (show Zm3 .And _ e=true from hm) λes p hm=>Zbg hm λm1 m2=>?_
 erw[rwl (arm_eval_BoolOp ..) ?_]
 exact h sc cp _ env σ A P s _ E Q d m1 m2 x L o hP hv k
theorem Zr2{xs:X}(h:SB prog w Gd Γ nm fn n .Or xs):SE prog w Gd Γ nm fn n (.bor xs):=by
 intro sc cp e env σ A P s E Q d hm x L o hP hv k
 refine Zf8 (show Zm3 .Or _ e=true from hm) λes p hm=>Zbg hm λm1 m2=>?_
 erw[rwl (arm_eval_BoolOp ..) ?_]
 exact h sc cp _ env σ A P s _ E Q d m1 m2 x L o hP hv k
theorem Zgn{e:Expr}{env:Env}{m:Sem Value}(h:plainT e=true):isTrue e env m=(do let v ←m;standAt e.pos;holding [v] (truthy v)):=by
 cases e with
 | UnaryOp op x p=>cases op<;>first | rfl | exact nf h
 | BoolOp=>exact nf h
 | IfExp=>exact nf h
 | Compare=>exact nf h
 | _=>rfl
theorem ZrE{y:X}(hy:SE prog w Gd Γ nm fn n y):ST prog w Gd Γ nm fn n (.tval y):=by
 intro sc cp e env σ A P s E Q b hm x L o hP hv k
 refine Zac (show(ev Γ σ y).bind _=_ from hv) λa ha hv=>Zbg (show(plainT e&&mt nm fn sc cp y e)=true from hm) λm1 m2=>?_
 refine wpAny_isTrue_value (hy sc cp e env σ A P s E _ a m2 x L o hP ha λv s₁ g₁ o₁ r=>?_) (Zgn m1)
 exact Zn8 r.weak o₁ hv λs₂ g₂ o₂ _=>k _ (g₁.trans g₂) o₂
theorem Ztz{op:Cop}{l r:X}(hl:SE prog w Gd Γ nm fn n l)(hr:SE prog w Gd Γ nm fn n r):ST prog w Gd Γ nm fn n (.tcmp op l r):=by
 intro sc cp e env σ A P s E Q c hm x L o hP hv k
 refine Zac (show(ev Γ σ l).bind _=_ from hv) λa ha hv=>Zac hv λb hb hc=>?_
 refine ZmQ (show ZmG _ _ e=true from hm) λea eb p hm=>Zd3 hm λm1 m2 m3=>?_
 refine wpAny_isTrue_Compare1 (hl sc cp ea env σ A P s E _ a m2 x L o hP ha λva s₁ g₁ o₁ ra=>?_) (Zcm m1)
 refine hr sc cp eb env σ A P s₁ E _ b m3 (x.kp g₁.kp) L o₁ (hP.kp g₁.kp) hb λvb s₂ g₂ o₂ rb=>?_
 exact ZkS L (ra.weak.kp g₂.kp) rb.weak hc (wpAny_truthy_bool (k _ (g₁.trans g₂) o₂))
theorem ZrJ{y:X}(hy:ST prog w Gd Γ nm fn n y):ST prog w Gd Γ nm fn n (.tnot y):=by
 intro sc cp e env σ A P s E Q c hm x L o hP hv k
 refine Zdy (show(tv Γ σ y).map _=_ from hv) λb hb he=>?_
 refine Zfx (show Zlm .Not _ e=true from hm) λea p hm=>?_
 exact wpAny_isTrue_Not (hy sc cp _ env σ A P s E _ b hm x L o hP hb λs₁ g₁ o₁=>he▸k _ g₁ o₁)
theorem ZpG{op:BoolOp}:SBT prog w Gd Γ nm fn n op .nil:=by
 intro sc cp es env σ A P s E Q b hm x L o hP hv k
 refine ZcB (show es.isEmpty=true from hm) ?_
 revert k
 cases op
 ·exact eqs (show some true=some b from hv) λk=>wpAny_allTrue_And_nil (k _ (.refl _) o)
 ·exact eqs (show some false=some b from hv) λk=>wpAny_allTrue_Or_nil (k _ (.refl _) o)
theorem Zn0{op:BoolOp}{y ys:X}(hy:ST prog w Gd Γ nm fn n y)(hys:SBT prog w Gd Γ nm fn n op ys):SBT prog w Gd Γ nm fn n op (.cons y ys):=by
 intro sc cp es env σ A P s E Q b hm x L o hP hv k
 refine Zrx (show bc _ es=true from hm) λe r hm=>Zbg hm λm1 m2=>?_
 have rest:∀{s₁},Gw s s₁->Ok Gd s₁->tvB Γ op σ ys=some b->wpAny (model prog w) A (allTrue op r env) Q E s₁:=λg₁ o₁ hv=>hys sc cp r env σ A P _ E Q b m2 (x.kp g₁.kp) L o₁ (hP.kp g₁.kp) hv λs' g' o'=>k _ (g₁.trans g') o'
 cases op with
 | And=>
  refine Zac (show(tv Γ σ y).bind _=_ from hv) λt ht hv=>?_
  refine wpAny_allTrue_And_cons (hy sc cp e env σ A P s E _ t m1 x L o hP ht λs₁ g₁ o₁=>?_)
  cases t with
  | false=>exact(show Q false s₁ from(Option.some.inj hv).symm▸k _ g₁ o₁)
  | true=>exact rest g₁ o₁ hv
 | Or=>
  refine Zac (show(tv Γ σ y).bind _=_ from hv) λt ht hv=>?_
  refine wpAny_allTrue_Or_cons (hy sc cp e env σ A P s E _ t m1 x L o hP ht λs₁ g₁ o₁=>?_)
  cases t with
  | true=>exact(show Q true s₁ from(Option.some.inj hv).symm▸k _ g₁ o₁)
  | false=>exact rest g₁ o₁ hv
theorem Zsh{xs:X}(h:SBT prog w Gd Γ nm fn n .And xs):ST prog w Gd Γ nm fn n (.tand xs):=by
 intro sc cp e env σ A P s E Q b hm x L o hP hv k
 exact Zf8 (show Zm3 .And _ e=true from hm) λes p hm=>wpAny_isTrue_BoolOp (h sc cp _ env σ A P s E Q b hm x L o hP hv k)
theorem ZuV{xs:X}(h:SBT prog w Gd Γ nm fn n .Or xs):ST prog w Gd Γ nm fn n (.tor xs):=by
 intro sc cp e env σ A P s E Q b hm x L o hP hv k
 exact Zf8 (show Zm3 .Or _ e=true from hm) λes p hm=>wpAny_isTrue_BoolOp (h sc cp _ env σ A P s E Q b hm x L o hP hv k)
theorem Ztt{sc:Scope}{cp:Bool}{xs:X}{e:Expr}{r:List Expr}(h:mtL nm fn sc cp xs (e::r)=true):Zai e=true:=by
 cases xs<;>first | exact Zd3 h λh1 _ _=>h1 | exact nf h
theorem ZqP(G:Gr base mg mb Gd)(C:Zak prog w Gd mg Γ fn fa n){f:Nat}{xs:X}(h:SL prog w Gd Γ nm fn n xs):SE prog w Gd Γ nm fn n (.call f xs):=by
 intro sc cp e env σ A P s E Q d hm x L o hP hv k
 refine Zac (show(evL Γ σ xs).bind _=_ from hv) λds hds hv=>?_
 refine ZmH (show qFn _ _ _ e=true from hm) λp es pos m2 hm=>ZjH hm λm3 m4 m5 m6=>?_
 refine wpAny_Call_NameR (ZcR G o.gd x m2 (C.nm f ds d hv) (bne_iff_ne.mp m3) ?_)
 have hargs:wpAny (model prog w) A (spliced (backTo pos (starEach es env))) (λvs s₁=>Gw s s₁∧Ok Gd s₁∧Zad P s₁.heap vs ds) E s:=h sc cp es env σ A P s pos E _ ds m6 m5 x L o hP hds λvs s₁ g₁ o₁ r=>⟨g₁,o₁,r⟩
 cases es with
 | nil=>exact nf m4
 | cons e0 r0=>
  obtain⟨ob,fd,hfd,hob⟩:=C.ob f ds d hv
  rw[Zab (Ztt m6),Zah] at hargs ⊢
  refine Calls.callWith_function (o:=ob) (fd:=fd) (Calls.evalArgs_plain (wpAny_mono hargs (λvs s₁ hs=>?_) λ_ _ e=>e))
  obtain⟨g₁,o₁,r⟩:=hs
  refine⟨⟨hob _ o₁.gd,hfd⟩,wpAny_call ?_⟩
  exact C.ok f ds d hv A P s₁ vs _ L o₁ (hP.kp g₁.kp) r λv s' g' o' r'=>k v s' (g₁.trans g') o' r'
end
end
section
theorem ZqL(b:Bfn):(b.name,b.val)∈([("len",.builtin "len"),("chr",.builtin "chr"),("sum",.builtin "sum"),("list",.type "list"),("range",.type "range"),("iter",.builtin "iter"),("object",.type "object"),("str",.type "str"),("isinstance",.builtin "isinstance")]:List (Str×Value)):=by
 cases b with
 | len=>exact .head _
 | chr=>exact .tail _ (.head _)
 | sum=>exact .tail _ (.tail _ (.head _))
 | list=>exact .tail _ (.tail _ (.tail _ (.head _)))
theorem Zq7(b:Bfn):b.name≠("__debug__" : Str):=by cases b<;>decide
section
variable {prog:Program}{w:World}{base:Addr->Prop}{mg mb:Str->Option Value}{Gd:Heap->Prop}{Γ:ZaC}{nm:List Str}{fn:Nat->Str}{fa:Nat->Addr}{n:Nat}
theorem ZhV{A:Around}{E:Value->Shared->Prop}{s:Shared}{pos:Pos}{b:Bfn}{t:Sem Value}{Q:Value->Shared->Prop}(h:wpAny (model prog w) A t (λv s₁=>wpAny (model prog w) A (call b.val [v]) Q E s₁) E s) :
  wpAny (model prog w) A (callWith pos b.val [] [(false,t)] []) Q E s:=by
 have hargs:∀f:Value,wpAny (model prog w) A (evalArgs f true [(false,t)] []) (λa s₁=>wpAny (model prog w) A (call b.val ([]++a.pos) a.kw) Q E s₁) E s:=λf=>
  Calls.evalArgs_plain (Calls.spliced_cons (wpAny_mono h (λv s₁ h₁=>Calls.spliced_nil h₁) λ_ _ e=>e))
 cases b with
 | len=>exact Calls.callWith_builtin rfl (hargs _)
 | chr=>exact Calls.callWith_builtin rfl (hargs _)
 | sum=>exact Calls.callWith_builtin rfl (hargs _)
 | list=>exact PySem.callWith_type rfl (hargs _)
theorem ZsC(G:Gr base mg mb Gd){b:Bfn}{y:X}(hy:SE prog w Gd Γ nm fn n y):SE prog w Gd Γ nm fn n (.bfn b y):=by
 intro sc cp e env σ A P s E Q d hm x L o hP hv k
 refine Zac (show(ev Γ σ y).bind _=_ from hv) λa ha hv=>?_
 refine ZmH (show qFn _ _ _ e=true from hm) λp as pos m2 hm=>ZfO hm λea hm=>Zbg hm λm3 m4=>?_
 refine wpAny_Call_NameR (ZcL G o.gd x m2 (ZqL b) (Zq7 b) ?_)
 erw[rwl (Zab m3 ..) (rwl (Zah ..) (rwl (Zam ..) (rwl (Zay ..) ?_)))]
 refine ZhV (hy sc cp ea env σ A P s E _ a m4 x L o hP ha λv s₁ g₁ o₁ r=>?_)
 exact ZtR G L o₁ (hP.kp g₁.kp) r.weak hv λv' s' g' o' r'=>k v' s' (g₁.trans g') o' r'
theorem Zbw{s:Shared}{x:Str}{t:Tok}:∀a,Value.str x t=.ref a->∃ob,s.heap.get? a=some ob∧ob.dict=none:=λa e=>by cases e
theorem Zm7{b y a:X}(hb:SE prog w Gd Γ nm fn n b)(hy:SE prog w Gd Γ nm fn n y)(ha:SE prog w Gd Γ nm fn n a):SE prog w Gd Γ nm fn n (.find2 b y a):=by
 intro sc cp e env σ A P s E Q d hm x L o hP hv k
 refine Zac (show(ev Γ σ b).bind _=_ from hv) λd1 h1 hv=>Zac hv λd2 h2 hv=>Zac hv λd3 h3 hv=>?_
 revert h1 h2 h3 k
 refine ZbG hv λl hv=>ZbG hv λc hv=>ZnA hv λc hv=>Za2 hv λi hv=>ifS hv λhi hv=>eqs hv λk h1 h2 h3=>?_
 refine Zbz (show ZcI _ _ e=true from hm) λeo ap as pos m2 m3 hm=>ZkK hm λp q hm=>Zm4 hm λm4 m5 m6 m7 m8=>?_
 refine wpAny_Call_method (T := "str") (id := "str.find") (ZaQ m2) (by erw[rwl (Zab m4 ..) (rwl (Zab m5 ..) (rwl (Zam ..) ?_))];rfl) m3 F.plainAttrs_str F.slot_str_find F.type_str_find ?_
 refine hb sc cp eo env σ A P s E _ _ m6 x L o hP h1 λv1 s₁ g₁ o₁ r1=>r1.weak.Zba λt hl=>?_
 refine⟨rfl,Zbw,?_⟩
 erw[rwl (Zab m4 ..) (rwl (Zab m5 ..) (rwl (Zam ..) (rwl (Zah ..) (rwl (Zah ..) (rwl (Zay ..) ?_)))))]
 refine Calls.callWith_builtin rfl (Calls.evalArgs_plain (Calls.spliced_cons ?_))
 refine hy sc cp p env σ A P s₁ E _ _ m7 (x.kp g₁.kp) L o₁ (hP.kp g₁.kp) h2 λv2 s₂ g₂ o₂ r2=>Calls.spliced_cons ?_
 have g:=g₁.trans g₂
 refine ha sc cp q env σ A P s₂ E _ _ m8 (x.kp g.kp) L o₂ (hP.kp g.kp) h3 λv3 s₃ g₃ o₃ r3=>Calls.spliced_nil ?_
 exact Zp2 (P:=P) o₃ (.of (.str l t hl)) (r2.weak.kp g₃.kp) r3.weak hi.1 λv' s' g' o' r'=>k v' s' ((g.trans g₃).trans g') o' r'
theorem ZoF{b y a z:X}(hb:SE prog w Gd Γ nm fn n b)(hy:SE prog w Gd Γ nm fn n y)(ha:SE prog w Gd Γ nm fn n a)(hz:SE prog w Gd Γ nm fn n z):SE prog w Gd Γ nm fn n (.find3 b y a z):=by
 intro sc cp e env σ A P s E Q d hm x L o hP hv k
 refine Zac (show(ev Γ σ b).bind _=_ from hv) λd1 h1 hv=>Zac hv λd2 h2 hv=>Zac hv λd3 h3 hv=>Zac hv λd4 h4 hv=>?_
 revert h1 h2 h3 h4 k
 refine ZbG hv λl hv=>ZbG hv λc hv=>ZnA hv λc hv=>Za2 hv λi hv=>Za2 hv λj hv=>ifS hv λhi hv=>eqs hv λk h1 h2 h3 h4=>?_
 refine Zbz (show ZcI _ _ e=true from hm) λeo ap as pos m2 m3 hm=>ZuR hm λp q r hm=>ZtV hm λm4 m5 m9 m6 m7 m8 m10=>?_
 refine wpAny_Call_method (T := "str") (id := "str.find") (ZaQ m2) (by erw[rwl (Zab m4 ..) (rwl (Zab m5 ..) (rwl (Zab m9 ..) (rwl (Zam ..) ?_)))];rfl) m3 F.plainAttrs_str F.slot_str_find F.type_str_find ?_
 refine hb sc cp eo env σ A P s E _ _ m6 x L o hP h1 λv1 s₁ g₁ o₁ r1=>r1.weak.Zba λt hl=>?_
 refine⟨rfl,Zbw,?_⟩
 erw[rwl (Zab m4 ..) (rwl (Zab m5 ..) (rwl (Zab m9 ..) (rwl (Zam ..) (rwl (Zah ..) (rwl (Zah ..) (rwl (Zah ..) (rwl (Zay ..) ?_)))))))]
 refine Calls.callWith_builtin rfl (Calls.evalArgs_plain (Calls.spliced_cons ?_))
 refine hy sc cp p env σ A P s₁ E _ _ m7 (x.kp g₁.kp) L o₁ (hP.kp g₁.kp) h2 λv2 s₂ g₂ o₂ r2=>Calls.spliced_cons ?_
 have g:=g₁.trans g₂
 refine ha sc cp q env σ A P s₂ E _ _ m8 (x.kp g.kp) L o₂ (hP.kp g.kp) h3 λv3 s₃ g₃ o₃ r3=>Calls.spliced_cons ?_
 have g':=g.trans g₃
 refine hz sc cp r env σ A P s₃ E _ _ m10 (x.kp g'.kp) L o₃ (hP.kp g'.kp) h4 λv4 s₄ g₄ o₄ r4=>Calls.spliced_nil ?_
 exact Zpz (P:=P) o₄ (.of (.str l t hl)) ((r2.weak.kp g₃.kp).kp g₄.kp) (r3.weak.kp g₄.kp) r4.weak hi.1 hi.2.2.1 hi.2.2.2 λv' s' g'' o' r'=>k v' s' ((g'.trans g₄).trans g'') o' r'
theorem Zbo{M:Model}{A:Around}{E:Value->Shared->Prop}{s:Shared}{env:Env}{e:Expr}{l:List Nat}{Q:Value->Shared->Prop}(h:mtc (.str l) e=true)(hq:Q (.str ⟨l.toArray⟩ s.toks) { s with toks:=s.toks+1 }):wpAny M A (eval e env) Q E s:=
 Zbg (show(qC _ e&&_)=true from h) λh1 _=>Zom h1 λ_ _=>wpAny_Constant_str hq
theorem ZdG{l:List Nat}{e:Expr}(h:mtc (.str l) e=true):Zai e=true:=
 Zbg (show(qC _ e&&_)=true from h) λh1 _=>Zom (G:=λe=>Zai e=true) h1 λ_ _=>rfl
theorem Zqw{b:X}{c z:Nat}{zs:List Nat}(hb:SE prog w Gd Γ nm fn n b):SE prog w Gd Γ nm fn n (.repl b c z zs):=by
 intro sc cp e env σ A P s E Q d hm x L o hP hv k
 refine Zac (show(ev Γ σ b).bind _=_ from hv) λd1 h1 hv=>?_
 revert h1 k
 refine ZbG hv λl hv=>ifS hv λhi hv=>eqs hv λk h1=>?_
 refine Zbz (show ZcI _ _ e=true from hm) λeo ap as pos m2 m3 hm=>ZkK hm λp q hm=>ZjH hm λm4 m5 m6 m7=>?_
 have p1:=ZdG m4
 have p2:=ZdG m5
 refine wpAny_Call_method (T := "str") (id := "str.replace") (ZaQ m2) (by erw[rwl (Zab p1 ..) (rwl (Zab p2 ..) (rwl (Zam ..) ?_))];rfl) m3 F.plainAttrs_str F.slot_str_replace F.type_str_replace ?_
 refine hb sc cp eo env σ A P s E _ _ m7 x L o hP h1 λv1 s₁ g₁ o₁ r1=>r1.weak.Zba λt hl=>?_
 refine⟨rfl,Zbw,?_⟩
 erw[rwl (Zab p1 ..) (rwl (Zab p2 ..) (rwl (Zam ..) (rwl (Zah ..) (rwl (Zah ..) (rwl (Zay ..) ?_)))))]
 refine Calls.callWith_builtin rfl (Calls.evalArgs_plain (Calls.spliced_cons ?_))
 refine Zbo m4 (Calls.spliced_cons (Zbo m5 (Calls.spliced_nil ?_)))
 have o₃:Ok Gd ({ s₁ with toks:=s₁.toks+1+1 }:Shared):=⟨o₁.gd,Nat.le_succ_of_le (Nat.le_succ_of_le o₁.tk)⟩
 refine Zr5 (P:=P) (z:=z::zs) o₃ (.of (.str l t hl)) (Nat.ne_of_gt o₁.tk) (Nat.succ_le_succ hi.2) hi.1 (λq=>?_) λv' s' g' o' r'=>k v' s' ((g₁.trans (Gw.tok _ _)).trans g') o' r'
 rw[q,beq_self_eq_true] at m6
 exact nf m6
theorem Zrh{b y:X}(hb:SE prog w Gd Γ nm fn n b)(hy:SE prog w Gd Γ nm fn n y):SE prog w Gd Γ nm fn n (.join b y):=by
 intro sc cp e env σ A P s E Q d hm x L o hP hv k
 refine Zac (show(ev Γ σ b).bind _=_ from hv) λd1 h1 hv=>Zac hv λd2 h2 hv=>?_
 revert h1 h2 k
 refine ZbG hv λsep hv=>Zds hv λl hv=>Zac hv λls hls hv=>ifS hv λhi hv=>eqs hv λk h1 h2=>?_
 refine Zbz (show ZcI _ _ e=true from hm) λeo ap as pos m2 m3 hm=>ZfO hm λp hm=>Zd3 hm λm4 m5 m6=>?_
 refine wpAny_Call_method (T := "str") (id := "str.join") (ZaQ m2) (by erw[rwl (Zab m4 ..) (rwl (Zam ..) ?_)];rfl) m3 F.plainAttrs_str F.slot_str_join F.type_str_join ?_
 refine hb sc cp eo env σ A P s E _ _ m5 x L o hP h1 λv1 s₁ g₁ o₁ r1=>r1.weak.Zba λt hl=>?_
 refine⟨rfl,Zbw,?_⟩
 erw[rwl (Zab m4 ..) (rwl (Zam ..) (rwl (Zah ..) (rwl (Zay ..) ?_)))]
 refine Calls.callWith_builtin rfl (Calls.evalArgs_plain (Calls.spliced_cons ?_))
 rw[Zcr hls] at h2
 refine hy sc cp p env σ A P s₁ E _ _ m6 (x.kp g₁.kp) L o₁ (hP.kp g₁.kp) h2 λv2 s₂ g₂ o₂ r2=>Calls.spliced_nil (r2.weak.ZbL λD vs hD rv _=>?_)
 exact ZoX (P:=P) o₂ (.of (.str sep t hl)) hD.isList rv hi.1 hi.2.1 hi.2.2 λv' s' g' o' r'=>k v' s' ((g₁.trans g₂).trans g') o' r'
theorem ZuS{A:Around}{E:Value->Shared->Prop}{s:Shared}{P:Addr->Prop}{Q:Value->Shared->Prop}{value slice:Expr}{a b d:D}{va vb:Value}(o:Ok Gd s)(ra:Rd0 P s.heap va a)(rb:Rd0 P s.heap vb b)(h:Zk8 a b=some d)(hp:Zai slice=true)(k:Kc Gd P d Q s) :
  wpAny (model prog w) A (subscriptTail value slice va vb) Q E s:=by
 have hg:=ZrK (prog:=prog) (w:=w) (A:=A) (E:=E) o ra rb h k
 cases a with
 | str l=>revert hg;exact ra.Zba λt _ hg=>tail_any (T := "str") rfl F.slot_str_getitem.lookup hg (ZdQ hp)
 | list l=>revert hg;exact ra.ZbL λD vs hD _ _ hg=>tail_any hD.isList.typeIs slot_list_getitem.lookup hg (ZdQ hp)
 | tuple l=>revert hg;exact ra.Zc1 λD vs _ hD _ _ hg=>tail_any hD.isTuple.typeIs F.slot_tuple_getitem.lookup hg (ZdQ hp)
 | _=>exact nn h
theorem Zsu{a b:X}(ha:SE prog w Gd Γ nm fn n a)(hb:SE prog w Gd Γ nm fn n b):SE prog w Gd Γ nm fn n (.idx a b):=by
 intro sc cp e env σ A P s E Q d hm x L o hP hv k
 refine Zac (show(ev Γ σ a).bind _=_ from hv) λd1 h1 hv=>Zac hv λd2 h2 hv=>?_
 refine Zge (show Znr _ e=true from hm) λex ey pos hm=>Zd3 hm λm1 m2 m3=>?_
 refine Subscript_ (ha sc cp ex env σ A P s E _ _ m2 x L o hP h1 λv1 s₁ g₁ o₁ r1=>?_)
 refine hb sc cp ey env σ A P s₁ E _ _ m3 (x.kp g₁.kp) L o₁ (hP.kp g₁.kp) h2 λv2 s₂ g₂ o₂ r2=>?_
 exact ZuS o₂ (r1.weak.kp g₂.kp) r2.weak hv m1 λv' s' g' o' r'=>k v' s' ((g₁.trans g₂).trans g') o' r'
theorem Zia{c:X}(h:c.Za8=true):c=.const .none:=by
 cases c with
 | const d=>cases d<;>first | rfl | exact nf h
 | _=>exact nf h
theorem ZhQ{y:X}(hy:SE prog w Gd Γ nm fn n y){sc:Scope}{cp:Bool}{eo:Option Expr}{env:Env}{σ:Sg}{A:Around}{P:Addr->Prop}{s:Shared}{E:Value->Shared->Prop}{Q:Value->Shared->Prop}{d:D}
  (hm:opt y.Za8 (λz=>mt nm fn sc cp y z) eo=true) (x:ZaO env sc nm P σ s.heap) (L:Lv A n) (o:Ok Gd s) (hP:Pf P s.heap) (hv:ev Γ σ y=some d) (k:∀v s',Gw s s'->Ok Gd s'->Rd0 P s'.heap v d->Q v s') :
  wpAny (model prog w) A (evalPart eo env) Q E s:=by
 cases eo with
 | none=>
  rw[Zia hm] at hv
  erw[rwl (evalPart_none ..) ?_]
  exact wpAny_pure (k _ _ (.refl _) o (Option.some.inj (show some D.none=some d from hv)▸.of .none))
 | some z=>
  erw[rwl (evalPart_some ..) ?_]
  exact hy sc cp z env σ A P s E Q d hm x L o hP hv λv s' g o' r=>k v s' g o' r.weak
theorem Zs4(G:Gr base mg mb Gd){a lo hi:X}(ha:SE prog w Gd Γ nm fn n a)(hlo:SE prog w Gd Γ nm fn n lo)(hhi:SE prog w Gd Γ nm fn n hi):SE prog w Gd Γ nm fn n (.slc a lo hi):=by
 intro sc cp e env σ A P s E Q d hm x L o hP hv k
 refine Zac (show(ev Γ σ a).bind _=_ from hv) λd1 h1 hv=>Zac hv λd2 h2 hv=>Zac hv λd3 h3 hv=>?_
 refine Zge (show Znr _ e=true from hm) λex ey pos hm=>ZnY hm λl u st p hm=>ZjH hm λm0 m1 m2 m3=>?_
 erw[rwl (Option.isNone_iff_eq_none.mp m0 ..) ?_]
 refine Subscript_ (ha sc cp ex env σ A P s E _ _ m1 x L o hP h1 λv1 s₁ g₁ o₁ r1=>?_)
 refine wpAny_Slice (ZhQ hlo m2 (x.kp g₁.kp) L o₁ (hP.kp g₁.kp) h2 λv2 s₂ g₂ o₂ r2=>?_)
 have g:=g₁.trans g₂
 refine ZhQ hhi m3 (x.kp g.kp) L o₂ (hP.kp g.kp) h3 λv3 s₃ g₃ o₃ r3=>?_
 erw[rwl (evalPart_none ..) ?_]
 refine wpAny_pure ?_
 have kk:∀b ob,s₃.heap.get? b=some ob->(s₃.heap.push { cls:=.type "slice",data:=.fields #[v2,v3,.none] }).get? b=some ob:=λ_ _ e=>Heap.get?_push_of_some _ e
 have g₄:Gw s₃ { s₃ with heap:=s₃.heap.push { cls:=.type "slice",data:=.fields #[v2,v3,.none] } }:=.of_keep (tk:=s₃.toks) kk
 have g34:=g₃.trans g₄
 have r1':=(r1.weak.kp g₂.kp).kp g34.kp
 have hg:=ZuN (prog:=prog) (w:=w) (A:=A) (E:=E) (Q:=Q) (P:=P) (s:={ s₃ with heap:=s₃.heap.push { cls:=.type "slice",data:=.fields #[v2,v3,.none] } }) G ⟨G.keeps o₃.gd kk,o₃.tk⟩ (hP.kp (g.trans g34).kp) r1' (r2.kp g34.kp) (r3.kp g₄.kp) (Heap.get?_push_size _ rfl) hv
  λv' s' g' o' r'=>k v' s' ((g.trans g34).trans g') o' r'
 have hsub:∀va:Value,subscripted (.Slice l u none p) false va (.ref s₃.heap.objs.size)=operate [.ref s₃.heap.objs.size,va] (getItem va (.ref s₃.heap.objs.size)):=λ_=>rfl
 refine Zac (show(Zjw d2).bind _=_ from hv) λlo' _ hv=>Zac hv λhi' _ hv=>?_
 revert hg
 cases d1 with
 | str l=>exact r1'.Zba λt _ hg=>tail_any (T := "str") rfl F.slot_str_getitem.lookup hg (hsub _)
 | list l=>exact r1'.ZbL λD vs hD _ _ hg=>tail_any hD.isList.typeIs slot_list_getitem.lookup hg (hsub _)
 | _=>exact nn hv
theorem Zpt(G:Gr base mg mb Gd){xs:X}(h:SL prog w Gd Γ nm fn n xs):SE prog w Gd Γ nm fn n (.list xs):=by
 intro sc cp e env σ A P s E Q d hm x L o hP hv k
 refine Zac (show(evL Γ σ xs).bind _=_ from hv) λds hds hv=>?_
 revert k
 refine ZkN hv λhl k=>Zed (show Zg7 _ e=true from hm) λes p hm=>Zbg hm λm1 m2=>?_
 refine wpAny_List (h sc cp _ env σ A P s _ E _ ds m2 m1 x L o hP hds λvs s₁ g₁ o₁ r=>⟨by erw[rwl (r.length ..) ?_];exact hl,?_⟩)
 have kk:∀b ob,s₁.heap.get? b=some ob->(s₁.heap.push { cls:=.type "list",data:=.seq vs.toArray }).get? b=some ob:=λ_ _ e=>Heap.get?_push_of_some _ e
 exact k _ _ (g₁.trans (.of_keep (tk:=s₁.toks) kk)) ⟨G.keeps o₁.gd kk,o₁.tk⟩ (.list ((hP.kp g₁.kp).fresh (Zau _)) ⟨0,Heap.get?_push_size _ rfl⟩ (r.kp (.of kk)) hl)
theorem ZoH(G:Gr base mg mb Gd){xs:X}(h:SL prog w Gd Γ nm fn n xs):SE prog w Gd Γ nm fn n (.tuple xs):=by
 intro sc cp e env σ A P s E Q d hm x L o hP hv k
 refine Zac (show(evL Γ σ xs).bind _=_ from hv) λds hds hv=>?_
 revert k
 refine ifS hv λhl hv=>eqs hv λk=>Zjp (show Zru _ e=true from hm) λes kk p hm=>Zbg hm λm1 m2=>?_
 refine wpAny_Tuple (h sc cp _ env σ A P s _ E _ ds m2 m1 x L o hP hds λvs s₁ g₁ o₁ r=>⟨by erw[rwl (r.length ..) ?_];exact hl,?_⟩)
 have kk:∀b ob,s₁.heap.get? b=some ob->(s₁.heap.push { cls:=.type "tuple",data:=.seq vs.toArray }).get? b=some ob:=λ_ _ e=>Heap.get?_push_of_some _ e
 exact k _ _ (g₁.trans (.of_keep (tk:=s₁.toks) kk)) ⟨G.keeps o₁.gd kk,o₁.tk⟩ (.tuple ((hP.kp g₁.kp).fresh (Zau _)) ⟨0,Heap.get?_push_size _ rfl⟩ (r.kp (.of kk)) hl)
theorem Zgx(a b:List Nat):(⟨a.toArray⟩:Str)++(⟨b.toArray⟩:Str)=⟨(a++b).toArray⟩:=congrArg Str.mk (List.append_toArray ..)
theorem Zpo{a b:List Nat}{y:X}(hy:SE prog w Gd Γ nm fn n y):SE prog w Gd Γ nm fn n (.fstr a y b):=by
 intro sc cp e env σ A P s E Q d hm x L o hP hv k
 refine Zac (show(ev Γ σ y).bind _=_ from hv) λd1 h1 hv=>?_
 revert h1 k
 refine ZbG hv λl hv=>ZpI hv λhl k h1=>?_
 refine ZuJ (show qJs _ e=true from hm) λvs pos hm=>ZuR hm λp q0 q hm=>Zd3 hm λm1 m2 hm=>Zsp hm λey cv sp pp hm=>Zd3 hm λn1 n2 m3=>eqb n1 ?_
 rw[Option.isNone_iff_eq_none.mp n2]
 have lb:(a++l).length<=(a++l++b).length:=List.length_append (as:=a++l)▸Nat.le_add_right _ _
 have la:a.length<=(a++l++b).length:=Nat.le_trans (List.length_append (as:=a)▸Nat.le_add_right _ _) lb
 have e0:(Str.empty++(⟨a.toArray⟩:Str))=⟨a.toArray⟩:=Zgx [] a
 refine wrap o.tk (wpAny_JoinedStr (Zbo m1 ⟨_,_,rfl,by rw[e0,str_len];exact Nat.le_trans la hl,?_⟩))
 have o1:Ok Gd ({ s with toks:=s.toks+1 }:Shared):=⟨o.gd,Nat.le_succ_of_le o.tk⟩
 refine wpAny_FormattedValue_plain (hy sc cp ey env σ A P _ E _ _ m3 x L o1 hP h1 λv s₁ g₁ o₁ r=>r.weak.Zba λt hl1=>?_)
 have fin:∀t' s₂,Gw s₁ s₂->Ok Gd s₂->∃y t,Value.str ⟨l.toArray⟩ t'=.str y t∧(Str.empty++(⟨a.toArray⟩:Str)++y).length<=sizeLine∧
   Joins (model prog w) A E [eval q env] (Str.empty++(⟨a.toArray⟩:Str)++y) (λout s₁=>out.length<=sizeLine∧(1<=({ s₁ with toks:=s₁.toks+1 }:Shared).toks->Q (.str out s₁.toks) { s₁ with toks:=s₁.toks+1 })) s₂:=by
  intro t' s₂ g₂ o₂
  refine⟨_,_,rfl,?_,Zbo m2 ⟨_,_,rfl,?_⟩⟩
  ·rw[e0,Zgx,str_len];exact Nat.le_trans lb hl
  ·rw[e0,Zgx,Zgx,str_len]
   exact⟨hl,hl,λhtk=>k _ _ (((Gw.tok s _).trans g₁).trans (g₂.trans (Gw.tok _ _))) ⟨o₂.gd,htk⟩ (show Rd P s₂.heap _ _ from .str _ _ hl)⟩
 exact wpAny_formatField_str (fin _ s₁ (.refl _) o₁) (fin _ _ (Gw.tok _ _) ⟨o₁.gd,Nat.le_succ_of_le o₁.tk⟩) (by rw[str_len];exact hl1)
end
end
section
theorem Zes(a b:Int):Builtin.Range.rangeSize a b 1=(((b - a).toNat:Nat):Int):=by
 erw[rwl (rangeSize_one ..) ?_];split<;>lia
theorem ZhS(a b:Int):Zce a b 1=(List.range (b - a).toNat).map λ(k:Nat)=>D.int (a+(k:Int) * 1):=by
 unfold Zce
 rw[if_pos (by decide)]
 congr 3
 lia
theorem ZiA(a b:Int):Zce a b (-1)=(List.range (a - b).toNat).map λ(k:Nat)=>D.int (a+(k:Int) * (-1)):=by
 unfold Zce
 rw[if_neg (by decide),show(- -1:Int)=1 from by decide,Int.ediv_one]
 congr 3
 lia
theorem ZdM{i:Int}(h:Zcx i=true) : -1000000<=i∧i<=1000000:=of_decide_eq_true h
section
variable {prog:Program}{w:World}{base:Addr->Prop}{mg mb:Str->Option Value}{Gd:Heap->Prop}{Γ:ZaC}{nm:List Str}{fn:Nat->Str}{fa:Nat->Addr}{n:Nat}
noncomputable def Src(prog:Program)(w:World)(base:Addr->Prop)(Gd:Heap->Prop)(A:Around)(P:Addr->Prop)(fz:Bool)(e:Expr)(env:Env)(ds:List D)(s:Shared):Prop:=
 ∀(E:Value->Shared->Prop) (Q':Value->Shared->Prop),(∀I s₁,Gw s s₁->Ok Gd s₁->It (λa=>P a∧a≠I) (λb=>b≠I∧(∃ob,s₁.heap.get? b=some ob)∧(fz=true->P b)) s₁.heap I ds->s.heap.get? I=none->¬base I->Q' (.ref I) s₁)->
  wpAny (model prog w) A (eval e env) (λxv s₁=>wpAny (model prog w) A (pyIter xv) Q' E s₁) E s
theorem Zfq{A:Around}{P:Addr->Prop}{fz:Bool}{s s₁:Shared}{E:Value->Shared->Prop}{Q':Value->Shared->Prop}{v:Value}{ds:List D}(G:Gr base mg mb Gd)(g:Gw s s₁)(o:Ok Gd s₁)(r:RdX fz P s₁.heap v (.list ds))
  (k:∀I s₁,Gw s s₁->Ok Gd s₁->It (λa=>P a∧a≠I) (λb=>b≠I∧(∃ob,s₁.heap.get? b=some ob)∧(fz=true->P b)) s₁.heap I ds->s.heap.get? I=none->¬base I->Q' (.ref I) s₁) :
  wpAny (model prog w) A (pyIter v) Q' E s₁:=by
 obtain⟨l,vs,rfl,hl,rv,hz⟩:=r.weak.Zbq
 have hPl:fz=true->P l:=λhf=>by
  subst hf
  obtain⟨l',vs',e,p,_⟩:=(show Rd P s₁.heap (.ref l) (.list ds) from r).Zbq
  cases e;exact p
 refine wpAny_pyIter_list hl.isList ?_
 have hne:l≠s₁.heap.objs.size:=Nat.ne_of_lt (Heap.lt_size hl.choose_spec)
 have hI:=Zau s₁.heap
 generalize hIe:s₁.heap.objs.size=I at *
 have kk:∀b ob,s₁.heap.get? b=some ob->(s₁.heap.push { cls:=.type "list_iterator",data:=.fields #[.ref l,.int 0 0] }).get? b=some ob:=λ_ _ e=>Heap.get?_push_of_some _ e
 refine k I _ (g.trans (.of_keep (tk:=s₁.toks) kk)) ⟨G.keeps o.gd kk,o.tk⟩ (.list (vs:=vs) (i:=0) ⟨_,hIe▸Heap.get?_push_size _ rfl,rfl,rfl⟩ (Zbp hl (.of kk)) hne ⟨hne,⟨_,kk _ _ hl.choose_spec⟩,hPl⟩ ?_) (g.none hI) (G.fresh o.gd hI)
 erw[rwl (List.drop_zero ..) ?_]
 exact rv.mono λa ob _ e p=>⟨⟨p,λq=>by rw[q,hI] at e;cases e⟩,kk _ _ e⟩
theorem Zej{A:Around}{P:Addr->Prop}{fz:Bool}{s s₁:Shared}{E:Value->Shared->Prop}{Q':Value->Shared->Prop}{r:Addr}{a b c:Int}{t u v:Tok}{m:Nat}(G:Gr base mg mb Gd)(g:Gw s s₁)(o:Ok Gd s₁)(hr:IsRange s₁.heap r a b c t u v)(hs:Builtin.Range.small a b c=true)
  (hm:Builtin.Range.rangeSize a b c=(m:Int))
  (k:∀I s₁,Gw s s₁->Ok Gd s₁->It (λa=>P a∧a≠I) (λb=>b≠I∧(∃ob,s₁.heap.get? b=some ob)∧(fz=true->P b)) s₁.heap I ((List.range m).map λ(k:Nat)=>D.int (a+(k:Int) * c))->s.heap.get? I=none->¬base I->Q' (.ref I) s₁) :
  wpAny (model prog w) A (pyIter (.ref r)) Q' E s₁:=by
 refine wpAny_pyIter_range hr hs ?_
 have hI:=Zau s₁.heap
 erw[rwl (hm ..) ?_]
 generalize hIe:s₁.heap.objs.size=I at *
 have kk:∀b ob,s₁.heap.get? b=some ob->(s₁.heap.push { cls:=.type "range_iterator",data:=.fields #[rawInt a,rawInt m,rawInt c] }).get? b=some ob:=λ_ _ e=>Heap.get?_push_of_some _ e
 exact k I _ (g.trans (.of_keep (tk:=s₁.toks) kk)) ⟨G.keeps o.gd kk,o.tk⟩ (.range (hIe▸Heap.get?_push_size _ rfl)) (g.none hI) (G.fresh o.gd hI)
theorem Zfb:((("range" : Str),Value.type "range")∈([("len",.builtin "len"),("chr",.builtin "chr"),("sum",.builtin "sum"),("list",.type "list"),("range",.type "range"),("iter",.builtin "iter"),("object",.type "object"),("str",.type "str"),("isinstance",.builtin "isinstance")]:List (Str×Value))):=
 .tail _ (.tail _ (.tail _ (.tail _ (.head _))))
noncomputable def SI(prog:Program)(w:World)(base:Addr->Prop)(Gd:Heap->Prop)(Γ:ZaC)(nm:List Str)(fn:Nat->Str)(n:Nat)(it:X):Prop:=
 ∀(sc:Scope) (cp:Bool) (e:Expr) (env:Env) (σ:Sg) (A:Around) (P:Addr->Prop) (s:Shared) (ds:List D),
  mtI nm fn sc cp it e=true->ZaO env sc nm P σ s.heap->Lv A n->Ok Gd s->Pf P s.heap->(ev Γ σ it).bind itemsOf=some ds->ds.length<=sizeLine∧Src prog w base Gd A P it.fz e env ds s
theorem ZbC{d:D}{ds:List D}(h:itemsOf d=some ds):d=.list ds∧ds.length<=sizeLine:=by
 cases d with
 | list l=>exact ifS h λx e=>⟨congrArg D.list (Option.some.inj e),Option.some.inj e▸x⟩
 | _=>exact nn h
@[elab_as_elim] theorem Zlr{d:D}{ds:List D}{G:D->Prop}(h:itemsOf d=some ds)(k:ds.length<=sizeLine->G (.list ds)):G d:=(ZbC h).1▸k (ZbC h).2
@[elab_as_elim] theorem Zen{d:D}{i:Int}{G:D->Prop}(h:intOf d=some i)(k:G (.int i)):G d:=by
 cases d with
 | int j=>exact Option.some.inj (show some j=some i from h)▸k
 | _=>exact nn h
theorem ZoB(G:Gr base mg mb Gd){it:X}(hi:SE prog w Gd Γ nm fn n it){sc:Scope}{cp:Bool}{e:Expr}{env:Env}{σ:Sg}{A:Around}{P:Addr->Prop}{s:Shared}{ds:List D}
  (hm:mt nm fn sc cp it e=true) (x:ZaO env sc nm P σ s.heap) (L:Lv A n) (o:Ok Gd s) (hP:Pf P s.heap) (hv:(ev Γ σ it).bind itemsOf=some ds):ds.length<=sizeLine∧Src prog w base Gd A P it.fz e env ds s:=by
 refine Zac hv λd hd hds=>?_
 revert hd
 refine Zlr hds λhl hd=>⟨hl,λE Q' k=>?_⟩
 exact hi sc cp e env σ A P s E _ _ hm x L o hP hd λv s₁ g₁ o₁ r=>Zfq G g₁ o₁ r k
theorem Zfn{a c:Int}{m:Nat}(h:m<=2000000):((List.range m).map λ(k:Nat)=>D.int (a+(k:Int) * c)).length<=sizeLine:=by
 erw[rwl (List.length_map ..) (rwl (List.length_range ..) (rwl (szv ..) ?_))];lia
theorem ZjC{a b:Int}(ha:Zcx a=true)(hb:Zcx b=true):Builtin.Range.small a b 1=true∧(b - a).toNat<=2000000:=by
 have h1:=ZdM ha
 have h2:=ZdM hb
 exact⟨small_one (by lia) (by lia) (by lia) (by lia),by lia⟩
theorem Zkq(G:Gr base mg mb Gd){a:X}(ha:SE prog w Gd Γ nm fn n a):SI prog w base Gd Γ nm fn n (.range1 a):=by
 intro sc cp e env σ A P s ds hm x L o hP hv
 refine Zac hv λd hd hds=>Zac (show(ev Γ σ a).bind _=_ from hd) λda h1 hd=>Zac hd λia h2 hd=>ifS hd λhs hd=>?_
 revert h1
 refine Zen h2 λh1=>?_
 have ei:=(ZbC hds).1
 rw[←Option.some.inj hd,ZhS] at ei
 erw[rwr (D.list.inj ei ..) ?_]
 have sm:=ZjC (a:=0) rfl hs
 refine⟨Zfn sm.2,λE Q' k=>?_⟩
 refine or2 hm (λhm=>ZmH (show qFn _ _ _ e=true from hm) λp as pos m2 hm=>ZfO hm λea hm=>Zbg hm λm3 m4=>?_) λh=>nf h
 refine wpAny_Call_NameR (ZcL G o.gd x m2 Zfb (by decide) ?_)
 erw[rwl (Zab m3 ..) (rwl (Zah ..) (rwl (Zam ..) (rwl (Zay ..) ?_)))]
 refine PySem.callWith_type rfl (Calls.evalArgs_plain (Calls.spliced_cons (ha sc cp ea env σ A P s E _ _ m4 x L o hP h1 λv s₁ g₁ o₁ r=>Calls.spliced_nil (r.weak.Za0 λt=>?_))))
 have kk:∀b ob,s₁.heap.get? b=some ob->(s₁.heap.push { cls:=.type "range",data:=.fields #[.int 0 s₁.toks,.int ia t,.int 1 (s₁.toks+1)] }).get? b=some ob:=λ_ _ e=>Heap.get?_push_of_some _ e
 exact call_range_1 (Zej (m:=(ia - 0).toNat) G (g₁.trans (.of_keep kk)) ⟨G.keeps o₁.gd kk,Nat.le_succ_of_le (Nat.le_succ_of_le o₁.tk)⟩ (IsRange.new _ _ _ _ _ _ _) sm.1 (Zes _ _) k)
theorem Zj4(G:Gr base mg mb Gd){a b:X}(ha:SE prog w Gd Γ nm fn n a)(hb:SE prog w Gd Γ nm fn n b):SI prog w base Gd Γ nm fn n (.range2 a b):=by
 intro sc cp e env σ A P s ds hm x L o hP hv
 refine Zac hv λd hd hds=>Zac (show(ev Γ σ a).bind _=_ from hd) λda h1 hd=>Zac hd λdb h2 hd=>Zac hd λia h3 hd=>Zac hd λib h4 hd=>ifS hd λhs hd=>?_
 revert h1 h2
 refine Zen h3 (Zen h4 λh1 h2=>?_)
 have ei:=(ZbC hds).1
 rw[←Option.some.inj hd,ZhS] at ei
 erw[rwr (D.list.inj ei ..) ?_]
 have sm:=Zbg hs ZjC
 refine⟨Zfn sm.2,λE Q' k=>?_⟩
 refine or2 hm (λhm=>ZmH (show qFn _ _ _ e=true from hm) λp as pos m2 hm=>ZkK hm λea eb hm=>ZjH hm λm3 m4 m5 m6=>?_) λh=>nf h
 refine wpAny_Call_NameR (ZcL G o.gd x m2 Zfb (by decide) ?_)
 erw[rwl (Zab m3 ..) (rwl (Zab m4 ..) (rwl (Zah ..) (rwl (Zah ..) (rwl (Zam ..) (rwl (Zay ..) ?_)))))]
 refine PySem.callWith_type rfl (Calls.evalArgs_plain (Calls.spliced_cons (ha sc cp ea env σ A P s E _ _ m5 x L o hP h1 λv s₁ g₁ o₁ r=>Calls.spliced_cons ?_)))
 refine hb sc cp eb env σ A P s₁ E _ _ m6 (x.kp g₁.kp) L o₁ (hP.kp g₁.kp) h2 λv2 s₂ g₂ o₂ r2=>Calls.spliced_nil (r.weak.Za0 λt=>r2.weak.Za0 λu=>?_)
 have kk:∀b ob,s₂.heap.get? b=some ob->(s₂.heap.push { cls:=.type "range",data:=.fields #[.int ia t,.int ib u,.int 1 s₂.toks] }).get? b=some ob:=λ_ _ e=>Heap.get?_push_of_some _ e
 exact call_range_2 (Zej (m:=(ib - ia).toNat) G ((g₁.trans g₂).trans (.of_keep kk)) ⟨G.keeps o₂.gd kk,Nat.le_succ_of_le o₂.tk⟩ (IsRange.new _ _ _ _ _ _ _) sm.1 (Zes _ _) k)
theorem Zov{a b:Int}(ha:Zcx a=true)(hb:Zcx b=true):Builtin.Range.small a b (-1)=true∧(a - b).toNat<=2000000:=by
 have h1:=ZdM ha
 have h2:=ZdM hb
 exact⟨small_down (by lia) (by lia) (by lia) (by lia),by lia⟩
theorem ZkA(G:Gr base mg mb Gd){a b c:X}(ha:SE prog w Gd Γ nm fn n a)(hb:SE prog w Gd Γ nm fn n b)(hc:SE prog w Gd Γ nm fn n c):SI prog w base Gd Γ nm fn n (.range3 a b c):=by
 intro sc cp e env σ A P s ds hm x L o hP hv
 refine Zac hv λd hd hds=>Zac (show(ev Γ σ a).bind _=_ from hd) λda h1 hd=>Zac hd λdb h2 hd=>Zac hd λdc h2c hd=>Zac hd λia h3 hd=>Zac hd λib h4 hd=>Zac hd λic h5 hd=>ifS hd λhs hd=>?_
 refine Zd3 hs λs1 s2 s3=>?_
 rw[eq_of_beq s3] at hd h5
 revert h1 h2 h2c
 refine Zen h3 (Zen h4 (Zen h5 λh1 h2 h2c=>?_))
 have ei:=(ZbC hds).1
 rw[←Option.some.inj hd,ZiA] at ei
 erw[rwr (D.list.inj ei ..) ?_]
 have sm:=Zov s1 s2
 refine⟨Zfn sm.2,λE Q' k=>?_⟩
 refine or2 hm (λhm=>ZmH (show qFn _ _ _ e=true from hm) λp as pos m2 hm=>ZuR hm λea eb ec hm=>Zup hm λm3 m4 m5 m6 m7 m8=>?_) λh=>nf h
 refine wpAny_Call_NameR (ZcL G o.gd x m2 Zfb (by decide) ?_)
 erw[rwl (Zab m3 ..) (rwl (Zab m4 ..) (rwl (Zab m5 ..) (rwl (Zah ..) (rwl (Zah ..) (rwl (Zah ..) (rwl (Zam ..) (rwl (Zay ..) ?_)))))))]
 refine PySem.callWith_type rfl (Calls.evalArgs_plain (Calls.spliced_cons (ha sc cp ea env σ A P s E _ _ m6 x L o hP h1 λv s₁ g₁ o₁ r=>Calls.spliced_cons ?_)))
 refine hb sc cp eb env σ A P s₁ E _ _ m7 (x.kp g₁.kp) L o₁ (hP.kp g₁.kp) h2 λv2 s₂ g₂ o₂ r2=>Calls.spliced_cons ?_
 have g:=g₁.trans g₂
 refine hc sc cp ec env σ A P s₂ E _ _ m8 (x.kp g.kp) L o₂ (hP.kp g.kp) h2c λv3 s₃ g₃ o₃ r3=>Calls.spliced_nil (r.weak.Za0 λt=>r2.weak.Za0 λu=>r3.weak.Za0 λu3=>?_)
 have kk:∀b ob,s₃.heap.get? b=some ob->(s₃.heap.push { cls:=.type "range",data:=.fields #[.int ia t,.int ib u,.int (-1) u3] }).get? b=some ob:=λ_ _ e=>Heap.get?_push_of_some _ e
 exact call_range_3 (by decide) (Zej (m:=(ia - ib).toNat) G ((g.trans g₃).trans (.of_keep kk)) ⟨G.keeps o₃.gd kk,o₃.tk⟩ (IsRange.new _ _ _ _ _ _ _) sm.1 (rangeSize_downNat _ _) k) (.inl (PyProof.noPylong_small (by decide)))
theorem Zf5{e c:X}(he:SE prog w Gd Γ nm fn n e)(hc:ST prog w Gd Γ nm fn n c)(hf:e.fz=true){sc':Scope}{elt:Expr}{ifs:List Expr}{A:Around}(L:Lv A n)(hm:mt nm fn sc' false e elt=true)
  (hi:(if c.Za8 then ifs.isEmpty else b1 (λi=>mtT nm fn sc' false c i) ifs)=true) {σ':D->Sg} :
  ∀d r cenv s₁ (P₁:Addr->Prop) E' Qs,((if c.Za8 then some true else tv Γ (σ' d) c).bind λb=>if b then(ev Γ (σ' d) e).map some else some none)=some r->ZaO cenv sc' nm P₁ (σ' d) s₁.heap->Ok Gd s₁->Pf P₁ s₁.heap->
   (r=none->∀s₂,Gw s₁ s₂->Ok Gd s₂->Qs none s₂)->(∀z,r=some z->∀vz s₂,Gw s₁ s₂->Ok Gd s₂->Rd P₁ s₂.heap vz z->Qs (some vz) s₂)->turnT (model prog w) A ifs elt cenv Qs E' s₁:=by
 intro d r cenv s₁ P₁ E' Qs hv x o hP hn hs
 refine Zac hv λb hb hv=>?_
 have elt_ok:((ev Γ (σ' d) e).map some=some r)->∀s₂,Gw s₁ s₂->Ok Gd s₂->wpAny (model prog w) A (eval elt cenv) (λy s₄=>Qs (some y) s₄) E' s₂:=λhv s₂ g₂ o₂=>Zdy hv λz hz e=>
  he sc' false elt cenv _ A P₁ s₂ E' _ z hm (x.kp g₂.kp) L o₂ (hP.kp g₂.kp) hz λv s' g' o' r'=>hs z e.symm v s' (g₂.trans g') o' (r'.str hf)
 unfold turnT
 cases hc1:c.Za8 with
 | true=>
  rw[hc1] at hb hi
  rw[←Option.some.inj (show some true=some b from hb)] at hv
  refine ZcB (show ifs.isEmpty=true from hi) ?_
  erw[rwl (List.forIn_nil ..) ?_]
  exact wpAny_pure (elt_ok hv s₁ (.refl _) o)
 | false=>
  rw[hc1] at hb hi
  refine ZfO (show b1 _ ifs=true from hi) λi hi=>?_
  erw[rwl (List.forIn_cons ..) ?_]
  refine wpAny_bind (wpAny_bind (hc sc' false i cenv _ A P₁ s₁ E' _ b hi x L o hP hb λs₂ g₂ o₂=>wpAny_pure ?_))
  show wpAny (model prog w) A (forIn [] b _) _ E' s₂
  erw[rwl (List.forIn_nil ..) ?_]
  refine wpAny_pure ?_
  cases b with
  | true=>exact elt_ok hv s₂ g₂ o₂
  | false=>exact hn (Option.some.inj (show some none=some r from hv)).symm s₂ g₂ o₂
theorem Zp7(G:Gr base mg mb Gd){fr:List Nat}{t:Nat}{e it c:X}(he:SE prog w Gd Γ nm fn n e)(hi:SI prog w base Gd Γ nm fn n it)(hc:ST prog w Gd Γ nm fn n c):SE prog w Gd Γ nm fn n (.comp fr t e it c):=by
 intro sc cp ex env σ A P s E Q d hm x L o hP hv k
 refine Zac (show((ev Γ σ it).bind itemsOf).bind _=_ from hv) λds hds hv=>Zac hv λys hys hv=>?_
 revert k
 refine ZkN hv λhl k=>Zbg (show(cp&&Zkg _ ex)=true from hm) λm1 hm=>Zgu hm λelt gens scope pos hm=>ZfO hm λg hm=>?_
 obtain⟨tg,iter,ifs,asy⟩:=g
 refine ZuQ hm λm0 m2 m3 m4 m5 m6 m7 m8 m9=>eqb (show(asy==0)=true from m0) (Zby (show Zcs _ tg=true from m3) λy py m3=>Zbg m3 λn1 n2=>?_)
 obtain⟨hlen,src⟩:=hi sc false iter env σ A P s ds m7 x L o hP hds
 exact Zkj G L.hd (f:=λd=>(if c.Za8 then some true else tv Γ ((mask fr σ).set t (.fz d)) c).bind λb=>if b then(ev Γ ((mask fr σ).set t (.fz d)) e).map some else some none) x o hP m2 (eq_of_beq n1) (eq_of_beq n2) (ZfN m4) (ZdV m6) hlen
  (λQ' kk=>src E Q' λI s₁ g₁ o₁ hit hI hb=>kk I s₁ _ g₁ o₁ hit hI hb λb hb=>hb.2.1)
  (Zf5 (σ':=λd=>(mask fr σ).set t (.fz d)) he hc m5 L m8 m9) hys k
theorem Zbf{y:X}(h:∀sc cp e,mt nm fn sc cp y e=false):SE prog w Gd Γ nm fn n y:=by
 intro sc cp e env σ A P s E Q d hm x L o hP hv k
 exact nf ((h _ _ _).symm.trans hm)
theorem ZeL{y:X}(h:∀sc cp e,mtT nm fn sc cp y e=false):ST prog w Gd Γ nm fn n y:=by
 intro sc cp e env σ A P s E Q d hm x L o hP hv k
 exact nf ((h _ _ _).symm.trans hm)
theorem Zgy{y:X}(h:∀sc cp e,mtL nm fn sc cp y e=false):SL prog w Gd Γ nm fn n y:=by
 intro sc cp e env σ A P s pos E Q d hm hf x L o hP hv k
 exact nf ((h _ _ _).symm.trans hm)
theorem ZgM{op:BoolOp}{y:X}(h:∀sc cp e,mtL nm fn sc cp y e=false):SB prog w Gd Γ nm fn n op y:=by
 intro sc cp e env σ A P s pos E Q d hm hf x L o hP hv k
 exact nf ((h _ _ _).symm.trans hm)
theorem Zfe{op:BoolOp}{y:X}(h:∀sc cp e,ZoZ nm fn sc cp y e=false):SBT prog w Gd Γ nm fn n op y:=by
 intro sc cp e env σ A P s E Q d hm x L o hP hv k
 exact nf ((h _ _ _).symm.trans hm)
noncomputable abbrev All(prog:Program)(w:World)(base:Addr->Prop)(Gd:Heap->Prop)(Γ:ZaC)(nm:List Str)(fn:Nat->Str)(n:Nat)(x:X):Prop:=(SE prog w Gd Γ nm fn n x)∧(SL prog w Gd Γ nm fn n x)∧(ST prog w Gd Γ nm fn n x)∧(∀op,SB prog w Gd Γ nm fn n op x)∧(∀op,SBT prog w Gd Γ nm fn n op x)∧(SI prog w base Gd Γ nm fn n x)
theorem All.e{prog:Program}{w:World}{base:Addr->Prop}{Gd:Heap->Prop}{Γ:ZaC}{nm:List Str}{fn:Nat->Str}{n:Nat}{x:X}(slf:All prog w base Gd Γ nm fn n x):SE prog w Gd Γ nm fn n x:=slf.1
theorem All.l{prog:Program}{w:World}{base:Addr->Prop}{Gd:Heap->Prop}{Γ:ZaC}{nm:List Str}{fn:Nat->Str}{n:Nat}{x:X}(slf:All prog w base Gd Γ nm fn n x):SL prog w Gd Γ nm fn n x:=slf.2.1
theorem All.t{prog:Program}{w:World}{base:Addr->Prop}{Gd:Heap->Prop}{Γ:ZaC}{nm:List Str}{fn:Nat->Str}{n:Nat}{x:X}(slf:All prog w base Gd Γ nm fn n x):ST prog w Gd Γ nm fn n x:=slf.2.2.1
theorem All.b{prog:Program}{w:World}{base:Addr->Prop}{Gd:Heap->Prop}{Γ:ZaC}{nm:List Str}{fn:Nat->Str}{n:Nat}{x:X}(slf:All prog w base Gd Γ nm fn n x):∀op,SB prog w Gd Γ nm fn n op x:=slf.2.2.2.1
theorem All.bt{prog:Program}{w:World}{base:Addr->Prop}{Gd:Heap->Prop}{Γ:ZaC}{nm:List Str}{fn:Nat->Str}{n:Nat}{x:X}(slf:All prog w base Gd Γ nm fn n x):∀op,SBT prog w Gd Γ nm fn n op x:=slf.2.2.2.2.1
theorem All.i{prog:Program}{w:World}{base:Addr->Prop}{Gd:Heap->Prop}{Γ:ZaC}{nm:List Str}{fn:Nat->Str}{n:Nat}{x:X}(slf:All prog w base Gd Γ nm fn n x):SI prog w base Gd Γ nm fn n x:=slf.2.2.2.2.2
theorem Znx(G:Gr base mg mb Gd){x:X}(h:SE prog w Gd Γ nm fn n x)(hr:∀sc cp e,mtR nm fn sc cp x e=false):SI prog w base Gd Γ nm fn n x:=λ_ _ _ _ _ _ _ _ _ hm xx L o hP hv=>
 or2 hm (λq=>nf ((hr _ _ _).symm.trans q)) λhm=>ZoB G h hm xx L o hP hv
theorem All.of(G:Gr base mg mb Gd){x:X}(e:SE prog w Gd Γ nm fn n x)(l:∀sc cp e,mtL nm fn sc cp x e=false)(t:∀sc cp e,mtT nm fn sc cp x e=false)(tl:∀sc cp e,ZoZ nm fn sc cp x e=false)(r:∀sc cp e,mtR nm fn sc cp x e=false):All prog w base Gd Γ nm fn n x:=
 ⟨e,Zgy l,ZeL t,λ_=>ZgM l,λ_=>Zfe tl,Znx G e r⟩
theorem All.oft(G:Gr base mg mb Gd){x:X}(t:ST prog w Gd Γ nm fn n x)(e:∀sc cp e,mt nm fn sc cp x e=false)(l:∀sc cp e,mtL nm fn sc cp x e=false)(tl:∀sc cp e,ZoZ nm fn sc cp x e=false)(r:∀sc cp e,mtR nm fn sc cp x e=false):All prog w base Gd Γ nm fn n x:=
 ⟨Zbf e,Zgy l,t,λ_=>ZgM l,λ_=>Zfe tl,Znx G (Zbf e) r⟩
theorem All.ofr{x:X}(i:SI prog w base Gd Γ nm fn n x)(e:∀sc cp e,mt nm fn sc cp x e=false)(l:∀sc cp e,mtL nm fn sc cp x e=false)(t:∀sc cp e,mtT nm fn sc cp x e=false)(tl:∀sc cp e,ZoZ nm fn sc cp x e=false):All prog w base Gd Γ nm fn n x:=
 ⟨Zbf e,Zgy l,ZeL t,λ_=>ZgM l,λ_=>Zfe tl,i⟩
theorem ZaI(G:Gr base mg mb Gd)(C:Zak prog w Gd mg Γ fn fa n)(x:X):All prog w base Gd Γ nm fn n x:=by
 induction x with
 | const d=>exact .of G (ZjV G d) (λ_ _ _=>rfl) (λ_ _ _=>rfl) (λ_ _ _=>rfl) (λ_ _ _=>rfl)
 | var i=>exact .of G (ZrN i) (λ_ _ _=>rfl) (λ_ _ _=>rfl) (λ_ _ _=>rfl) (λ_ _ _=>rfl)
 | tvar i=>exact .of G (Zqn i) (λ_ _ _=>rfl) (λ_ _ _=>rfl) (λ_ _ _=>rfl) (λ_ _ _=>rfl)
 | bin op l r hl hr=>exact .of G (Zsq G hl.e hr.e) (λ_ _ _=>rfl) (λ_ _ _=>rfl) (λ_ _ _=>rfl) (λ_ _ _=>rfl)
 | cmp op l r hl hr=>exact .of G (Zso hl.e hr.e) (λ_ _ _=>rfl) (λ_ _ _=>rfl) (λ_ _ _=>rfl) (λ_ _ _=>rfl)
 | cmp2 o1 o2 a b c ha hb hc=>exact .of G (ZpX ha.e hb.e hc.e) (λ_ _ _=>rfl) (λ_ _ _=>rfl) (λ_ _ _=>rfl) (λ_ _ _=>rfl)
 | band xs h=>exact .of G (Zqj (h.b _)) (λ_ _ _=>rfl) (λ_ _ _=>rfl) (λ_ _ _=>rfl) (λ_ _ _=>rfl)
 | bor xs h=>exact .of G (Zr2 (h.b _)) (λ_ _ _=>rfl) (λ_ _ _=>rfl) (λ_ _ _=>rfl) (λ_ _ _=>rfl)
 | not y h=>exact .of G (Zs8 h.e) (λ_ _ _=>rfl) (λ_ _ _=>rfl) (λ_ _ _=>rfl) (λ_ _ _=>rfl)
 | ite t a b ht ha hb=>exact .of G (ZsY ht.t ha.e hb.e) (λ_ _ _=>rfl) (λ_ _ _=>rfl) (λ_ _ _=>rfl) (λ_ _ _=>rfl)
 | bfn f y h=>exact .of G (ZsC G h.e) (λ_ _ _=>rfl) (λ_ _ _=>rfl) (λ_ _ _=>rfl) (λ_ _ _=>rfl)
 | range1 a ha=>exact .ofr (Zkq G ha.e) (λ_ _ _=>rfl) (λ_ _ _=>rfl) (λ_ _ _=>rfl) (λ_ _ _=>rfl)
 | range2 a b ha hb=>exact .ofr (Zj4 G ha.e hb.e) (λ_ _ _=>rfl) (λ_ _ _=>rfl) (λ_ _ _=>rfl) (λ_ _ _=>rfl)
 | range3 a b c ha hb hc=>exact .ofr (ZkA G ha.e hb.e hc.e) (λ_ _ _=>rfl) (λ_ _ _=>rfl) (λ_ _ _=>rfl) (λ_ _ _=>rfl)
 | call f xs h=>exact .of G (ZqP G C h.l) (λ_ _ _=>rfl) (λ_ _ _=>rfl) (λ_ _ _=>rfl) (λ_ _ _=>rfl)
 | nil=>exact⟨Zbf λ_ _ _=>rfl,Ztn,ZeL λ_ _ _=>rfl,λ_=>ZsE,λ_=>ZpG,Znx G (Zbf λ_ _ _=>rfl) λ_ _ _=>rfl⟩
 | cons y ys hy hys=>exact⟨Zbf λ_ _ _=>rfl,ZqJ hy.e hys.l,ZeL λ_ _ _=>rfl,λop=>Zq2 hy.e (hys.b op),λop=>Zn0 hy.t (hys.bt op),Znx G (Zbf λ_ _ _=>rfl) λ_ _ _=>rfl⟩
 | find2 b y a hb hy ha=>exact .of G (Zm7 hb.e hy.e ha.e) (λ_ _ _=>rfl) (λ_ _ _=>rfl) (λ_ _ _=>rfl) (λ_ _ _=>rfl)
 | find3 b y a z hb hy ha hz=>exact .of G (ZoF hb.e hy.e ha.e hz.e) (λ_ _ _=>rfl) (λ_ _ _=>rfl) (λ_ _ _=>rfl) (λ_ _ _=>rfl)
 | repl b c z zs hb=>exact .of G (Zqw hb.e) (λ_ _ _=>rfl) (λ_ _ _=>rfl) (λ_ _ _=>rfl) (λ_ _ _=>rfl)
 | join b y hb hy=>exact .of G (Zrh hb.e hy.e) (λ_ _ _=>rfl) (λ_ _ _=>rfl) (λ_ _ _=>rfl) (λ_ _ _=>rfl)
 | joing=>exact .of G (Zbf λ_ _ _=>rfl) (λ_ _ _=>rfl) (λ_ _ _=>rfl) (λ_ _ _=>rfl) (λ_ _ _=>rfl)
 | transl=>exact .of G (Zbf λ_ _ _=>rfl) (λ_ _ _=>rfl) (λ_ _ _=>rfl) (λ_ _ _=>rfl) (λ_ _ _=>rfl)
 | resub=>exact .of G (Zbf λ_ _ _=>rfl) (λ_ _ _=>rfl) (λ_ _ _=>rfl) (λ_ _ _=>rfl) (λ_ _ _=>rfl)
 | idx a b ha hb=>exact .of G (Zsu ha.e hb.e) (λ_ _ _=>rfl) (λ_ _ _=>rfl) (λ_ _ _=>rfl) (λ_ _ _=>rfl)
 | slc a lo hi ha hlo hhi=>exact .of G (Zs4 G ha.e hlo.e hhi.e) (λ_ _ _=>rfl) (λ_ _ _=>rfl) (λ_ _ _=>rfl) (λ_ _ _=>rfl)
 | list xs h=>exact .of G (Zpt G h.l) (λ_ _ _=>rfl) (λ_ _ _=>rfl) (λ_ _ _=>rfl) (λ_ _ _=>rfl)
 | tuple xs h=>exact .of G (ZoH G h.l) (λ_ _ _=>rfl) (λ_ _ _=>rfl) (λ_ _ _=>rfl) (λ_ _ _=>rfl)
 | comp fr t e it c he hi hc=>exact .of G (Zp7 G he.e hi.i hc.t) (λ_ _ _=>rfl) (λ_ _ _=>rfl) (λ_ _ _=>rfl) (λ_ _ _=>rfl)
 | compu=>exact .of G (Zbf λ_ _ _=>rfl) (λ_ _ _=>rfl) (λ_ _ _=>rfl) (λ_ _ _=>rfl) (λ_ _ _=>rfl)
 | fstr a y b h=>exact .of G (Zpo h.e) (λ_ _ _=>rfl) (λ_ _ _=>rfl) (λ_ _ _=>rfl) (λ_ _ _=>rfl)
 | newobj=>exact .of G (Zbf λ_ _ _=>rfl) (λ_ _ _=>rfl) (λ_ _ _=>rfl) (λ_ _ _=>rfl) (λ_ _ _=>rfl)
 | tval y h=>exact .oft G (ZrE h.e) (λ_ _ _=>rfl) (λ_ _ _=>rfl) (λ_ _ _=>rfl) (λ_ _ _=>rfl)
 | tcmp op l r hl hr=>exact .oft G (Ztz hl.e hr.e) (λ_ _ _=>rfl) (λ_ _ _=>rfl) (λ_ _ _=>rfl) (λ_ _ _=>rfl)
 | tnot y h=>exact .oft G (ZrJ h.t) (λ_ _ _=>rfl) (λ_ _ _=>rfl) (λ_ _ _=>rfl) (λ_ _ _=>rfl)
 | tand xs h=>exact .oft G (Zsh (h.bt _)) (λ_ _ _=>rfl) (λ_ _ _=>rfl) (λ_ _ _=>rfl) (λ_ _ _=>rfl)
 | tor xs h=>exact .oft G (ZuV (h.bt _)) (λ_ _ _=>rfl) (λ_ _ _=>rfl) (λ_ _ _=>rfl) (λ_ _ _=>rfl)
end
end
section
set_option backward.match.sparseCases false
set_option genSizeOf false in
set_option genSizeOfSpec false in
set_option genInjectivity false in
set_option genCtorIdx false in
inductive S where
 | skip
 | seq (a b:S)
 | asg (i:Nat) (x:X)
 | asgC (i:Nat) (x:X)
 | asgJ (i:Nat) (sep:List Nat) (t:Nat) (e it:X) (gl gc:Nat)
 | asgR (i:Nat) (x:X) (gl gc:Nat)
 | asgO (i:Nat) (xs:X)
 | asgO2 (i:Nat)
 | bnd (j i:Nat)
 | unp (is:List Nat) (x:X)
 | unpS (is:List Nat) (xs:X)
 | aug (i:Nat) (op:Bop) (x:X)
 | app (i:Nat) (x:X)
 | add (j i:Nat) (x:X)
 | new2 (i:Nat)
 | lst2 (i:Nat) (x:X)
 | ext (i:Nat) (xs:X)
 | setI (i:Nat) (k v:X)
 | delI (i:Nat) (k:X)
 | augL (i:Nat) (c:Nat)
 | ifs (t:X) (a b:S)
 | whl (t:X) (b:S)
 | fors (i:Nat) (it:X) (b:S)
 | ret (x:X)
 | brk
 | asr (t:X)
inductive Fl where
 | next
 | brk
 | ret (d:D)
noncomputable def Slot.frz:Slot->Slot
 | .own ds=>.fz (.list ds)
 | .own2 dss=>.fz (.list (dss.map .list))
 | s=>s
noncomputable def frz(σ:Sg):Sg:=σ.map Slot.frz
noncomputable def Slot.isApp(i:Nat):Slot->Bool
 | .app j=>j==i
 | _=>false
noncomputable def ZgG(i:Nat)(σ:Sg):Bool:=σ.all λs=>!s.isApp i
noncomputable def ZfT:Sg->List Nat->List D->Sg
 | σ,i::is,d::ds=>ZfT (σ.set i (.fz d)) is ds
 | σ,_,_=>σ
noncomputable def Zop(op:Bop)(a b:D):Option D:=match op with
 | .add=>(match a with
  | .int a=>intD (λb=>some (.int (a+b))) b
  | .str a=>Zd2 (λb=>okS (a++b)) b
  | _=>none)
 | .sub=>intD (λa=>intD (λb=>some (.int (a - b))) b) a
 | _=>none
noncomputable def Zbj(t:Sg->Option Bool)(b:Sg->Option (Fl×Sg)):Nat->Sg->Option (Fl×Sg)
 | 0,_=>none
 | n+1,σ=>(t σ).bind λc=>if c then(b σ).bind λr=>match r.1 with
   | .next=>Zbj t b n r.2
   | .brk=>some (.next,r.2)
   | .ret d=>some (.ret d,r.2)
  else some (.next,σ)
noncomputable def forL(i:Nat)(b:Sg->Option (Fl×Sg)):List D->Sg->Option (Fl×Sg)
 | [],σ=>some (.next,σ)
 | d::ds,σ=>(b (σ.set i (.fz d))).bind λr=>match r.1 with
   | .next=>forL i b ds r.2
   | .brk=>some (.next,r.2)
   | .ret d=>some (.ret d,r.2)
theorem ZvP(i:Nat)(b:Sg->Option (Fl×Sg))(σ:Sg):forL i b [] σ=some (.next,σ):=rfl
noncomputable def ownOf(σ:Sg)(i:Nat):Option (List D):=match σ[i]? with
 | some (.own ds)=>some ds
 | _=>none
noncomputable def Zdk(σ:Sg)(i:Nat):Option (List (List D)):=match σ[i]? with
 | some (.own2 ds)=>some ds
 | _=>none
noncomputable def Zh9(σ:Sg)(j i:Nat):Bool:=match σ[j]? with
 | some (.app k)=>k==i
 | _=>false
noncomputable def Zo5(σ:Sg)(i:Nat)(ds:List D):Option (Fl×Sg):=if ds.length<=16777216 then some (.next,σ.set i (.own ds)) else none
noncomputable def Zsc(σ:Sg)(i:Nat)(ds:List (List D)):Option (Fl×Sg):=if ds.length<=16777216∧(ds.getLast?.getD []).length<=16777216 then some (.next,σ.set i (.own2 ds)) else none
noncomputable def Zus(n:Nat)(d:D):Option (List D):=Zrr (λds=>if ds.length=n then some ds else none) d
noncomputable def ZnS(n:Nat)(d:D):Option Nat:=intD (λz=>if 0<=z∧z < n then some z.toNat else none) d
section
variable (Γ:ZaC) (N:Nat)
noncomputable def ex:S->Sg->Option (Fl×Sg)
 | .skip,σ=>some (.next,σ)
 | .seq a b,σ=>(ex a σ).bind λr=>match r.1 with
   | .next=>ex b r.2
   | f=>some (f,r.2)
 | .asg i x,σ=>(ev Γ σ x).map λd=>(.next,σ.set i (.fz d))
 | .asgC i x,σ=>(ev Γ σ x).map λd=>(.next,σ.set i (.fz d))
 | .asgJ i sep t e it _ _,σ=>(ev Γ σ (.joing (.const (.str sep)) t e it)).map λd=>(.next,σ.set i (.fz d))
 | .asgR i x _ _,σ=>(ev Γ σ (.resub x)).map λd=>(.next,σ.set i (.fz d))
 | .asgO i xs,σ=>if ZgG i σ then(evL Γ σ xs).bind λds=>Zo5 σ i ds else none
 | .asgO2 i,σ=>if ZgG i σ then some (.next,σ.set i (.own2 [[]])) else none
 | .bnd j i,σ=>(ownOf σ i).map λ_=>(.next,σ.set j (.app i))
 | .unp is x,σ=>(ev Γ σ x).bind λd=>(Zus is.length d).map λds=>(.next,ZfT σ is ds)
 | .unpS is xs,σ=>(evL Γ σ xs).bind λds=>if ds.length=is.length then some (.next,ZfT σ is.reverse ds.reverse) else none
 | .aug i op x,σ=>(rd σ i).bind λa=>(ev Γ σ x).bind λb=>(Zop op a b).map λd=>(.next,σ.set i (.fz d))
 | .app i x,σ=>(ownOf σ i).bind λds=>(ev Γ σ x).bind λd=>Zo5 σ i (ds++[d])
 | .add j i x,σ=>if Zh9 σ j i then(ownOf σ i).bind λds=>(ev Γ σ x).bind λd=>Zo5 σ i (ds++[d]) else none
 | .new2 i,σ=>(Zdk σ i).bind λdss=>Zsc σ i (dss++[[]])
 | .lst2 i x,σ=>(Zdk σ i).bind λdss=>(ev Γ σ x).bind λd=>dss.getLast?.bind λl=>Zsc σ i (dss.dropLast++[l++[d]])
 | .ext i xs,σ=>(ownOf σ i).bind λds=>(evL Γ σ xs).bind λes=>Zo5 σ i (ds++es)
 | .setI i k v,σ=>(ownOf σ i).bind λds=>(ev Γ σ v).bind λd=>(ev Γ σ k).bind λz=>(ZnS ds.length z).bind λz=>Zo5 σ i (ds.set z d)
 | .delI i k,σ=>(ownOf σ i).bind λds=>(ev Γ σ k).bind λz=>(ZnS ds.length z).bind λz=>Zo5 σ i (ds.eraseIdx z)
 | .augL i c,σ=>(ownOf σ i).bind λds=>ds.getLast?.bind λd=>(Zop .add d (.str [c])).bind λd'=>Zo5 σ i (ds.set (ds.length - 1) d')
 | .ifs t a b,σ=>(tv Γ σ t).bind λc=>if c then ex a σ else ex b σ
 | .whl t b,σ=>Zbj (λσ=>tv Γ σ t) (ex b) N σ
 | .fors i it b,σ=>((ev Γ σ it).bind itemsOf).bind λds=>forL i (ex b) ds σ
 | .ret x,σ=>(ev Γ (frz σ) x).map λd=>(.ret d,frz σ)
 | .brk,σ=>some (.brk,σ)
 | .asr t,σ=>(tv Γ σ t).bind λc=>if c then some (.next,σ) else none
end
noncomputable def ZuK(f:Option Expr->Pos->Bool)(e:Stmt):Bool:=if h:e.ctorIdx=3 then Stmt.Return.elim (motive_2:=λ_=>Bool) e h f else false
@[elab_as_elim] theorem Ztb{f:Option Expr->Pos->Bool}{e:Stmt}{G:Stmt->Prop}(h:ZuK f e=true)(k:∀x0 x1,f x0 x1=true->G (.Return x0 x1)):G e:=
 Zbu h λi=>Stmt.Return.elim (motive_2:=λe=>∀i:e.ctorIdx=3,Stmt.Return.elim (motive_2:=λ_=>Bool) e i f=true->G e) e i (λx0 x1 _=>k x0 x1) i
noncomputable def ZuI(f:List Expr->Pos->Bool)(e:Stmt):Bool:=if h:e.ctorIdx=4 then Stmt.Delete.elim (motive_2:=λ_=>Bool) e h f else false
@[elab_as_elim] theorem Zte{f:List Expr->Pos->Bool}{e:Stmt}{G:Stmt->Prop}(h:ZuI f e=true)(k:∀x0 x1,f x0 x1=true->G (.Delete x0 x1)):G e:=
 Zbu h λi=>Stmt.Delete.elim (motive_2:=λe=>∀i:e.ctorIdx=4,Stmt.Delete.elim (motive_2:=λ_=>Bool) e i f=true->G e) e i (λx0 x1 _=>k x0 x1) i
noncomputable def Zlw(f:List Expr->Expr->Pos->Bool)(e:Stmt):Bool:=if h:e.ctorIdx=5 then Stmt.Assign.elim (motive_2:=λ_=>Bool) e h f else false
@[elab_as_elim] theorem Zlg{f:List Expr->Expr->Pos->Bool}{e:Stmt}{G:Stmt->Prop}(h:Zlw f e=true)(k:∀x0 x1 x2,f x0 x1 x2=true->G (.Assign x0 x1 x2)):G e:=
 Zbu h λi=>Stmt.Assign.elim (motive_2:=λe=>∀i:e.ctorIdx=5,Stmt.Assign.elim (motive_2:=λ_=>Bool) e i f=true->G e) e i (λx0 x1 x2 _=>k x0 x1 x2) i
noncomputable def Zsx(f:Expr->Operator->Expr->Pos->Bool)(e:Stmt):Bool:=if h:e.ctorIdx=7 then Stmt.AugAssign.elim (motive_2:=λ_=>Bool) e h f else false
@[elab_as_elim] theorem Zpi{f:Expr->Operator->Expr->Pos->Bool}{e:Stmt}{G:Stmt->Prop}(h:Zsx f e=true)(k:∀x0 x1 x2 x3,f x0 x1 x2 x3=true->G (.AugAssign x0 x1 x2 x3)):G e:=
 Zbu h λi=>Stmt.AugAssign.elim (motive_2:=λe=>∀i:e.ctorIdx=7,Stmt.AugAssign.elim (motive_2:=λ_=>Bool) e i f=true->G e) e i (λx0 x1 x2 x3 _=>k x0 x1 x2 x3) i
noncomputable def ZtW(f:Expr->Expr->List Stmt->List Stmt->Pos->Bool)(e:Stmt):Bool:=if h:e.ctorIdx=9 then Stmt.For.elim (motive_2:=λ_=>Bool) e h f else false
@[elab_as_elim] theorem ZsM{f:Expr->Expr->List Stmt->List Stmt->Pos->Bool}{e:Stmt}{G:Stmt->Prop}(h:ZtW f e=true)(k:∀x0 x1 x2 x3 x4,f x0 x1 x2 x3 x4=true->G (.For x0 x1 x2 x3 x4)):G e:=
 Zbu h λi=>Stmt.For.elim (motive_2:=λe=>∀i:e.ctorIdx=9,Stmt.For.elim (motive_2:=λ_=>Bool) e i f=true->G e) e i (λx0 x1 x2 x3 x4 _=>k x0 x1 x2 x3 x4) i
noncomputable def Zln(f:Expr->List Stmt->List Stmt->Pos->Bool)(e:Stmt):Bool:=if h:e.ctorIdx=11 then Stmt.While.elim (motive_2:=λ_=>Bool) e h f else false
@[elab_as_elim] theorem Zn3{f:Expr->List Stmt->List Stmt->Pos->Bool}{e:Stmt}{G:Stmt->Prop}(h:Zln f e=true)(k:∀x0 x1 x2 x3,f x0 x1 x2 x3=true->G (.While x0 x1 x2 x3)):G e:=
 Zbu h λi=>Stmt.While.elim (motive_2:=λe=>∀i:e.ctorIdx=11,Stmt.While.elim (motive_2:=λ_=>Bool) e i f=true->G e) e i (λx0 x1 x2 x3 _=>k x0 x1 x2 x3) i
noncomputable def ZtT(f:Expr->List Stmt->List Stmt->Pos->Bool)(e:Stmt):Bool:=if h:e.ctorIdx=12 then Stmt.If.elim (motive_2:=λ_=>Bool) e h f else false
@[elab_as_elim] theorem ZtA{f:Expr->List Stmt->List Stmt->Pos->Bool}{e:Stmt}{G:Stmt->Prop}(h:ZtT f e=true)(k:∀x0 x1 x2 x3,f x0 x1 x2 x3=true->G (.If x0 x1 x2 x3)):G e:=
 Zbu h λi=>Stmt.If.elim (motive_2:=λe=>∀i:e.ctorIdx=12,Stmt.If.elim (motive_2:=λ_=>Bool) e i f=true->G e) e i (λx0 x1 x2 x3 _=>k x0 x1 x2 x3) i
noncomputable def Zuc(f:Expr->Option Expr->Pos->Bool)(e:Stmt):Bool:=if h:e.ctorIdx=19 then Stmt.Assert.elim (motive_2:=λ_=>Bool) e h f else false
@[elab_as_elim] theorem ZsT{f:Expr->Option Expr->Pos->Bool}{e:Stmt}{G:Stmt->Prop}(h:Zuc f e=true)(k:∀x0 x1 x2,f x0 x1 x2=true->G (.Assert x0 x1 x2)):G e:=
 Zbu h λi=>Stmt.Assert.elim (motive_2:=λe=>∀i:e.ctorIdx=19,Stmt.Assert.elim (motive_2:=λ_=>Bool) e i f=true->G e) e i (λx0 x1 x2 _=>k x0 x1 x2) i
noncomputable def qES(f:Expr->Pos->Bool)(e:Stmt):Bool:=if h:e.ctorIdx=24 then Stmt.Expr.elim (motive_2:=λ_=>Bool) e h f else false
@[elab_as_elim] theorem ZlR{f:Expr->Pos->Bool}{e:Stmt}{G:Stmt->Prop}(h:qES f e=true)(k:∀x0 x1,f x0 x1=true->G (.Expr x0 x1)):G e:=
 Zbu h λi=>Stmt.Expr.elim (motive_2:=λe=>∀i:e.ctorIdx=24,Stmt.Expr.elim (motive_2:=λ_=>Bool) e i f=true->G e) e i (λx0 x1 _=>k x0 x1) i
noncomputable def ZuG(f:Pos->Bool)(e:Stmt):Bool:=if h:e.ctorIdx=26 then Stmt.Break.elim (motive_2:=λ_=>Bool) e h f else false
@[elab_as_elim] theorem ZrP{f:Pos->Bool}{e:Stmt}{G:Stmt->Prop}(h:ZuG f e=true)(k:∀x0,f x0=true->G (.Break x0)):G e:=
 Zbu h λi=>Stmt.Break.elim (motive_2:=λe=>∀i:e.ctorIdx=26,Stmt.Break.elim (motive_2:=λ_=>Bool) e i f=true->G e) e i (λx0 _=>k x0) i
noncomputable def qX(v t:Nat->Bool)(r:X->Nat->Nat->List Nat->Bool):X->Bool
 | .var i=>v i
 | .tvar i=>t i
 | .repl a b c d=>r a b c d
 | _=>false
theorem Zt6{v t:Nat->Bool}{r:X->Nat->Nat->List Nat->Bool}{G:X->Prop}(kv:∀i,v i=true->G (.var i))(kt:∀i,t i=true->G (.tvar i))(kr:∀a b c d,r a b c d=true->G (.repl a b c d))(e:X):qX v t r e=true->G e:=by
 cases e<;>first | exact kv _ | exact kt _ | exact kr _ _ _ _ | exact nf
noncomputable def qTv(f:Nat->Bool):X->Bool:=qX (λ_=>false) f λ_ _ _ _=>false
@[elab_as_elim] theorem Zuu{f:Nat->Bool}{e:X}{G:X->Prop}(h:qTv f e=true)(k:∀x0,f x0=true->G (.tvar x0)):G e:=Zt6 (λ_=>nf) k (λ_ _ _ _=>nf) e h
noncomputable def Zlq(f:X->Nat->Nat->List Nat->Bool):X->Bool:=qX (λ_=>false) (λ_=>false) f
@[elab_as_elim] theorem Zmb{f:X->Nat->Nat->List Nat->Bool}{e:X}{G:X->Prop}(h:Zlq f e=true)(k:∀x0 x1 x2 x3,f x0 x1 x2 x3=true->G (.repl x0 x1 x2 x3)):G e:=Zt6 (λ_=>nf) (λ_=>nf) k e h
noncomputable def Zt2(f:Nat->Bool):X->Bool:=qX f (λ_=>false) λ_ _ _ _=>false
@[elab_as_elim] theorem Ztl{f:Nat->Bool}{e:X}{G:X->Prop}(h:Zt2 f e=true)(k:∀x0,f x0=true->G (.var x0)):G e:=Zt6 k (λ_=>nf) (λ_ _ _ _=>nf) e h
noncomputable def ZbZ(f:Expr->Expr->Bool)(e:Stmt):Bool:=Zlw (λts v _=>b1 (λt=>f t v) ts) e
@[elab_as_elim] theorem ZbU{f:Expr->Expr->Bool}{e:Stmt}{G:Stmt->Prop}(h:ZbZ f e=true)(k:∀t v p,f t v=true->G (.Assign [t] v p)):G e:=Zlg h λ_ v p h=>ZfO h λt h=>k t v p h
noncomputable def tgt(sc:Scope)(nm:List Str)(i:Nat)(e:Expr):Bool:=Zcs (λn _=>nm[i]?==some n&&(sc.names.lookup n==some .local||sc.names.lookup n==some .cell)) e
noncomputable def isNm(nm:List Str)(i:Nat)(e:Expr):Bool:=mtv nm i e
noncomputable def Zr9(sc:Scope)(nm:List Str):List Nat->List Expr->Bool
 | [],es=>es.isEmpty
 | i::is,es=>bc (λe r=>tgt sc nm i e&&Zr9 sc nm is r) es
noncomputable def Zpe(e:Expr):Bool:=!(e.ctorIdx==25)
noncomputable def ZtN(e:Expr):Bool:=Zlm .USub (λa=>qC (.int 1) a) e
noncomputable def Zvj(sc:Scope)(v:Expr)(t:Expr):Bool:=Zgp v||Zcs (λn _=>sc.names.lookup n==some .cell) t
noncomputable def Zmv(sc:Scope)(v:Expr)(t:Expr):Bool:=Zcs (λn p=>Zkg (λ_ _ s q=>sc.names.lookup n==some .local&&p.line==q.line&&!(s.names.any λ(m,k)=>m==n&&(k==.local||k==.cell))) v) t
noncomputable def ZrX(sc:Scope)(ts es:List Expr):Bool:=b2 (λt u=>b2 (λx y=>Zcs (λa p=>Zcs (λb q=>sc.names.lookup a==some .local&&sc.names.lookup b==some .local&&p.line==q.line&&a != b&&!([x,y].all (foldedForSure 8))&&!([x,y].all (constantsAlone 8))&&Zai x&&Zai y) u) t) es) ts
noncomputable def Zi2(scope:Scope)(x:Str):Bool:=
 scope.names.all (λy=>y.2 != .cell&&y.2 != .free)&&scope.names.lookup (".0" : Str)==some .local&&scope.names.lookup x==some .local&&scope.kind==.function&&!scope.isCoroutine
noncomputable def Zsd(params:Arguments)(scope:Scope)(m:Str):Bool:=
 params.posonlyargs.isEmpty&&b1 (λy=>y.arg==m&&y.annotation.isNone) params.args&&params.vararg.isNone&&params.kwonlyargs.isEmpty&&params.kw_defaults.isEmpty&&params.kwarg.isNone&&params.defaults.isEmpty&&scope.names.all (λy=>y.2 != .cell&&y.2 != .free)&&(scope.names.lookup m==some .local&&scope.kind==.function&&!scope.isCoroutine&&!scope.isGenerator&&m != ("__debug__" : Str))
noncomputable def ZtJ(params:Arguments)(scope:Scope)(body:Expr):Bool:=Zrt (λl op r _=>op==.Add&&mtc (.str [92]) l&&Zm3 .Or (b2 λc emp=>mtc (.str []) emp&&ZcI "group" (λm=>b1 λone=>mtc (.int 1) one&&Zcs (λm _=>Zsd params scope m) m) c) r) body
noncomputable def S.Zcw(xs:List (Nat×Nat×Bool)):S->Bool
 | .asgJ _ _ _ _ _ gl gc=>xs.contains (gl,gc,true)
 | .asgR _ _ gl gc=>xs.contains (gl,gc,false)
 | .seq a b=>a.Zcw xs&&b.Zcw xs
 | .ifs _ a b=>a.Zcw xs&&b.Zcw xs
 | .whl _ b=>b.Zcw xs
 | .fors _ _ b=>b.Zcw xs
 | _=>true
section
variable (nm:List Str) (fn:Nat->Str) (sc:Scope)
mutual
noncomputable def ms1:S->Stmt->Bool
 | .skip,_=>false
 | .seq _ _,_=>false
 | .asg i x,e=>ZbZ (λt v=>tgt sc nm i t&&x.fz&&mt nm fn sc true x v&&Zvj sc v t) e
 | .asgC i x,e=>ZbZ (λt v=>tgt sc nm i t&&mt nm fn sc true x v&&Zmv sc v t) e
 | .asgJ i sep t e it gl gc,st=>ZbZ (λt' v=>tgt sc nm i t'&&ZcI "join" (λso=>b1 λg=>mtc (.str sep) so&&decide (sep.length<=4)&&Zu7 (λelt gens scope gpos=>gpos.line==gl&&gpos.col==gc&&mt nm fn scope false e elt&&
   b1 (λc=>c.is_async==0&&c.ifs.isEmpty&&qTv (λj=>isNm nm j c.iter) it&&Zlq (λb _ _ _=>Zlq (λb _ _ _=>Zt2 (λu=>u==t) b) b) e&&Zcs (λx _=>nm[t]?==some x&&Zi2 scope x) c.target) gens) g) v) st
 | .asgR i x gl gc,st=>ZbZ (λt' v=>tgt sc nm i t'&&x.fz&&ZcI "sub" (λo=>b2 λl a=>Zcs (λn _=>n==("_twin_re_1" : Str)&&ZcC sc n) o&&Zai a&&mt nm fn sc true x a&&Zve (λparams body scope lpos=>lpos.line==gl&&lpos.col==gc&&ZtJ params scope body) l) v) st
 | .asgO i xs,e=>ZbZ (λt v=>tgt sc nm i t&&Zg7 (λes _=>ZdD xs&&mtL nm fn sc true xs es) v) e
 | .asgO2 i,e=>ZbZ (λt v=>tgt sc nm i t&&Zg7 (λes _=>b1 (Zg7 λzs _=>zs.isEmpty) es) v) e
 | .bnd j i,e=>ZbZ (λt v=>tgt sc nm j t&&ZqB (λo n _=>n==("append" : Str)&&isNm nm i o) v) e
 | .unp is x,e=>ZbZ (λtt v=>Zru (λts _ _=>Zr9 sc nm is ts&&Zpe v&&Zgp v&&x.fz&&mt nm fn sc true x v) tt) e
 | .unpS is xs,e=>ZbZ (λtt v=>Zru (λts _ _=>Zru (λes _ _=>Zr9 sc nm is ts&&ZrX sc ts es&&ZdD xs&&mtL nm fn sc true xs es) v) tt) e
 | .aug i op x,e=>Zsx (λt o v _=>o==op.op&&tgt sc nm i t&&isNm nm i t&&x.fz&&mt nm fn sc true x v) e
 | .app i x,e=>qES (λv _=>ZcI "append" (λo=>b1 λa=>isNm nm i o&&Zai a&&x.fz&&mt nm fn sc true x a) v) e
 | .add j _ x,e=>qES (λv _=>Zk0 (λg as kw _=>kw.isEmpty&&isNm nm j g&&b1 (λa=>Zai a&&x.fz&&mt nm fn sc true x a) as) v) e
 | .new2 i,e=>qES (λv _=>ZcI "append" (λo=>b1 λa=>isNm nm i o&&Zg7 (λzs _=>zs.isEmpty) a) v) e
 | .lst2 i x,e=>qES (λv _=>ZcI "append" (λq=>b1 λa=>Znr (λo k _=>isNm nm i o&&ZtN k) q&&Zai a&&x.fz&&mt nm fn sc true x a) v) e
 | .ext i xs,e=>qES (λv _=>ZcI "extend" (λo=>b1 λa=>isNm nm i o&&Zg7 (λes _=>ZdD xs&&mtL nm fn sc true xs es) a) v) e
 | .setI i k v,e=>ZbZ (λt ve=>Znr (λo ke _=>isNm nm i o&&Zgp ve&&Zai ke&&k.fz&&v.fz&&mt nm fn sc true k ke&&mt nm fn sc true v ve) t) e
 | .delI i k,e=>ZuI (λts _=>b1 (Znr λo ke _=>isNm nm i o&&Zai ke&&k.fz&&mt nm fn sc true k ke) ts) e
 | .augL i c,e=>Zsx (λt op v _=>op==.Add&&mtc (.str [c]) v&&Znr (λo k _=>isNm nm i o&&ZtN k) t) e
 | .ifs t a b,e=>ZtT (λte ba bb _=>mtT nm fn sc true t te&&ms a ba&&ms b bb) e
 | .whl t b,e=>Zln (λte ba el _=>el.isEmpty&&mtT nm fn sc true t te&&ms b ba) e
 | .fors i it b,e=>ZtW (λtg iter ba el _=>el.isEmpty&&tgt sc nm i tg&&it.fz&&Zai iter&&mtI nm fn sc true it iter&&ms b ba) e
 | .ret x,e=>ZuK (λv _=>opt false (λv=>x.fz&&mt nm fn sc true x v) v) e
 | .brk,e=>ZuG (λ_=>true) e
 | .asr t,e=>Zuc (λte _ _=>mtT nm fn sc true t te) e
termination_by structural x _=>x
noncomputable def ms:S->List Stmt->Bool
 | .skip,es=>es.isEmpty
 | .seq a b,es=>bc (λe r=>ms1 a e&&ms b r) es
 | _,_=>false
termination_by structural x _=>x
end
end
end
section
set_option backward.match.sparseCases false
noncomputable def Zca(a:Addr):Obj:={ cls:=.type "builtin_function_or_method",data:=.fields #[.builtin "list.append",.ref a] }
noncomputable def Slot.has:Slot->Bool->Prop
 | .own _,b=>b=false
 | .own2 _,_=>True
 | _,_=>False
noncomputable def Ob(σ:Sg)(i:Nat)(b:Bool):Prop:=∃sl,σ[i]? = some sl∧sl.has b
inductive Za1 (P:Addr->Prop) (ad:Nat->Bool->Addr) (i:Nat) (h:Heap):Slot->Value->Prop
 | fz {v:Value} {d:D}:Rd P h v d->Za1 P ad i h (.fz d) v
 | own {vs:List Value} {ds:List D}:h.PlainList (ad i false) vs.toArray->Zad P h vs ds->ds.length<=sizeLine->Za1 P ad i h (.own ds) (Value.ref (ad i false))
 | own2 {vs ws:List Value} {dss pre:List (List D)} {l:List D}:dss=pre++[l]->h.PlainList (ad i false) (vs++[Value.ref (ad i true)]).toArray->Zad P h vs (pre.map .list)->h.PlainList (ad i true) ws.toArray->Zad P h ws l->
   pre.length+1<=sizeLine->l.length<=sizeLine->Za1 P ad i h (.own2 dss) (Value.ref (ad i false))
 | app {g:Addr} {j:Nat}:P g->h.get? g=some (Zca (ad j false))->Za1 P ad i h (.app j) (Value.ref g)
theorem Za1.mono{P P':Addr->Prop}{ad ad':Nat->Bool->Addr}{i:Nat}{h h':Heap}{sl:Slot}{v:Value}(x:Za1 P ad i h sl v)
  (hP:∀a o,NT o->h.get? a=some o->P a->P' a∧h'.get? a=some o) (hO:∀b,sl.has b->ad' i b=ad i b∧∀its,h.PlainList (ad i b) its->h'.PlainList (ad i b) its) (hA:∀j,sl=.app j->ad' j false=ad j false):Za1 P' ad' i h' sl v:=by
 cases x with
 | fz r=>exact .fz (r.mono hP)
 | own e r l=>
  obtain⟨e1,e2⟩:=hO false rfl
  have:=Za1.own (P:=P') (ad:=ad') (i:=i) (by erw[rwl (e1 ..) ?_];exact e2 _ e) (r.mono hP) l
  rwa [e1] at this
 | own2 d e r e' r' l l'=>
  obtain⟨e1,e2⟩:=hO false trivial
  obtain⟨e3,e4⟩:=hO true trivial
  have:=Za1.own2 (P:=P') (ad:=ad') (i:=i) d (by erw[rwl (e1 ..) (rwl (e3 ..) ?_)];exact e2 _ e) (r.mono hP) (by erw[rwl (e3 ..) ?_];exact e4 _ e') (r'.mono hP) l l'
  rwa [e1] at this
 | app p e=>
  have:=hP _ _ (.ZaD rfl) e p
  exact .app this.1 (by erw[rwl (hA _ rfl ..) ?_];exact this.2)
structure Fp where
 base:Addr->Prop
 Gd:Heap->Prop
 env:Env
 sc:Scope
 nm:List Str
 P0:Addr->Prop
 s0:Shared
noncomputable def Pv(F:Fp)(ad:Nat->Bool->Addr)(σ:Sg)(a:Addr):Prop:=a=F.env.locals∨(∃n,F.env.cells.lookup n=some a)∨∃i b,Ob σ i b∧a=ad i b
noncomputable def Pq(F:Fp)(K:Addr->Prop)(ad:Nat->Bool->Addr)(σ:Sg)(a:Addr):Prop:=F.P0 a∧¬Pv F ad σ a∧¬K a
noncomputable abbrev Fs(F:Fp):Prop:=(F.env.scope=F.sc)∧(F.sc.kind=.function)∧(F.env.globals=mainGlobals)∧(F.env.builtins=builtinsNs)∧(Pf F.P0 F.s0.heap)∧(∀n,F.sc.names.lookup n=some .cell->∃c,F.env.cells.lookup n=some c)∧(∀(i j:Nat) n,F.nm[i]? = some n->F.nm[j]? = some n->i=j)∧(∀n n' c,F.env.cells.lookup n=some c->F.env.cells.lookup n'=some c->n=n')∧(F.s0.heap.get? F.env.locals=none∧¬F.base F.env.locals)∧(∀n c,F.env.cells.lookup n=some c->F.s0.heap.get? c=none∧¬F.base c)
theorem Fs.scp{F:Fp}(slf:Fs F):F.env.scope=F.sc:=slf.1
theorem Fs.kf{F:Fp}(slf:Fs F):F.sc.kind=.function:=slf.2.1
theorem Fs.gl{F:Fp}(slf:Fs F):F.env.globals=mainGlobals:=slf.2.2.1
theorem Fs.bi{F:Fp}(slf:Fs F):F.env.builtins=builtinsNs:=slf.2.2.2.1
theorem Fs.pf{F:Fp}(slf:Fs F):Pf F.P0 F.s0.heap:=slf.2.2.2.2.1
theorem Fs.lk{F:Fp}(slf:Fs F):∀n,F.sc.names.lookup n=some .cell->∃c,F.env.cells.lookup n=some c:=slf.2.2.2.2.2.1
theorem Fs.nd{F:Fp}(slf:Fs F):∀(i j:Nat) n,F.nm[i]? = some n->F.nm[j]? = some n->i=j:=slf.2.2.2.2.2.2.1
theorem Fs.inj{F:Fp}(slf:Fs F):∀n n' c,F.env.cells.lookup n=some c->F.env.cells.lookup n'=some c->n=n':=slf.2.2.2.2.2.2.2.1
theorem Fs.fl{F:Fp}(slf:Fs F):F.s0.heap.get? F.env.locals=none∧¬F.base F.env.locals:=slf.2.2.2.2.2.2.2.2.1
theorem Fs.fc{F:Fp}(slf:Fs F):∀n c,F.env.cells.lookup n=some c->F.s0.heap.get? c=none∧¬F.base c:=slf.2.2.2.2.2.2.2.2.2
noncomputable abbrev Fm(F:Fp)(K:Addr->Prop)(ad:Nat->Bool->Addr)(σ:Sg)(s:Shared):Prop:=(Gw F.s0 s)∧(Ok F.Gd s)∧(∃m,s.heap.Ns F.env.locals m)∧(∀n c,F.env.cells.lookup n=some c->∃v,s.heap.IsCell c v)∧(∀i b,Ob σ i b->F.s0.heap.get? (ad i b)=none∧¬F.base (ad i b)∧¬K (ad i b)∧∃its,s.heap.PlainList (ad i b) its)∧(∀i b j c,Ob σ i b->Ob σ j c->ad i b=ad j c->i=j∧b=c)∧(∀b,K b->b≠F.env.locals∧(∀n c,F.env.cells.lookup n=some c->b≠c)∧F.s0.heap.get? b=none∧¬F.base b∧∃o,Mut o∧NT o∧s.heap.get? b=some o)∧(∀i sl,σ[i]? = some sl->sl≠.un->∃n v,F.nm[i]? = some n∧Zb0 F.env s.heap n v∧Za1 (Pq F K ad σ) ad i s.heap sl v)
theorem Fm.gw{F:Fp}{K:Addr->Prop}{ad:Nat->Bool->Addr}{σ:Sg}{s:Shared}(slf:Fm F K ad σ s):Gw F.s0 s:=slf.1
theorem Fm.ok{F:Fp}{K:Addr->Prop}{ad:Nat->Bool->Addr}{σ:Sg}{s:Shared}(slf:Fm F K ad σ s):Ok F.Gd s:=slf.2.1
theorem Fm.loc{F:Fp}{K:Addr->Prop}{ad:Nat->Bool->Addr}{σ:Sg}{s:Shared}(slf:Fm F K ad σ s):∃m,s.heap.Ns F.env.locals m:=slf.2.2.1
theorem Fm.cel{F:Fp}{K:Addr->Prop}{ad:Nat->Bool->Addr}{σ:Sg}{s:Shared}(slf:Fm F K ad σ s):∀n c,F.env.cells.lookup n=some c->∃v,s.heap.IsCell c v:=slf.2.2.2.1
theorem Fm.own{F:Fp}{K:Addr->Prop}{ad:Nat->Bool->Addr}{σ:Sg}{s:Shared}(slf:Fm F K ad σ s):∀i b,Ob σ i b->F.s0.heap.get? (ad i b)=none∧¬F.base (ad i b)∧¬K (ad i b)∧∃its,s.heap.PlainList (ad i b) its:=slf.2.2.2.2.1
theorem Fm.inj{F:Fp}{K:Addr->Prop}{ad:Nat->Bool->Addr}{σ:Sg}{s:Shared}(slf:Fm F K ad σ s):∀i b j c,Ob σ i b->Ob σ j c->ad i b=ad j c->i=j∧b=c:=slf.2.2.2.2.2.1
theorem Fm.kx{F:Fp}{K:Addr->Prop}{ad:Nat->Bool->Addr}{σ:Sg}{s:Shared}(slf:Fm F K ad σ s):∀b,K b->b≠F.env.locals∧(∀n c,F.env.cells.lookup n=some c->b≠c)∧F.s0.heap.get? b=none∧¬F.base b∧∃o,Mut o∧NT o∧s.heap.get? b=some o:=slf.2.2.2.2.2.2.1
theorem Fm.vs{F:Fp}{K:Addr->Prop}{ad:Nat->Bool->Addr}{σ:Sg}{s:Shared}(slf:Fm F K ad σ s):∀i sl,σ[i]? = some sl->sl≠.un->∃n v,F.nm[i]? = some n∧Zb0 F.env s.heap n v∧Za1 (Pq F K ad σ) ad i s.heap sl v:=slf.2.2.2.2.2.2.2
theorem Zsz{h:Heap}{a:Addr}{m m':Str->Option Value}(x:h.Ns a m)(y:h.Ns a m'):m=m':=by
 obtain⟨o,es,ep,e,d,_,f⟩:=x
 obtain⟨o',es',ep',e',d',_,f'⟩:=y
 rw[e] at e';cases e'
 rw[d] at d';cases d'
 funext n
 erw[rwr (f ..) (rwr (f' ..) ?_)]
theorem Zda{h:Heap}{a c:Addr}{m:Str->Option Value}{v:Option Value}(x:h.Ns a m)(y:h.IsCell c v):a≠c:=λq=>by
 subst q
 obtain⟨o,es,ep,e,d,_⟩:=x
 obtain⟨o',e',d'⟩:=y
 rw[e] at e';cases e'
 rw[d] at d';cases d'
theorem Zbx{h:Heap}{a c:Addr}{m:Str->Option Value}{its:Array Value}(x:h.Ns a m)(y:h.PlainList c its):a≠c:=λq=>by
 subst q
 obtain⟨o,es,ep,e,d,_⟩:=x
 obtain⟨n,e'⟩:=y
 rw[e] at e';cases e'
 cases d
theorem Zbm{h:Heap}{a c:Addr}{v:Option Value}{its:Array Value}(x:h.IsCell a v)(y:h.PlainList c its):a≠c:=λq=>by
 subst q
 obtain⟨o,e,d⟩:=x
 obtain⟨n,e'⟩:=y
 rw[e] at e';cases e'
 cases d
theorem ZaG{h h':Heap}{a b:Addr}{its:Array Value}(x:h.PlainList b its)(hs:Heap.ExtBut a h h')(q:b≠a):h'.PlainList b its:=let ⟨n,e⟩:=x;⟨n,hs b _ q e⟩
theorem Zb2{h h':Heap}{a b:Addr}{v:Option Value}(x:h.IsCell b v)(hs:Heap.ExtBut a h h')(q:b≠a):h'.IsCell b v:=let ⟨o,e,d⟩:=x;⟨o,hs b _ q e,d⟩
theorem ZfW{h h':Heap}{a b:Addr}{m:Str->Option Value}(x:h.Ns b m)(hs:Heap.ExtBut a h h')(q:b≠a):h'.Ns b m:=let ⟨o,es,ep,e,r⟩:=x;⟨o,es,ep,hs b _ q e,r⟩
theorem get_set{σ:Sg}{i j:Nat}{sl t:Slot}(h:(σ.set i sl)[j]? = some t):(j=i∧t=sl)∨(j≠i∧σ[j]? = some t):=by
 by_cases q:j=i
 ·subst q
  by_cases hl:j < σ.length
  ·rw[List.getElem?_set_self hl] at h;cases h;exact .inl ⟨rfl,rfl⟩
  ·rw[List.getElem?_eq_none (by simp;lia)] at h;cases h
 ·rw[List.getElem?_set_ne (Ne.symm q)] at h;exact .inr ⟨q,h⟩
theorem ZbH{σ:Sg}{i j:Nat}{sl:Slot}{b:Bool}(h:Ob (σ.set i sl) j b):(j=i∧sl.has b)∨(j≠i∧Ob σ j b):=by
 obtain⟨t,e,hb⟩:=h
 rcases get_set e with⟨q,rfl⟩ | ⟨q,e⟩
 ·exact .inl ⟨q,hb⟩
 ·exact .inr ⟨q,t,e,hb⟩
noncomputable abbrev Stp(Z Z':Addr->Prop)(h h':Heap):Prop:=(KpB Z h h')∧(∀b o,h.get? b=some o->∃o',h'.get? b=some o')∧(∀b o,h.get? b=some o->Z' b->Z b)
theorem Stp.kp{Z Z':Addr->Prop}{h h':Heap}(slf:Stp Z Z' h h'):KpB Z h h':=slf.1
theorem Stp.ex{Z Z':Addr->Prop}{h h':Heap}(slf:Stp Z Z' h h'):∀b o,h.get? b=some o->∃o',h'.get? b=some o':=slf.2.1
theorem Stp.pv{Z Z':Addr->Prop}{h h':Heap}(slf:Stp Z Z' h h'):∀b o,h.get? b=some o->Z' b->Z b:=slf.2.2
theorem Stp.refl(Z:Addr->Prop)(h:Heap):Stp Z Z h h:=⟨.refl _ _,λ_ o e=>⟨o,e⟩,λ_ _ _ z=>z⟩
theorem Stp.trans{Z Z' Z'':Addr->Prop}{h h' h'':Heap}(x:Stp Z Z' h h')(y:Stp Z' Z'' h' h''):Stp Z Z'' h h'':=⟨(λb o n z e=>y.kp b o n (λz'=>z (x.pv b o e z')) (x.kp b o n z e)),
(λb o e=>let ⟨o',e'⟩:=x.ex b o e;y.ex b o' e'),
(λb o e z=>let ⟨o',e'⟩:=x.ex b o e;x.pv b o e (y.pv b o' e' z))⟩
theorem Gw.stp{Z:Addr->Prop}{s s':Shared}(g:Gw s s'):Stp Z Z s.heap s'.heap:=⟨g.kp.toB,g.ex,λ_ _ _ z=>z⟩
theorem Stp.sub{Z Z' Z'':Addr->Prop}{h h':Heap}(x:Stp Z Z' h h')(hz:∀b o,h.get? b=some o->Z'' b->Z b):Stp Z Z'' h h':=⟨x.kp,x.ex,hz⟩
section
variable {F:Fp}{K:Addr->Prop}{ad:Nat->Bool->Addr}{σ:Sg}{s:Shared}{mg mb:Str->Option Value}
theorem Fm.pvx(x:Fm F K ad σ s){a:Addr}(h:Pv F ad σ a):∃o,Mut o∧NT o∧s.heap.get? a=some o:=by
 rcases h with rfl | ⟨n,hc⟩ | ⟨i,b,ob,rfl⟩
 ·obtain⟨m,hm⟩:=x.loc;obtain⟨o,e,m1,n1⟩:=Mut.ns hm;exact⟨o,m1,n1,e⟩
 ·obtain⟨v,hv⟩:=x.cel n a hc;obtain⟨o,e,m1,n1⟩:=Mut.cell hv;exact⟨o,m1,n1,e⟩
 ·obtain⟨_,_,_,its,hv⟩:=x.own i b ob;obtain⟨o,e,m1,n1⟩:=Mut.plain hv;exact⟨o,m1,n1,e⟩
theorem Fm.pvf(H:Fs F)(x:Fm F K ad σ s){a:Addr}(h:Pv F ad σ a):F.s0.heap.get? a=none∧¬F.base a:=by
 rcases h with rfl | ⟨n,hc⟩ | ⟨i,b,ob,rfl⟩
 ·exact H.fl
 ·exact H.fc n a hc
 ·exact⟨(x.own i b ob).1,(x.own i b ob).2.1⟩
theorem Fm.pf(H:Fs F)(x:Fm F K ad σ s):Pf (Pq F K ad σ) s.heap:=λa na=>by
 by_cases hp:F.P0 a
 ·by_cases hv:Pv F ad σ a
  ·obtain⟨o,_,n,e⟩:=x.pvx hv;exact⟨o,n,e⟩
  ·by_cases hk:K a
   ·obtain⟨_,_,_,_,o,_,n,e⟩:=x.kx a hk;exact⟨o,n,e⟩
   ·exact absurd ⟨hp,hv,hk⟩ na
 ·obtain⟨o,n,e⟩:=H.pf a hp
  exact⟨o,n,x.gw.kp _ _ n e⟩
set_option tactic.hygienic true in
theorem Fm.ZcE(H:Fs F)(x:Fm F K ad σ s):ZaO F.env F.sc F.nm (Pq F K ad σ) σ s.heap:=⟨H.scp,
H.kf,
H.gl,
H.bi,
H.lk,
(λi d e=>by
  unfold rd at e
  split at e
  ·rename_i d' he
   cases e
   obtain⟨n,v,hn,hv,hr⟩:=x.vs i _ he (by intro h;cases h)
   cases hr with
   | fz r=>exact⟨n,v,hn,hv,r⟩
  ·cases e),
(λi d e=>by
  unfold rdt at e
  split at e
  ·rename_i d' he
   cases e
   obtain⟨n,v,hn,hv,hr⟩:=x.vs i _ he (by intro h;cases h)
   cases hr with
   | fz r=>exact⟨n,v,hn,hv,.of r⟩
  ·rename_i d' he
   cases e
   obtain⟨n,v,hn,hv,hr⟩:=x.vs i _ he (by intro h;cases h)
   cases hr with
   | own e r l=>exact⟨n,_,hn,hv,.own e r l⟩
  ·cases e)⟩
theorem Fm.grow(x:Fm F K ad σ s){s':Shared}(g:Gw s s')(o:Ok F.Gd s'):Fm F K ad σ s':=⟨x.gw.trans g,
o,
(let ⟨m,h⟩:=x.loc;⟨m,Zkk h g.kp⟩),
(λn c h=>let ⟨v,h⟩:=x.cel n c h;⟨v,Zik h g.kp⟩),
(λi b h=>let ⟨h1,h2,h3,its,h4⟩:=x.own i b h;⟨h1,h2,h3,its,Zbp h4 g.kp⟩),
x.inj,
(λb h=>let ⟨h1,h2,h3,h4,o,m,n,e⟩:=x.kx b h;⟨h1,h2,h3,h4,o,m,n,g.kp b o n e⟩),
(λi sl e h=>let ⟨n,v,h1,h2,h3⟩:=x.vs i sl e h;⟨n,v,h1,h2.kp g.kp,h3.mono (λa o n e p=>⟨p,g.kp a o n e⟩) (λb _=>⟨rfl,λits h=>Zbp h g.kp⟩) λ_ _=>rfl⟩)⟩
theorem Fm.ZrB(G:Gr F.base mg mb F.Gd)(H:Fs F)(x:Fm F K ad σ s){a:Addr}(ha:Pv F ad σ a∨K a){h':Heap}{tk:Tok}(hs:Heap.ExtBut a s.heap h')(ht:1<=tk):Gw F.s0 { s with heap:=h',toks:=tk }∧Ok F.Gd { s with heap:=h',toks:=tk }:=by
 have f:F.s0.heap.get? a=none∧¬F.base a:=by
  rcases ha with h | h
  ·exact x.pvf H h
  ·exact⟨(x.kx a h).2.2.1,(x.kx a h).2.2.2.1⟩
 obtain⟨o,m,n,e⟩:∃o,Mut o∧NT o∧s.heap.get? a=some o:=by
  rcases ha with h | h
  ·exact x.pvx h
  ·exact(x.kx a h).2.2.2.2
 refine⟨⟨λb o n e=>hs b o (λq=>by rw[q,f.1] at e;cases e) (x.gw.kp b o n e),λb o e=>?_,x.gw.os,x.gw.gens⟩,G.same x.ok.gd f.2 e m hs,ht⟩
 obtain⟨o',e'⟩:=x.gw.ex b o e
 exact⟨o',hs b o' (λq=>by rw[q,f.1] at e;cases e) e'⟩
end
end
section
section
variable {F:Fp}{K:Addr->Prop}{ad:Nat->Bool->Addr}{σ:Sg}{s:Shared}{mg mb:Str->Option Value}
theorem Fm.prep(x:Fm F K ad σ s){i:Nat}{ad':Nat->Bool->Addr}(ha:∀j b,j≠i->ad' j b=ad j b)(hn:ZgG i σ=true∨ad'=ad):Fm F K ad' (σ.set i .un) s:=by
 have ob:∀j b,Ob (σ.set i .un) j b->j≠i∧Ob σ j b:=λj b h=>by
  rcases ZbH h with⟨_,h⟩ | h
  ·cases h
  ·exact h
 have pv:∀a,Pv F ad' (σ.set i .un) a->Pv F ad σ a:=λa h=>by
  rcases h with h | h | ⟨j,b,h,e⟩
  ·exact .inl h
  ·exact .inr (.inl h)
  ·have:=ob j b h;exact .inr (.inr ⟨j,b,this.2,by erw[rwl (e ..) (rwl (ha j b this.1 ..) ?_)]⟩)
 exact⟨x.gw,
  x.ok,
  x.loc,
  x.cel,
  (λj b h=>by have:=ob j b h;erw[rwl (ha j b this.1 ..) ?_];exact x.own j b this.2),
  (λj b k c h1 h2 e=>by have h1:=ob j b h1;have h2:=ob k c h2;rw[ha j b h1.1,ha k c h2.1] at e;exact x.inj j b k c h1.2 h2.2 e),
  x.kx,
  (λj sl e hne=>by
   rcases get_set e with⟨_,rfl⟩ | ⟨q,e⟩
   ·exact absurd rfl hne
   ·obtain⟨n,v,h1,h2,h3⟩:=x.vs j sl e hne
    refine⟨n,v,h1,h2,h3.mono (λa o _ e p=>⟨⟨p.1,λz=>p.2.1 (pv a z),p.2.2⟩,e⟩) (λb _=>⟨ha j b q,λ_ h=>h⟩) λk hk=>?_⟩
    subst hk
    rcases hn with hn | rfl
    ·refine ha k false λq=>?_
     have:=List.all_eq_true.mp hn _ (List.mem_of_getElem? e)
     simp[Slot.isApp,q] at this
    ·rfl)⟩
theorem Fm.Zpk(x:Fm F K ad σ s){s':Shared}(g:Gw s s')(o:Ok F.Gd s'){I:Addr}(hI:s.heap.get? I=none)(hb : ¬F.base I)(hx:∃o,Mut o∧NT o∧s'.heap.get? I=some o):Fm F (λa=>K a∨a=I) ad σ s':=⟨x.gw.trans g,
o,
(let ⟨m,h⟩:=x.loc;⟨m,Zkk h g.kp⟩),
(λn c h=>let ⟨v,h⟩:=x.cel n c h;⟨v,Zik h g.kp⟩),
(λi b h=>by
  obtain⟨h1,h2,h3,its,h4⟩:=x.own i b h
  exact⟨h1,h2,λz=>z.elim h3 λq=>(by obtain⟨_,e⟩:=h4;rw[q,hI] at e;cases e),its,Zbp h4 g.kp⟩),
x.inj,
(λb h=>by
  rcases h with h | rfl
  ·obtain⟨h1,h2,h3,h4,o,m,n,e⟩:=x.kx b h;exact⟨h1,h2,h3,h4,o,m,n,g.kp b o n e⟩
  ·refine⟨λq=>?_,λn c hc q=>?_,x.gw.none hI,hb,hx⟩
   ·obtain⟨m,o,es,ep,e,_⟩:=x.loc;rw[←q,hI] at e;cases e
   ·obtain⟨v,o,e,_⟩:=x.cel n c hc;rw[←q,hI] at e;cases e),
(λi sl e h=>let ⟨n,v,h1,h2,h3⟩:=x.vs i sl e h;⟨n,v,h1,h2.kp g.kp,h3.mono (λa o n e p=>⟨⟨p.1,p.2.1,λz=>z.elim p.2.2 λq=>(by rw[q,hI] at e;cases e)⟩,g.kp a o n e⟩) (λb _=>⟨rfl,λits h=>Zbp h g.kp⟩) λ_ _=>rfl⟩)⟩
theorem Fm.Zu1(x:Fm F K ad σ s){K':Addr->Prop}(h:∀a,K' a->K a):Fm F K' ad σ s:=⟨x.gw,
x.ok,
x.loc,
x.cel,
(λi b ob=>let ⟨h1,h2,h3,h4⟩:=x.own i b ob;⟨h1,h2,λz=>h3 (h _ z),h4⟩),
x.inj,
(λb hb=>x.kx b (h b hb)),
(λi sl e hne=>let ⟨n,v,h1,h2,h3⟩:=x.vs i sl e hne;⟨n,v,h1,h2,h3.mono (λa o _ e p=>⟨⟨p.1,p.2.1,λz=>p.2.2 (h a z)⟩,e⟩) (λb _=>⟨rfl,λ_ h=>h⟩) λ_ _=>rfl⟩)⟩
theorem Zb0.but{env:Env}{h h':Heap}{a:Addr}{n:Str}{v:Value}(x:Zb0 env h n v)(hs:Heap.ExtBut a h h')(h1:env.locals≠a)(h2:∀n c,env.cells.lookup n=some c->c≠a):Zb0 env h' n v:=by
 rcases x with⟨hk,m,hn,e⟩ | ⟨hk,c,e,hc⟩
 ·exact .inl ⟨hk,m,ZfW hn hs h1,e⟩
 ·exact .inr ⟨hk,c,e,Zb2 hc hs (h2 n c e)⟩
theorem Fm.Zu4(G:Gr F.base mg mb F.Gd)(H:Fs F)(x:Fm F K ad σ s){I:Addr}(hI:K I){h':Heap}{tk:Tok}(hs:Heap.ExtBut I s.heap h')(hx:∃o,Mut o∧NT o∧h'.get? I=some o)(ht:1<=tk):Fm F K ad σ { s with heap:=h',toks:=tk }:=⟨(x.ZrB G H (.inr hI) hs ht).1,
(x.ZrB G H (.inr hI) hs ht).2,
(let ⟨m,h⟩:=x.loc;⟨m,ZfW h hs (Ne.symm (x.kx I hI).1)⟩),
(λn c h=>let ⟨v,h'⟩:=x.cel n c h;⟨v,Zb2 h' hs (Ne.symm ((x.kx I hI).2.1 n c h))⟩),
(λi b h=>let ⟨h1,h2,h3,its,h4⟩:=x.own i b h;⟨h1,h2,h3,its,ZaG h4 hs λq=>h3 (q▸hI)⟩),
x.inj,
(λb h=>by
  obtain⟨h1,h2,h3,h4,o,m,n,e⟩:=x.kx b h
  by_cases q:b=I
  ·subst q;exact⟨h1,h2,h3,h4,hx⟩
  ·exact⟨h1,h2,h3,h4,o,m,n,hs b o q e⟩),
(λi sl e h=>let ⟨n,v,h1,h2,h3⟩:=x.vs i sl e h
  ⟨n,v,h1,h2.but hs (Ne.symm (x.kx I hI).1) λn c hc=>Ne.symm ((x.kx I hI).2.1 n c hc),h3.mono (λa o _ e p=>⟨p,hs a o (λq=>p.2.2 (q▸hI)) e⟩) (λb hb=>⟨rfl,λits h=>ZaG h hs λq=>(x.own i b ⟨sl,e,hb⟩).2.2.1 (q▸hI)⟩) λ_ _=>rfl⟩)⟩
theorem Fm.store{prog:Program}{w:World}{A:Around}{E:Value->Shared->Prop}{Q:Unit->Shared->Prop}(G:Gr F.base mg mb F.Gd)(H:Fs F){K1:Addr->Prop}{i:Nat}{sl:Slot}{n:Str}{v:Value}(x:Fm F K1 ad σ s)
  (hK:∀a,K1 a↔(K a∨∃b,sl.has b∧a=ad i b)) (hKn:∀b,sl.has b->¬K (ad i b)∧∃its,s.heap.PlainList (ad i b) its) (hinj:sl.has true->ad i true≠ad i false)
  (hn:F.nm[i]? = some n) (hk:F.sc.names.lookup n=some .local∨F.sc.names.lookup n=some .cell) (hnew:Za1 (Pq F K ad (σ.set i sl)) ad i s.heap sl v)
  (k:∀h' tk,Fm F K ad (σ.set i sl) { s with heap:=h',toks:=tk }->(∀a,a≠F.env.locals->(∀n c,F.env.cells.lookup n=some c->a≠c)->∀o,s.heap.get? a=some o->h'.get? a=some o)->(∀a o,s.heap.get? a=some o->∃o',h'.get? a=some o')->Q () { s with heap:=h',toks:=tk }) :
  wpAny (model prog w) A (storeName F.env n v) Q E s:=by
 have k1:∀b,sl.has b->K1 (ad i b):=λb hb=>(hK _).mpr (.inr ⟨b,hb,rfl⟩)
 have pv:∀a,Pv F ad (σ.set i sl) a->Pv F ad σ a∨K1 a:=λa h=>by
  rcases h with h | h | ⟨j,b,h,e⟩
  ·exact .inl (.inl h)
  ·exact .inl (.inr (.inl h))
  ·rcases ZbH h with⟨rfl,g⟩ | h
   ·exact .inr (e▸k1 b g)
   ·exact .inl (.inr (.inr ⟨j,b,h.2,e⟩))
 have pq:∀a,Pq F K1 ad σ a->Pq F K ad (σ.set i sl) a:=λa p=>⟨p.1,λz=>(pv a z).elim p.2.1 p.2.2,λz=>p.2.2 ((hK a).mpr (.inl z))⟩
 have main:∀(a:Addr) (h':Heap) (tk:Tok),Pv F ad σ a->(∀j b,Ob σ j b->ad j b≠a)->Heap.ExtBut a s.heap h'->1<=tk->(∃o,NT o∧h'.get? a=some o)->(∃m,h'.Ns F.env.locals m)->(∀n c,F.env.cells.lookup n=some c->∃v,h'.IsCell c v)->Zb0 F.env h' n v->
   (∀j n' v',j≠i->F.nm[j]? = some n'->Zb0 F.env s.heap n' v'->Zb0 F.env h' n' v')->(∀b its,sl.has b->s.heap.PlainList (ad i b) its->ad i b≠a)->a=F.env.locals∨(∃n,F.env.cells.lookup n=some a)->Q () { s with heap:=h',toks:=tk }:=by
  intro a h' tk ha hao hs ht hx hl hc hv hvs hio hal
  have gk:=x.ZrB G H (.inl ha) hs ht
  refine k h' tk ?_ (λb hb1 hb2 o e=>hs b o (λq=>?_) e) (λb o e=>?_)
  ·exact⟨gk.1,
    gk.2,
    hl,
    hc,
    (λj b h=>by
     rcases ZbH h with⟨rfl,g⟩ | ⟨q,h⟩
     ·obtain⟨_,_,h3,h4,_⟩:=x.kx _ (k1 b g)
      obtain⟨its,hp⟩:=(hKn b g).2
      exact⟨h3,h4,(hKn b g).1,its,ZaG hp hs (hio b its g hp)⟩
     ·obtain⟨h1,h2,h3,its,h4⟩:=x.own j b h
      exact⟨h1,h2,λz=>h3 ((hK _).mpr (.inl z)),its,ZaG h4 hs (hao j b h)⟩),
    (λj b l c h1 h2 e=>by
     rcases ZbH h1 with⟨rfl,g1⟩ | ⟨q1,g1⟩
     ·rcases ZbH h2 with⟨rfl,g2⟩ | ⟨q2,g2⟩
      ·refine⟨rfl,?_⟩
       cases b<;>cases c
       ·rfl
       ·exact absurd e.symm (hinj g2)
       ·exact absurd e (hinj g1)
       ·rfl
      ·exact absurd (e▸k1 b g1) (x.own l c g2).2.2.1
     ·rcases ZbH h2 with⟨rfl,g2⟩ | ⟨q2,g2⟩
      ·exact absurd (e▸k1 c g2) (x.own j b g1).2.2.1
      ·exact x.inj j b l c g1 g2 e),
    (λb hb=>by
     obtain⟨h1,h2,h3,h4,o,m,n,e⟩:=x.kx b ((hK b).mpr (.inl hb))
     refine⟨h1,h2,h3,h4,o,m,n,hs b o (λq=>?_) e⟩
     subst q
     rcases hal with q | ⟨n,q⟩
     ·exact h1 q
     ·exact h2 n b q rfl),
    (λj sl' e hne=>by
     rcases get_set e with⟨rfl,rfl⟩ | ⟨q,e⟩
     ·exact⟨n,v,hn,hv,hnew.mono (λb o _ e p=>⟨p,hs b o (λq=>by
       subst q
       refine p.2.1 ?_
       rcases hal with q | q
       ·exact .inl q
       ·exact .inr (.inl q)) e⟩) (λb hb=>⟨rfl,λits h=>ZaG h hs (hio b its hb h)⟩) λ_ _=>rfl⟩
     ·obtain⟨n',v',h1,h2,h3⟩:=x.vs j sl' e hne
      exact⟨n',v',h1,hvs j n' v' q h1 h2,h3.mono (λb o _ e p=>⟨pq b p,hs b o (λq=>p.2.1 (q▸ha)) e⟩) (λb hb=>⟨rfl,λits h=>ZaG h hs (hao j b ⟨sl',e,hb⟩)⟩) λ_ _=>rfl⟩)⟩
  ·subst q
   rcases hal with q | ⟨n,q⟩
   ·exact hb1 q
   ·exact hb2 n b q rfl
  ·by_cases q:b=a
   ·subst q;obtain⟨o',_,e'⟩:=hx;exact⟨o',e'⟩
   ·exact⟨o,hs b o q e⟩
 obtain⟨m,hm⟩:=x.loc
 rcases hk with hk | hk
 ·have hk':F.env.kindOf n=some .local:=by rw[Env.kindOf,H.scp];exact hk
  refine wpAny_storeName_local hk' hm (λh' hn' hs=>?_) (by rw[H.scp,H.kf];rfl)
  refine main F.env.locals h' _ (.inl rfl) (λj b h q=>?_) hs.extBut (Nat.le_succ_of_le x.ok.tk) ?_ ⟨_,hn'⟩ (λn c hc=>?_) (.inl ⟨hk',_,hn',if_pos rfl⟩) (λj n' v' q hj hv=>?_) (λb its _ h q=>?_) (.inl rfl)
  ·obtain⟨_,_,_,its,h4⟩:=x.own j b h
   exact Zbx hm h4 q.symm
  ·obtain⟨o,e,_,n1⟩:=Mut.ns hn';exact⟨o,n1,e⟩
  ·obtain⟨v,hv⟩:=x.cel n c hc
   exact⟨v,Zb2 hv hs.extBut (Ne.symm (Zda hm hv))⟩
  ·rcases hv with⟨hl,m',hm',e⟩ | ⟨hl,c,e,hc⟩
   ·have:=Zsz hm' hm;subst this
    refine .inl ⟨hl,_,hn',?_⟩
    rw[if_neg]
    ·exact e
    ·intro q2;subst q2;exact q (H.nd _ _ _ hj hn)
   ·exact .inr ⟨hl,c,e,Zb2 hc hs.extBut (Ne.symm (Zda hm hc))⟩
  ·exact Zbx hm h q.symm
 ·have hk':F.env.kindOf n=some .cell:=by rw[Env.kindOf,H.scp];exact hk
  obtain⟨c,hc⟩:=H.lk n hk
  obtain⟨v0,hv0⟩:=x.cel n c hc
  refine wpAny_storeName_cell (by rw[H.scp,H.kf]) hk' hc hv0 (λh' hn' hs=>?_)
  refine main c h' s.toks (.inr (.inl ⟨n,hc⟩)) (λj b h q=>?_) hs.extBut x.ok.tk ?_ ⟨m,ZfW hm hs.extBut (Zda hm hv0)⟩ (λn' c' hc'=>?_) (.inr ⟨.inl hk',c,hc,hn'⟩) (λj n' v' q hj hv=>?_) (λb its _ h q=>?_) (.inr ⟨n,hc⟩)
  ·obtain⟨_,_,_,its,h4⟩:=x.own j b h
   exact Zbm hv0 h4 q.symm
  ·obtain⟨o,e,_,n1⟩:=Mut.cell hn';exact⟨o,n1,e⟩
  ·by_cases q:c'=c
   ·subst q;exact⟨_,hn'⟩
   ·obtain⟨v,hv⟩:=x.cel n' c' hc'
    exact⟨v,Zb2 hv hs.extBut q⟩
  ·rcases hv with⟨hl,m',hm',e⟩ | ⟨hl,c',e,hc'⟩
   ·exact .inl ⟨hl,m',ZfW hm' hs.extBut (Zda hm' hv0),e⟩
   ·refine .inr ⟨hl,c',e,Zb2 hc' hs.extBut λq2=>?_⟩
    subst q2
    have:=H.inj _ _ _ e hc
    subst this
    exact q (H.nd _ _ _ hj hn)
  ·exact Zbm hv0 h q.symm
end
end
section
section
variable {F:Fp}{K:Addr->Prop}{ad:Nat->Bool->Addr}{σ:Sg}{s:Shared}{mg mb:Str->Option Value}
theorem Fm.re(G:Gr F.base mg mb F.Gd)(H:Fs F){K1:Addr->Prop}(x:Fm F K1 ad σ s){i:Nat}{sl sl0:Slot}{b0:Bool}{ad':Nat->Bool->Addr}{h':Heap}{tk:Tok}(e:σ[i]? = some sl0)(hb0:sl0.has b0)(hs:Heap.ExtBut (ad i b0) s.heap h')(ht:1<=tk)
  (ha:∀j b,j≠i->ad' j b=ad j b) (haf:ad' i false=ad i false) (hK:∀a,K a->K1 a)
  (hown:∀b,sl.has b->F.s0.heap.get? (ad' i b)=none∧¬F.base (ad' i b)∧¬K (ad' i b)∧(∃its,h'.PlainList (ad' i b) its)∧(Pv F ad σ (ad' i b)∨K1 (ad' i b))∧∀j c,j≠i->Ob σ j c->ad j c≠ad' i b)
  (hinj:sl.has true->ad' i true≠ad' i false)
  (hv:∀v,Za1 (Pq F K1 ad σ) ad i s.heap sl0 v->(∀a,Pq F K1 ad σ a->Pq F K ad' (σ.set i sl) a)->Za1 (Pq F K ad' (σ.set i sl)) ad' i h' sl v) :
  Fm F K ad' (σ.set i sl) { s with heap:=h',toks:=tk }:=by
 have ob0:Ob σ i b0:=⟨sl0,e,hb0⟩
 have hpa:Pv F ad σ (ad i b0):=.inr (.inr ⟨i,b0,ob0,rfl⟩)
 obtain⟨_,_,hk0,its0,hp0⟩:=x.own i b0 ob0
 obtain⟨m,hm⟩:=x.loc
 have hl:F.env.locals≠ad i b0:=Zbx hm hp0
 have hc:∀n c,F.env.cells.lookup n=some c->c≠ad i b0:=λn c h=>let ⟨v,h⟩:=x.cel n c h;Zbm h hp0
 have hao:∀j c,j≠i->Ob σ j c->ad j c≠ad i b0:=λj c q o h=>q (x.inj j c i b0 o ob0 h).1
 have pv:∀a,Pv F ad' (σ.set i sl) a->Pv F ad σ a∨K1 a:=λa h=>by
  rcases h with h | h | ⟨j,b,h,e1⟩
  ·exact .inl (.inl h)
  ·exact .inl (.inr (.inl h))
  ·rcases ZbH h with⟨q,g⟩ | ⟨q,g⟩
   ·subst q;subst e1;exact(hown b g).2.2.2.2.1
   ·exact .inl (.inr (.inr ⟨j,b,g,by erw[rwl (e1 ..) (rwl (ha j b q ..) ?_)]⟩))
 have pq:∀a,Pq F K1 ad σ a->Pq F K ad' (σ.set i sl) a:=λa p=>⟨p.1,λz=>(pv a z).elim p.2.1 p.2.2,λz=>p.2.2 (hK a z)⟩
 have gk:=x.ZrB G H (.inl hpa) hs ht
 exact⟨gk.1,
  gk.2,
  ⟨m,ZfW hm hs hl⟩,
  (λn c h=>let ⟨v,h'⟩:=x.cel n c h;⟨v,Zb2 h' hs (hc n c h)⟩),
  (λj b h=>by
   rcases ZbH h with⟨rfl,g⟩ | ⟨q,g⟩
   ·obtain⟨h1,h2,h3,h4,_⟩:=hown b g;exact⟨h1,h2,h3,h4⟩
   ·obtain⟨h1,h2,h3,its,h4⟩:=x.own j b g
    erw[rwl (ha j b q ..) ?_]
    exact⟨h1,h2,λz=>h3 (hK _ z),its,ZaG h4 hs (hao j b q g)⟩),
  (λj b l c h1 h2 e3=>by
   rcases ZbH h1 with⟨q1,g1⟩ | ⟨q1,g1⟩
   ·rcases ZbH h2 with⟨q2,g2⟩ | ⟨q2,g2⟩
    ·rw[q1,q2] at e3 ⊢
     refine⟨rfl,?_⟩
     cases b<;>cases c
     ·rfl
     ·exact absurd e3.symm (hinj g2)
     ·exact absurd e3 (hinj g1)
     ·rfl
    ·rw[ha l c q2,q1] at e3
     exact absurd e3.symm ((hown b g1).2.2.2.2.2 l c q2 g2)
   ·rcases ZbH h2 with⟨q2,g2⟩ | ⟨q2,g2⟩
    ·rw[ha j b q1,q2] at e3
     exact absurd e3 ((hown c g2).2.2.2.2.2 j b q1 g1)
    ·rw[ha j b q1,ha l c q2] at e3
     exact x.inj j b l c g1 g2 e3),
  (λb hb=>by
   obtain⟨h1,h2,h3,h4,o,m,n,e⟩:=x.kx b (hK b hb)
   exact⟨h1,h2,h3,h4,o,m,n,hs b o (λq=>hk0 (q▸hK b hb)) e⟩),
  (λj sl' e' hne=>by
   rcases get_set e' with⟨rfl,rfl⟩ | ⟨q,e'⟩
   ·obtain⟨n,v,h1,h2,h3⟩:=x.vs j sl0 e (by rintro rfl;cases hb0)
    exact⟨n,v,h1,h2.but hs hl hc,hv v h3 pq⟩
   ·obtain⟨n,v,h1,h2,h3⟩:=x.vs j sl' e' hne
    refine⟨n,v,h1,h2.but hs hl hc,h3.mono (λb o _ e p=>⟨pq b p,hs b o (λq=>p.2.1 (q▸hpa)) e⟩) (λb hb=>⟨ha j b q,λits h=>ZaG h hs (hao j b q ⟨sl',e',hb⟩)⟩) λk _=>?_⟩
    by_cases q2:k=i
    ·subst q2;exact haf
    ·exact ha k false q2)⟩
theorem Fm.Zv0(G:Gr F.base mg mb F.Gd)(H:Fs F)(x:Fm F K ad σ s){i:Nat}{ds ds':List D}{vs':List Value}{h':Heap}{tk:Tok}(e:σ[i]? = some (.own ds))(hs:Heap.ExtBut (ad i false) s.heap h')(ht:1<=tk)(hp:h'.PlainList (ad i false) vs'.toArray)
  (hr:Zad (Pq F K ad σ) s.heap vs' ds') (hl:ds'.length<=sizeLine):Fm F K ad (σ.set i (.own ds')) { s with heap:=h',toks:=tk }:=by
 have ob:Ob σ i false:=⟨_,e,rfl⟩
 have hpa:Pv F ad σ (ad i false):=.inr (.inr ⟨i,false,ob,rfl⟩)
 refine x.re (sl:=.own ds') G H e (b0:=false) rfl hs ht (λ_ _ _=>rfl) rfl (λ_ h=>h) (λb hb=>?_) (λh=>nomatch h) λv h pq=>?_
 ·cases hb
  obtain⟨h1,h2,h3,_⟩:=x.own i false ob
  exact⟨h1,h2,h3,⟨_,hp⟩,.inl hpa,λj c q o h=>q (x.inj j c i false o ob h).1⟩
 ·cases h with
  | own _ _ _=>exact .own hp (hr.mono λa o _ e p=>⟨pq a p,hs a o (λq=>p.2.1 (q▸hpa)) e⟩) hl
theorem Fm.ZvZ(G:Gr F.base mg mb F.Gd)(H:Fs F)(x:Fm F K ad σ s){i:Nat}{pre:List (List D)}{l l':List D}{ws':List Value}{h':Heap}{tk:Tok}(e:σ[i]? = some (.own2 (pre++[l])))(hs:Heap.ExtBut (ad i true) s.heap h')(ht:1<=tk)(hp:h'.PlainList (ad i true) ws'.toArray)
  (hr:Zad (Pq F K ad σ) s.heap ws' l') (hl:l'.length<=sizeLine):Fm F K ad (σ.set i (.own2 (pre++[l']))) { s with heap:=h',toks:=tk }:=by
 have ob:∀b,Ob σ i b:=λb=>⟨_,e,trivial⟩
 have hpa:∀b,Pv F ad σ (ad i b):=λb=>.inr (.inr ⟨i,b,ob b,rfl⟩)
 have hne:ad i true≠ad i false:=λq=>nomatch (x.inj i true i false (ob _) (ob _) q).2
 refine x.re (sl:=.own2 (pre++[l'])) G H e (b0:=true) trivial hs ht (λ_ _ _=>rfl) rfl (λ_ h=>h) (λb _=>?_) (λ_=>hne) λv h pq=>?_
 ·obtain⟨h1,h2,h3,its,h4⟩:=x.own i b (ob b)
  refine⟨h1,h2,h3,?_,.inl (hpa b),λj c q o h=>q (x.inj j c i b o (ob b) h).1⟩
  cases b with
  | true=>exact⟨_,hp⟩
  | false=>exact⟨_,ZaG h4 hs (Ne.symm hne)⟩
 ·have mm:∀a o,NT o->s.heap.get? a=some o->Pq F K ad σ a->Pq F K ad (σ.set i (.own2 (pre++[l']))) a∧h'.get? a=some o:=λa o _ e p=>⟨pq a p,hs a o (λq=>p.2.1 (q▸hpa true)) e⟩
  cases h with
  | own2 d h1 h2 h3 h4 h5 h6=>
   obtain⟨rfl,d2⟩:=List.append_inj' d rfl
   exact .own2 rfl (ZaG h1 hs (Ne.symm hne)) (h2.mono mm) hp (hr.mono mm) h5 hl
set_option tactic.hygienic true in
theorem Fm.ZvX(G:Gr F.base mg mb F.Gd)(H:Fs F){a:Addr}(x:Fm F (λb=>K b∨b=a) ad σ s)(hKa : ¬K a){i:Nat}{dss:List (List D)}{vs:List Value}{h':Heap}{tk:Tok}(e:σ[i]? = some (.own2 dss))(ha:s.heap.PlainList a ([]:List Value).toArray)(hs:Heap.ExtBut (ad i false) s.heap h')(ht:1<=tk)
  (h0:s.heap.PlainList (ad i false) vs.toArray) (hp:h'.PlainList (ad i false) (vs++[Value.ref a]).toArray) (hl:dss.length+1<=sizeLine) :
  Fm F K (λj b=>if j=i∧b=true then a else ad j b) (σ.set i (.own2 (dss++[[]]))) { s with heap:=h',toks:=tk }:=by
 have ob:∀b,Ob σ i b:=λb=>⟨_,e,trivial⟩
 have hpa:∀b,Pv F ad σ (ad i b):=λb=>.inr (.inr ⟨i,b,ob b,rfl⟩)
 have hne:ad i true≠ad i false:=λq=>nomatch (x.inj i true i false (ob _) (ob _) q).2
 have hao:∀j c,Ob σ j c->ad j c≠a:=λj c o q=>(x.own j c o).2.2.1 (.inr q)
 have hk:=x.kx a (.inr rfl)
 have fr:∀b,F.s0.heap.get? b=none->F.P0 b:=λb h=>H.pf.fresh h
 refine x.re (K:=K) (ad':=λj b=>if j=i∧b=true then a else ad j b) (sl:=.own2 (dss++[[]])) G H e (b0:=false) trivial hs ht (λj b q=>by simp[q]) (by simp) (λ_ h=>.inl h) (λb _=>?_) (λ_=>by simpa using Ne.symm (hao i false (ob _))) λv h pq=>?_
 ·cases b with
  | true=>
   simp only[and_self,if_true]
   exact⟨hk.2.2.1,hk.2.2.2.1,hKa,⟨_,ZaG ha hs (Ne.symm (hao i false (ob _)))⟩,Or.inr (by simp),λj c _ o=>hao j c o⟩
  | false=>
   simp only[Bool.false_eq_true,and_false,if_false]
   obtain⟨h1,h2,h3,its,h4⟩:=x.own i false (ob _)
   exact⟨h1,h2,λz=>h3 (.inl z),⟨_,hp⟩,.inl (hpa _),λj c q o h=>q (x.inj j c i false o (ob _) h).1⟩
 ·have mm:∀b o,NT o->s.heap.get? b=some o->Pq F (λb=>K b∨b=a) ad σ b->Pq F K (λj b=>if j=i∧b=true then a else ad j b) (σ.set i (.own2 (dss++[[]]))) b∧h'.get? b=some o:=λb o _ e p=>⟨pq b p,hs b o (λq=>p.2.1 (q▸hpa false)) e⟩
  cases h with
  | own2 d h1 h2 h3 h4 h5 h6=>
   rename_i us ws pre l
   have e1:vs=us++[Value.ref (ad i true)]:=by
    obtain⟨n1,e1⟩:=h0
    obtain⟨n2,e2⟩:=h1
    rw[e1] at e2
    simp only[Option.some.injEq,Obj.mk.injEq] at e2
    have e3:vs.toArray=(us++[Value.ref (ad i true)]).toArray:=by
     have:=e2.2.2.1
     injection this
    simpa using congrArg Array.toList e3
   subst e1
   have old:Pq F K (λj b=>if j=i∧b=true then a else ad j b) (σ.set i (.own2 (dss++[[]]))) (ad i true):=by
    refine⟨fr _ (x.own i true (ob _)).1,λz=>?_,λz=>(x.own i true (ob _)).2.2.1 (.inl z)⟩
    rcases z with z | ⟨n,z⟩ | ⟨j,b,o,z⟩
    ·obtain⟨m,hm⟩:=x.loc
     exact Zbx hm h3 z.symm
    ·obtain⟨v,hv⟩:=x.cel n _ z
     exact Zbm hv h3 rfl
    ·rcases ZbH o with⟨rfl,_⟩ | ⟨q,o⟩
     ·cases b with
      | true=>simp only[and_self,if_true] at z;exact hao _ _ (ob true) z
      | false=>simp only[Bool.false_eq_true,and_false,if_false] at z;exact hne z
     ·simp only[q,false_and,if_false] at z
      exact q (x.inj j b i true o (ob _) z.symm).1
   have e5:dss.map D.list=pre.map D.list++[D.list l]:=by erw[rwl (d ..) (rwl (List.map_append ..) ?_)];rfl
   have:=Za1.own2 (P:=Pq F K (λj b=>if j=i∧b=true then a else ad j b) (σ.set i (.own2 (dss++[[]])))) (ad:=λj b=>if j=i∧b=true then a else ad j b) (i:=i) (h:=h') (dss:=dss++[[]]) (pre:=dss) (l:=[]) (vs:=us++[Value.ref (ad i true)]) (ws:=[]) rfl
    (by simpa using hp) (by erw[rwl (e5 ..) ?_];exact(h2.mono mm).snoc (.list old (ZaG h3 hs hne) (h4.mono mm) h6)) (by simpa using ZaG ha hs (Ne.symm (hao i false (ob _)))) .nil hl (by simp)
   simpa using this
theorem Fm.freeze(H:Fs F)(x:Fm F K ad σ s):Fm F K ad (frz σ) s:=by
 have nob:∀j b,¬Ob (frz σ) j b:=λj b ⟨sl,e,hb⟩=>by
  unfold frz at e
  rw[List.getElem?_map] at e
  cases e2:σ[j]? with
  | none=>rw[e2] at e;cases e
  | some t=>rw[e2] at e;cases e;cases t<;>cases hb
 have pv:∀a,Pv F ad (frz σ) a->Pv F ad σ a:=λa h=>by
  rcases h with h | h | ⟨j,b,h,_⟩
  ·exact .inl h
  ·exact .inr (.inl h)
  ·exact absurd h (nob j b)
 have pq:∀a,Pq F K ad σ a->Pq F K ad (frz σ) a:=λa p=>⟨p.1,λz=>p.2.1 (pv a z),p.2.2⟩
 have po:∀j b,Ob σ j b->Pq F K ad (frz σ) (ad j b):=λj b o=>by
  obtain⟨h1,h2,h3,its,h4⟩:=x.own j b o
  refine⟨H.pf.fresh h1,λz=>?_,h3⟩
  rcases z with z | ⟨n,z⟩ | ⟨j',b',o',_⟩
  ·obtain⟨m,hm⟩:=x.loc
   exact Zbx hm h4 z.symm
  ·obtain⟨v,hv⟩:=x.cel n _ z
   exact Zbm hv h4 rfl
  ·exact nob _ _ o'
 exact⟨x.gw,
  x.ok,
  x.loc,
  x.cel,
  (λj b h=>absurd h (nob j b)),
  (λj b _ _ h=>absurd h (nob j b)),
  x.kx,
  (λj sl e hne=>by
   unfold frz at e
   rw[List.getElem?_map] at e
   cases e2:σ[j]? with
   | none=>rw[e2] at e;cases e
   | some t=>
    rw[e2] at e
    simp only[Option.map_some,Option.some.injEq] at e
    subst e
    have mm:∀b o,NT o->s.heap.get? b=some o->Pq F K ad σ b->Pq F K ad (frz σ) b∧s.heap.get? b=some o:=λb o _ e p=>⟨pq b p,e⟩
    obtain⟨n,v,h1,h2,h3⟩:=x.vs j t e2 (by rintro rfl;exact hne rfl)
    refine⟨n,v,h1,h2,?_⟩
    cases h3 with
    | fz r=>exact .fz (r.mono mm)
    | own e r l=>exact .fz (.list (po j false ⟨_,e2,rfl⟩) e (r.mono mm) l)
    | own2 d e r e' r' l l'=>
     refine .fz (.list (po j false ⟨_,e2,trivial⟩) e ?_ ?_)
     ·erw[rwl (d ..) (rwl (List.map_append ..) ?_)]
      exact(r.mono mm).snoc (.list (po j true ⟨_,e2,trivial⟩) e' (r'.mono mm) l')
     ·erw[rwl (d ..) ?_];simpa using l
    | app p e=>exact .app (pq _ p) e)⟩
end
end
section
noncomputable def ZoI(F:Fp)(K:Addr->Prop)(ad:Nat->Bool->Addr)(σ:Sg)(s:Shared)(fl:Fl)(σ':Sg)(Q:Flow->Shared->Prop):Prop:=
 match fl with
 | .next=>∀ad' s',Fm F K ad' σ' s'->Stp (Pv F ad σ) (Pv F ad' σ') s.heap s'.heap->Q .next s'
 | .brk=>∀ad' s',Fm F K ad' σ' s'->Stp (Pv F ad σ) (Pv F ad' σ') s.heap s'.heap->Q .brk s'
 | .ret d=>∀v s',Gw F.s0 s'->Ok F.Gd s'->Rd F.P0 s'.heap v d->Q (.ret v) s'
noncomputable def S1(prog:Program)(w:World)(F:Fp)(Γ:ZaC)(fn:Nat->Str)(n N:Nat)(st:S):Prop:=
 ∀(e:Stmt) (K:Addr->Prop) (ad:Nat->Bool->Addr) (σ:Sg) (A:Around) (s:Shared) (E:Value->Shared->Prop) (Q:Flow->Shared->Prop) (fl:Fl) (σ':Sg),
  ms1 F.nm fn F.sc st e=true->Lv A n->Fm F K ad σ s->ex Γ N st σ=some (fl,σ')->ZoI F K ad σ s fl σ' Q->wpAny (model prog w) A (exec e F.env) Q E s
noncomputable def SS(prog:Program)(w:World)(F:Fp)(Γ:ZaC)(fn:Nat->Str)(n N:Nat)(st:S):Prop:=
 ∀(es:List Stmt) (K:Addr->Prop) (ad:Nat->Bool->Addr) (σ:Sg) (A:Around) (s:Shared) (E:Value->Shared->Prop) (Q:Flow->Shared->Prop) (fl:Fl) (σ':Sg),
  ms F.nm fn F.sc st es=true->Lv A n->Fm F K ad σ s->ex Γ N st σ=some (fl,σ')->ZoI F K ad σ s fl σ' Q->wpAny (model prog w) A (execs es F.env) Q E s
section
variable {prog:Program}{w:World}{F:Fp}{K:Addr->Prop}{ad:Nat->Bool->Addr}{σ:Sg}{s:Shared}{mg mb:Str->Option Value}{Γ:ZaC}{fn:Nat->Str}{fa:Nat->Addr}{n N:Nat}{A:Around}{E:Value->Shared->Prop}
theorem ZoI.stp{s₁:Shared}{ad₁:Nat->Bool->Addr}{σ₁:Sg}{fl:Fl}{σ':Sg}{Q:Flow->Shared->Prop}(k:ZoI F K ad σ s fl σ' Q)(t:Stp (Pv F ad σ) (Pv F ad₁ σ₁) s.heap s₁.heap):ZoI F K ad₁ σ₁ s₁ fl σ' Q:=by
 cases fl with
 | next=>exact λad' s' x t'=>k ad' s' x (t.trans t')
 | brk=>exact λad' s' x t'=>k ad' s' x (t.trans t')
 | ret d=>exact k
theorem ZdF(H:Fs F){x:X}(a:All prog w F.base F.Gd Γ F.nm fn n x){e:Expr}{d:D}{Q:Value->Shared->Prop}(hm:mt F.nm fn F.sc true x e=true)(hf:x.fz=true)(L:Lv A n)(f:Fm F K ad σ s)(hv:ev Γ σ x=some d)
  (k:∀v s',Fm F K ad σ s'->Gw s s'->Rd (Pq F K ad σ) s'.heap v d->Q v s'):wpAny (model prog w) A (eval e F.env) Q E s:=
 a.e F.sc true e F.env σ A _ s E Q d hm (f.ZcE H) L f.ok (f.pf H) hv λv s' g o r=>k v s' (f.grow g o) g (r.str hf)
theorem Zne(H:Fs F){x:X}(a:All prog w F.base F.Gd Γ F.nm fn n x){e:Expr}{b:Bool}{Q:Bool->Shared->Prop}(hm:mtT F.nm fn F.sc true x e=true)(L:Lv A n)(f:Fm F K ad σ s)(hv:tv Γ σ x=some b)
  (k:∀s',Fm F K ad σ s'->Gw s s'->Q b s'):wpAny (model prog w) A (isTrue e F.env (eval e F.env)) Q E s:=
 a.t F.sc true e F.env σ A _ s E Q b hm (f.ZcE H) L f.ok (f.pf H) hv λs' g o=>k s' (f.grow g o) g
theorem ZgD(H:Fs F){xs:X}(a:All prog w F.base F.Gd Γ F.nm fn n xs){es:List Expr}{ds:List D}{pos:Pos}{Q:List Value->Shared->Prop}(hm:mtL F.nm fn F.sc true xs es=true)(hf:ZdD xs=true)(L:Lv A n)(f:Fm F K ad σ s)(hv:evL Γ σ xs=some ds)
  (k:∀vs s',Fm F K ad σ s'->Gw s s'->Zad (Pq F K ad σ) s'.heap vs ds->Q vs s'):wpAny (model prog w) A (spliced (backTo pos (starEach es F.env))) Q E s:=
 a.l F.sc true es F.env σ A _ s pos E Q ds hm hf (f.ZcE H) L f.ok (f.pf H) hv λvs s' g o r=>k vs s' (f.grow g o) g r
@[elab_as_elim] theorem ZoN{α:Type}{a:Option α}{f:α->Fl×Sg}{fl:Fl}{σ':Sg}{G:Fl->Sg->Prop}(h:a.map f=some (fl,σ'))(k:∀d,a=some d->G (f d).1 (f d).2):G fl σ':=
 Zdy h λd e q=>(congrArg (λp=>G p.1 p.2) q).mp (k d e)
@[elab_as_elim] theorem ZbI{p:Fl×Sg}{fl:Fl}{σ':Sg}{G:Fl->Sg->Prop}(h:some p=some (fl,σ'))(k:G p.1 p.2):G fl σ':=(congrArg (λp=>G p.1 p.2) (Option.some.inj h)).mp k
@[elab_as_elim] theorem ZfK{i:Nat}{e:Expr}{G:Expr->Prop}(h:tgt F.sc F.nm i e=true)(k:∀y p,F.nm[i]? = some y->(F.sc.names.lookup y=some .local∨F.sc.names.lookup y=some .cell)->G (.Name y p)):G e:=
 Zby (show Zcs _ e=true from h) λy p h=>Zbg h λh1 h2=>k y p (eq_of_beq h1) (or2 h2 (λh=>.inl (eq_of_beq h)) λh=>.inr (eq_of_beq h))
theorem ZqW{i:Nat}{sl:Slot}(hsl:∀b,¬sl.has b){a:Addr}(h:Pv F ad (σ.set i sl) a):Pv F ad σ a:=by
 rcases h with h | h | ⟨j,b,h,e⟩
 ·exact .inl h
 ·exact .inr (.inl h)
 ·rcases ZbH h with⟨_,g⟩ | ⟨_,g⟩
  ·exact absurd g (hsl b)
  ·exact .inr (.inr ⟨j,b,g,e⟩)
theorem Fm.Zh2{Q:Unit->Shared->Prop}(G:Gr F.base mg mb F.Gd)(H:Fs F){i:Nat}{y:Str}{v:Value}{sl:Slot}(hsl:∀b,¬sl.has b)(f:Fm F K ad σ s)(hn:F.nm[i]? = some y)(hk:F.sc.names.lookup y=some .local∨F.sc.names.lookup y=some .cell)
  (hr:Za1 (Pq F K ad (σ.set i sl)) ad i s.heap sl v) (k:∀h' tk,Fm F K ad (σ.set i sl) { s with heap:=h',toks:=tk }->Stp (Pv F ad σ) (Pv F ad (σ.set i sl)) s.heap h'->(∀a,a≠F.env.locals->(∀n c,F.env.cells.lookup n=some c->a≠c)->∀o,s.heap.get? a=some o->h'.get? a=some o)->Q () { s with heap:=h',toks:=tk }) :
  wpAny (model prog w) A (storeName F.env y v) Q E s:=by
 refine Fm.store (K:=K) (sl:=sl) G H f (λa=>⟨.inl,λh=>h.elim id λ⟨b,hb,_⟩=>absurd hb (hsl b)⟩) (λb hb=>absurd hb (hsl b)) (λhb=>absurd hb (hsl _)) hn hk hr λh' tk f' h1 h2=>?_
 refine k h' tk f' ⟨λb o n hz e=>h1 b (λq=>hz (.inl q)) (λn c hc q=>hz (.inr (.inl ⟨n,q▸hc⟩))) o e,h2,λb o e z=>ZqW hsl z⟩ h1
theorem Fm.Zc0{Q:Unit->Shared->Prop}(G:Gr F.base mg mb F.Gd)(H:Fs F){i:Nat}{y:Str}{v:Value}{d:D}(f:Fm F K ad σ s)(hn:F.nm[i]? = some y)(hk:F.sc.names.lookup y=some .local∨F.sc.names.lookup y=some .cell)
  (hr:Rd (Pq F K ad σ) s.heap v d) (k:∀s',Fm F K ad (σ.set i (.fz d)) s'->Stp (Pv F ad σ) (Pv F ad (σ.set i (.fz d))) s.heap s'.heap->Q () s') :
  wpAny (model prog w) A (storeName F.env y v) Q E s:=
 Fm.Zh2 (sl:=.fz d) G H (λ_ h=>h) f hn hk (.fz (hr.mono λ_ _ _ e p=>⟨⟨p.1,λz=>p.2.1 (ZqW (sl:=.fz d) (λ_ h=>h) z),p.2.2⟩,e⟩)) λ_ _ f' t _=>k _ f' t
theorem Zpp{v:Expr}{y:Str}{p:Pos}{line:Nat}(H:Fs F)(h:Zvj F.sc v (.Name y p)=true):swapsWith v (some (.Name y p)) line F.env=pure false:=by
 refine or2 h (λh=>?_) λh=>?_
 ·cases v<;>first | rfl | exact nf h
 ·have hk:F.env.kindOf y=some .cell:=by rw[Env.kindOf,H.scp];exact eq_of_beq (show(F.sc.names.lookup y==some .cell)=true from h)
  have e:(F.env.kindOf y==some NameKind.local)=false:=by rw[hk];rfl
  cases v with
  | ListComp=>show pure _=_;rw[e,Bool.and_false,Bool.false_and,Bool.false_and]
  | SetComp=>show pure _=_;rw[e,Bool.and_false,Bool.false_and,Bool.false_and]
  | DictComp=>show pure _=_;rw[e,Bool.and_false,Bool.false_and,Bool.false_and]
  | _=>rfl
theorem ZsH(G:Gr F.base mg mb F.Gd)(H:Fs F){i:Nat}{x:X}(a:All prog w F.base F.Gd Γ F.nm fn n x):S1 prog w F Γ fn n N (.asg i x):=by
 intro e K ad σ A s E Q fl σ' hm L f hv k
 revert k
 refine ZoN (show(ev Γ σ x).map _=_ from hv) λd hd k=>?_
 refine ZbU (show ZbZ _ e=true from hm) λt v p hm=>ZjH hm λm1 m2 m3 m4=>?_
 revert m4
 refine ZfK m1 λy p hy hk m4=>?_
 refine wpAny_Assign_Name (ZdF H a m3 m2 L f hd λv s₁ f₁ g₁ r=>?_) (Zpp H m4)
 exact f₁.Zc0 G H hy hk r λs₂ f₂ t=>k ad s₂ f₂ (g₁.stp.trans t)
theorem Zsf(H:Fs F){t:X}{a b:S}(at':All prog w F.base F.Gd Γ F.nm fn n t)(ha:SS prog w F Γ fn n N a)(hb:SS prog w F Γ fn n N b):S1 prog w F Γ fn n N (.ifs t a b):=by
 intro e K ad σ A s E Q fl σ' hm L f hv k
 refine Zac (show(tv Γ σ t).bind _=_ from hv) λc hc hv=>?_
 refine ZtA (show ZtT _ e=true from hm) λte ba bb p hm=>Zd3 hm λm1 m2 m3=>?_
 refine wpAny_If (Zne H at' m1 L f hc λs₁ f₁ g₁=>?_)
 cases c with
 | true=>exact ha _ K ad σ A s₁ E Q fl σ' m2 L f₁ hv (k.stp g₁.stp)
 | false=>exact hb _ K ad σ A s₁ E Q fl σ' m3 L f₁ hv (k.stp g₁.stp)
theorem Ztw:S1 prog w F Γ fn n N .brk:=by
 intro e K ad σ A s E Q fl σ' hm L f hv k
 revert k
 exact ZbI hv λk=>ZrP (show ZuG _ e=true from hm) λ_ _=>wpAny_Break (k ad s f (.refl _ _))
theorem ZsA(H:Fs F){t:X}(a:All prog w F.base F.Gd Γ F.nm fn n t):S1 prog w F Γ fn n N (.asr t):=by
 intro e K ad σ A s E Q fl σ' hm L f hv k
 refine Zac (show(tv Γ σ t).bind _=_ from hv) λc hc hv=>?_
 cases c with
 | false=>exact nn hv
 | true=>
  revert k
  exact ZbI hv λk=>ZsT (show Zuc _ e=true from hm) λ_ _ _ hm=>wpAny_Assert_holds (Zne H a hm L f hc λs₁ f₁ g₁=>⟨rfl,k ad s₁ f₁ g₁.stp⟩)
theorem Zth(H:Fs F){x:X}(a:All prog w F.base F.Gd Γ F.nm fn n x):S1 prog w F Γ fn n N (.ret x):=by
 intro e K ad σ A s E Q fl σ' hm L f hv k
 revert k
 refine ZoN (show(ev Γ (frz σ) x).map _=_ from hv) λd hd k=>Ztb (show ZuK _ e=true from hm) λv p hm=>?_
 cases v with
 | none=>exact nf hm
 | some v=>exact Zbg hm λm1 m2=>wpAny_Return_some (ZdF H a m2 m1 L (f.freeze H) hd λv s₁ f₁ g₁ r=>k v s₁ f₁.gw f₁.ok (r.mono λ_ _ _ e p=>⟨p.1,e⟩))
theorem Zql:SS prog w F Γ fn n N .skip:=by
 intro es K ad σ A s E Q fl σ' hm L f hv k
 revert k
 exact ZbI hv λk=>ZcB (show es.isEmpty=true from hm) (wpAny_execs_nil (k ad s f (.refl _ _)))
theorem ZsJ{a b:S}(ha:S1 prog w F Γ fn n N a)(hb:SS prog w F Γ fn n N b):SS prog w F Γ fn n N (.seq a b):=by
 intro es K ad σ A s E Q fl σ' hm L f hv k
 refine Zac (show(ex Γ N a σ).bind _=_ from hv) λr h1 hv=>?_
 obtain⟨f1,σ1⟩:=r
 refine Zrx (show bc _ es=true from hm) λe r hm=>Zbg hm λm1 m2=>wpAny_execs_cons (ha _ K ad σ A s E _ f1 σ1 m1 L f h1 ?_)
 revert k
 cases f1 with
 | next=>exact λk ad₁ s₁ f₁ t=>hb _ K ad₁ σ1 A s₁ E Q fl σ' m2 L f₁ hv (k.stp t)
 | brk=>exact ZbI hv λk=>k
 | ret d=>exact ZbI hv λk=>k
theorem ZsQ(H:Fs F){t:X}{b:S}(at':All prog w F.base F.Gd Γ F.nm fn n t)(hb:SS prog w F Γ fn n N b):S1 prog w F Γ fn n N (.whl t b):=by
 intro e K ad σ A s E Q fl σ' hm L f hv k
 refine Zn3 (show Zln _ e=true from hm) λte ba el p hm=>Zd3 hm λm0 m1 m2=>ZcB m0 ?_
 refine wpAny_While (codeAny_whileLoop (λm s₁=>∃ad₁ σ₁,Fm F K ad₁ σ₁ s₁∧Zbj (λσ=>tv Γ σ t) (ex Γ N b) m σ₁=some (fl,σ')∧ZoI F K ad₁ σ₁ s₁ fl σ' Q) (λm s₁ h=>?_) N ⟨ad,σ,f,hv,k⟩)
 obtain⟨ad₁,σ₁,f₁,hv₁,k₁⟩:=h
 cases m with
 | zero=>exact nn hv₁
 | succ m=>
  refine Zac (show(tv Γ σ₁ t).bind _=_ from hv₁) λc hc hv₁=>?_
  refine Zne H at' m1 L f₁ hc λs₂ f₂ g₂=>?_
  have k₂:=k₁.stp g₂.stp
  cases c with
  | false=>
   revert k₂
   exact ZbI hv₁ λk₂=>wpAny_execs_nil (k₂ ad₁ s₂ f₂ (.refl _ _))
  | true=>
   refine Zac (show(ex Γ N b σ₁).bind _=_ from hv₁) λr h1 hv₁=>?_
   obtain⟨f1,σ1⟩:=r
   refine hb _ K ad₁ σ₁ A s₂ _ _ f1 σ1 m2 L f₂ h1 ?_
   revert k₂
   cases f1 with
   | next=>exact λk₂ ad₃ s₃ f₃ t=>⟨m,Nat.lt_succ_self m,ad₃,σ1,f₃,hv₁,k₂.stp t⟩
   | brk=>exact ZbI hv₁ λk₂=>k₂
   | ret d=>exact ZbI hv₁ λk₂=>k₂
end
end
section
theorem It.go{P P' S:Addr->Prop}{h h':Heap}{I:Addr}{ds:List D}(x:It P S h I ds)(hP:∀a o,NT o->h.get? a=some o->P a->P' a∧h'.get? a=some o)(hS:∀a o,NT o->h.get? a=some o->S a->h'.get? a=some o)(hI:∀o,NT o->h.get? I=some o->h'.get? I=some o):It P' S h' I ds:=by
 cases x with
 | list hi hl hne hs hr=>
  obtain⟨o,e,hc,r⟩:=hi
  obtain⟨n,e2⟩:=hl
  exact .list ⟨o,hI _ (.ZaD hc) e,hc,r⟩ ⟨n,hS _ _ (.ZaD rfl) e2 hs⟩ hne hs (hr.mono hP)
 | range hi=>exact .range (hI _ (.ZaD rfl) hi)
section
variable {prog:Program}{w:World}{F:Fp}{K:Addr->Prop}{ad:Nat->Bool->Addr}{σ:Sg}{s:Shared}{mg mb:Str->Option Value}{Γ:ZaC}{fn:Nat->Str}{fa:Nat->Addr}{n N:Nat}{A:Around}{E:Value->Shared->Prop}
theorem Fm.ZuZ(G:Gr F.base mg mb F.Gd)(H:Fs F){I:Addr}(x:Fm F (λb=>K b∨b=I) ad σ s)(hI : ¬K I){h':Heap}{tk:Tok}(hs:Heap.ExtBut I s.heap h')(ht:1<=tk):Fm F K ad σ { s with heap:=h',toks:=tk }:=⟨(x.ZrB G H (.inr (.inr rfl)) hs ht).1,
(x.ZrB G H (.inr (.inr rfl)) hs ht).2,
(let ⟨m,h⟩:=x.loc;⟨m,ZfW h hs (Ne.symm (x.kx I (.inr rfl)).1)⟩),
(λn c h=>let ⟨v,h'⟩:=x.cel n c h;⟨v,Zb2 h' hs (Ne.symm ((x.kx I (.inr rfl)).2.1 n c h))⟩),
(λi b h=>let ⟨h1,h2,h3,its,h4⟩:=x.own i b h;⟨h1,h2,λz=>h3 (.inl z),its,ZaG h4 hs λq=>h3 (.inr q)⟩),
x.inj,
(λb h=>by
  obtain⟨h1,h2,h3,h4,o,m,n,e⟩:=x.kx b (.inl h)
  exact⟨h1,h2,h3,h4,o,m,n,hs b o (λq=>hI (q▸h)) e⟩),
(λi sl e h=>let ⟨n,v,h1,h2,h3⟩:=x.vs i sl e h
  ⟨n,v,h1,h2.but hs (Ne.symm (x.kx I (.inr rfl)).1) λn c hc=>Ne.symm ((x.kx I (.inr rfl)).2.1 n c hc),h3.mono (λa o _ e p=>⟨⟨p.1,p.2.1,λz=>p.2.2 (.inl z)⟩,hs a o (λq=>p.2.2 (.inr q)) e⟩)
   (λb hb=>⟨rfl,λits h=>ZaG h hs λq=>(x.own i b ⟨sl,e,hb⟩).2.2.1 (.inr q)⟩) λ_ _=>rfl⟩)⟩
theorem Stp.Zu3{Z Z':Addr->Prop}{h h' h'':Heap}{I:Addr}(x:Stp Z Z' h h')(hI:h.get? I=none)(hs:Heap.ExtBut I h' h''):Stp Z Z' h h'':=
 ⟨λb o n z e=>hs b o (λq=>by rw[q,hI] at e;cases e) (x.kp b o n z e),λb o e=>let ⟨o',e'⟩:=x.ex b o e;⟨o',hs b o' (λq=>by rw[q,hI] at e;cases e) e'⟩,x.pv⟩
noncomputable abbrev Zm0(F:Fp)(Γ:ZaC)(N:Nat)(K:Addr->Prop)(I:Addr)(W:Addr->Prop)(i:Nat)(b:S)(Z:Addr->Prop)(h₀:Heap)(r:Option (Fl×Sg))(ad:Nat->Bool->Addr)(σ:Sg)(rem:List D)(s:Shared):Prop:=(Fm F (λb=>K b∨b=I) ad σ s)∧(It (Pq F (λb=>K b∨b=I) ad σ) W s.heap I rem)∧(∀b,W b->b≠I∧¬Pv F ad σ b∧∃ob,s.heap.get? b=some ob)∧(forL i (ex Γ N b) rem σ=r)∧(Stp Z (Pv F ad σ) h₀ s.heap)
theorem Zm0.f{F:Fp}{Γ:ZaC}{N:Nat}{K:Addr->Prop}{I:Addr}{W:Addr->Prop}{i:Nat}{b:S}{Z:Addr->Prop}{h₀:Heap}{r:Option (Fl×Sg)}{ad:Nat->Bool->Addr}{σ:Sg}{rem:List D}{s:Shared}(slf:Zm0 F Γ N K I W i b Z h₀ r ad σ rem s):Fm F (λb=>K b∨b=I) ad σ s:=slf.1
theorem Zm0.it{F:Fp}{Γ:ZaC}{N:Nat}{K:Addr->Prop}{I:Addr}{W:Addr->Prop}{i:Nat}{b:S}{Z:Addr->Prop}{h₀:Heap}{r:Option (Fl×Sg)}{ad:Nat->Bool->Addr}{σ:Sg}{rem:List D}{s:Shared}(slf:Zm0 F Γ N K I W i b Z h₀ r ad σ rem s):It (Pq F (λb=>K b∨b=I) ad σ) W s.heap I rem:=slf.2.1
theorem Zm0.hS{F:Fp}{Γ:ZaC}{N:Nat}{K:Addr->Prop}{I:Addr}{W:Addr->Prop}{i:Nat}{b:S}{Z:Addr->Prop}{h₀:Heap}{r:Option (Fl×Sg)}{ad:Nat->Bool->Addr}{σ:Sg}{rem:List D}{s:Shared}(slf:Zm0 F Γ N K I W i b Z h₀ r ad σ rem s):∀b,W b->b≠I∧¬Pv F ad σ b∧∃ob,s.heap.get? b=some ob:=slf.2.2.1
theorem Zm0.hv{F:Fp}{Γ:ZaC}{N:Nat}{K:Addr->Prop}{I:Addr}{W:Addr->Prop}{i:Nat}{b:S}{Z:Addr->Prop}{h₀:Heap}{r:Option (Fl×Sg)}{ad:Nat->Bool->Addr}{σ:Sg}{rem:List D}{s:Shared}(slf:Zm0 F Γ N K I W i b Z h₀ r ad σ rem s):forL i (ex Γ N b) rem σ=r:=slf.2.2.2.1
theorem Zm0.t{F:Fp}{Γ:ZaC}{N:Nat}{K:Addr->Prop}{I:Addr}{W:Addr->Prop}{i:Nat}{b:S}{Z:Addr->Prop}{h₀:Heap}{r:Option (Fl×Sg)}{ad:Nat->Bool->Addr}{σ:Sg}{rem:List D}{s:Shared}(slf:Zm0 F Γ N K I W i b Z h₀ r ad σ rem s):Stp Z (Pv F ad σ) h₀ s.heap:=slf.2.2.2.2
theorem Zrf(G:Gr F.base mg mb F.Gd)(H:Fs F){i:Nat}{it:X}{b:S}(ai:All prog w F.base F.Gd Γ F.nm fn n it)(hb:SS prog w F Γ fn n N b):S1 prog w F Γ fn n N (.fors i it b):=by
 intro e K ad σ A s E Q fl σ' hm L f hv k
 refine Zac (show((ev Γ σ it).bind itemsOf).bind _=_ from hv) λds hds hv=>?_
 refine ZsM (show ZtW _ e=true from hm) λtg iter ba el pos hm=>Zup hm λm0 m1 m2 m3 m4 m5=>ZcB m0 (ZfK m1 λy p hy hk=>?_)
 obtain⟨_,src⟩:=ai.i F.sc true iter F.env σ A _ s ds m4 (f.ZcE H) L f.ok (f.pf H) hds
 refine wpAny_For (src E _ λI s₁ g₁ o₁ hit hI hbI=>?_) (ZdV m3)
 have nKI : ¬K I:=λz=>by obtain⟨_,_,_,_,o,_,_,e⟩:=f.kx I z;rw[hI] at e;cases e
 have f₁:Fm F (λb=>K b∨b=I) ad σ s₁:=f.Zpk g₁ o₁ hI hbI (let ⟨o,e,m,n⟩:=hit.mut;⟨o,m,n,e⟩)
 refine codeAny_forLoop_any (λm s₂=>∃ad₂ σ₂ rem,m=rem.length∧Zm0 F Γ N K I (λb=>b≠I∧(∃ob,s₁.heap.get? b=some ob)∧(it.fz=true->Pq F K ad σ b)) i b (Pv F ad σ) s.heap (some (fl,σ')) ad₂ σ₂ rem s₂) (λm s₂ h=>?_) ds.length
  ⟨ad,σ,ds,rfl,f₁,hit.excl λa o e p=>⟨p.1.1,p.1.2.1,λz=>z.elim p.1.2.2 p.2⟩,λb hb=>⟨hb.1,(hb.2.2 m2).2.1,hb.2.1⟩,hv,g₁.stp⟩
 obtain⟨ad₂,σ₂,rem,e0,V⟩:=h
 refine wrap V.f.ok.tk ?_
 have hv₂:=V.hv
 cases rem with
 | nil=>
  revert k
  exact ZbI hv₂ λk=>V.it.done L.hd λh' hs ht=>wpAny_execs_nil (k ad₂ _ (V.f.ZuZ (tk:=s₂.toks) G H nKI hs V.f.ok.tk) (V.t.Zu3 hI hs))
 | cons d rem=>
  refine Zac (show(ex Γ N b _).bind _=_ from hv₂) λr h1 hv₂=>?_
  obtain⟨f1,σ1⟩:=r
  refine V.it.next (λz=>z.2.2 (.inr rfl)) λv h' tk rv hit₃ hs ht=>?_
  have f₃:=V.f.Zu4 G H (I:=I) (.inr rfl) hs.extBut (let ⟨o,e,m,n⟩:=hit₃.mut;⟨o,m,n,e⟩) (show 1<=tk from ht)
  have t₃:=V.t.Zu3 hI hs.extBut
  refine wpAny_pure (wpAny_assign_Name (f₃.Zc0 G H hy hk (rv.mono λa o _ e p=>⟨p,hs.extBut a o (λq=>p.2.2 (.inr q)) e⟩) λs₄ f₄ t₄=>?_))
  refine hb _ _ ad₂ _ A s₄ _ _ f1 σ1 m5 L f₄ h1 ?_
  revert k
  cases f1 with
  | next=>
   refine λk ad₅ s₅ f₅ t₅=>⟨rem.length,e0▸Nat.lt_succ_self _,ad₅,σ1,rem,rfl,f₅,?_,λb hb=>?_,hv₂,t₃.trans (t₄.trans t₅)⟩
   ·have t6:=t₄.trans t₅
    refine hit₃.go (λa o n e p=>⟨⟨p.1,λz=>p.2.1 (t6.pv a o e z),p.2.2⟩,t6.kp a o n p.2.1 e⟩) (λa o n e z=>t6.kp a o n (V.hS a z).2.1 e) λo n e=>t6.kp I o n (λz=>?_) e
    rcases z with z | ⟨n',z⟩ | ⟨j,c,z,q⟩
    ·exact(V.f.kx I (.inr rfl)).1 z
    ·exact(V.f.kx I (.inr rfl)).2.1 n' I z rfl
    ·exact(V.f.own j c z).2.2.1 (.inr q.symm)
   ·have t6:=t₄.trans t₅
    obtain⟨h1,h2,ob,h3⟩:=V.hS b hb
    have h3:=hs.extBut b ob h1 h3
    obtain⟨ob',h4⟩:=t6.ex b ob h3
    exact⟨h1,λz=>h2 (t6.pv b ob h3 z),ob',h4⟩
  | brk=>exact ZbI hv₂ λk ad₅ s₅ f₅ t₅=>k ad₅ s₅ (f₅.Zu1 λa h=>.inl h) (t₃.trans (t₄.trans t₅))
  | ret d'=>exact ZbI hv₂ λk=>k
end
end
section
section
variable {prog:Program}{w:World}{F:Fp}{K:Addr->Prop}{ad:Nat->Bool->Addr}{σ:Sg}{s:Shared}{mg mb:Str->Option Value}{Γ:ZaC}{fn:Nat->Str}{fa:Nat->Addr}{n N:Nat}{A:Around}{E:Value->Shared->Prop}
theorem Zlh{i:Nat}{sl:Slot}(hsl:∀b,¬sl.has b){a:Addr}(h:Pq F K ad σ a):Pq F K ad (σ.set i sl) a:=⟨h.1,λz=>h.2.1 (ZqW hsl z),h.2.2⟩
noncomputable def Binds(prog:Program)(w:World)(A:Around)(E:Value->Shared->Prop)(F:Fp)(t:Value->Sem Unit)(i:Nat):Prop:=∃y,F.nm[i]? = some y∧(F.sc.names.lookup y=some .local∨F.sc.names.lookup y=some .cell)∧
 ∀(v:Value) (Q':Unit->Shared->Prop) s',wpAny (model prog w) A (storeName F.env y v) Q' E s'->wpAny (model prog w) A (t v) Q' E s'
inductive Zct (prog:Program) (w:World) (A:Around) (E:Value->Shared->Prop) (F:Fp):List (Value->Sem Unit)->List Nat->Prop
 | nil:Zct prog w A E F [] []
 | cons {t ts i is}:Binds prog w A E F t i->Zct prog w A E F ts is->Zct prog w A E F (t::ts) (i::is)
theorem ZhW(G:Gr F.base mg mb F.Gd)(H:Fs F){Q:Unit->Shared->Prop}{is:List Nat}{ts:List (Value->Sem Unit)}(B:Zct prog w A E F ts is):∀(vs:List Value) (ds:List D) (σ:Sg) (s:Shared),Fm F K ad σ s->Zad (Pq F K ad σ) s.heap vs ds->is.length=ds.length->
  (∀s',Fm F K ad (ZfT σ is ds) s'->Stp (Pv F ad σ) (Pv F ad (ZfT σ is ds)) s.heap s'.heap->Q () s')->wpAny (model prog w) A (assignInOrder ts vs) Q E s:=by
 induction B with
 | nil=>
  intro vs ds σ s f r hl k
  have hd:ds=[]:=List.length_eq_zero_iff.mp hl.symm
  rw[hd] at r
  erw[rwl (r.nil_inv ..) ?_]
  exact wpAny_pure (k s f (.refl _ _))
 | @cons t ts i is b B ih=>
  intro vs ds σ s f r hl k
  cases ds with
  | nil=>exact absurd hl (Nat.succ_ne_zero _)
  | cons d ds=>
   refine r.Zd0 λv vs r rs=>?_
   obtain⟨y,hy,hk,hst⟩:=b
   show wpAny (model prog w) A (do holding vs (t v);assignInOrder ts vs) Q E s
   refine wpAny_bind (wpAny_holding (hst v _ s (Fm.Zh2 (sl:=.fz d) G H (λ_ h=>h) f hy hk (.fz (r.mono λa o _ e p=>⟨Zlh (sl:=.fz d) (λ_ h=>h) p,e⟩)) λh' tk f' t' keep=>?_)))
   exact ih vs ds _ _ f' (rs.mono λa o _ e p=>⟨Zlh (sl:=.fz d) (λ_ h=>h) p,keep a (λq=>p.2.1 (.inl q)) (λn c hc q=>p.2.1 (.inr (.inl ⟨n,q▸hc⟩))) o e⟩) (Nat.succ.inj hl) λs' f'' t''=>k s' f'' (t'.trans t'')
theorem Zgj:∀{is:List Nat} {ts:List Expr},Zr9 F.sc F.nm is ts=true->(assignEach ts F.env).length=is.length∧(assignEach ts F.env).findIdx? (·.1)=none∧Zct prog w A E F ((assignEach ts F.env).map (·.2)) is
 | [],_,h=>ZcB (G:=λts=>(assignEach ts F.env).length=0∧(assignEach ts F.env).findIdx? (·.1)=none∧Zct prog w A E F ((assignEach ts F.env).map (·.2)) []) h ⟨rfl,rfl,.nil⟩
 | i::is,_,h=>by
  refine Zrx (show bc _ _=true from h) λe es h=>Zbg h λm1 m2=>ZfK m1 λy p hy hk=>?_
  obtain⟨h1,h2,h3⟩:=Zgj m2
  have e1:assignEach (.Name y p::es) F.env=(false,assign (.Name y p) F.env)::assignEach es F.env:=rfl
  erw[rwl (e1 ..) ?_]
  exact⟨congrArg Nat.succ h1,by erw[rwl (List.findIdx?_cons ..) (rwl (h2 ..) ?_)];rfl,.cons ⟨y,hy,hk,λv Q' s' hq=>wpAny_assign_Name hq⟩ h3⟩
theorem ZmT{ts:List Expr}{v:Expr}{k:Nat}{tp:Pos}{env:Env}(h:Zpe v=true):swappedStores [.Tuple ts k tp] v env=pure none:=by
 cases v<;>first | rfl | exact nf h
theorem Zf9{t v:Expr}{line:Nat}{env:Env}(h:Zgp v=true):swapsWith v (some t) line env=pure false:=by
 cases v<;>first | rfl | exact nf h
theorem Zr8(G:Gr F.base mg mb F.Gd)(H:Fs F){is:List Nat}{x:X}(a:All prog w F.base F.Gd Γ F.nm fn n x):S1 prog w F Γ fn n N (.unp is x):=by
 intro e K ad σ A s E Q fl σ' hm L f hv k
 refine Zac (show(ev Γ σ x).bind _=_ from hv) λd hd hv=>?_
 revert hd k
 refine ZoN hv λds hds=>Zo0 (show Zrr _ d=_ from hds) λl hds=>ifS hds λhl hds k hd=>?_
 rw[Option.some.inj hds] at hl hd
 refine ZbU (show ZbZ _ e=true from hm) λtt v p hm=>Zjp hm λts kk tp hm=>Zm4 hm λm1 m2 m3 m4 m5=>?_
 obtain⟨h1,h2,h3⟩:=Zgj (prog:=prog) (w:=w) (A:=A) (E:=E) m1
 refine PyProof.Rows.Assign_Tuple (ZdF H a m5 m4 L f hd λv s₁ f₁ g₁ r=>?_) (by show swapsWith v (some (.Tuple ts kk tp)) p.line F.env=pure false;exact Zf9 m3) (ZmT m2)
 refine r.Zc1 λt vs _ ht rv _=>?_
 refine wpAny_assign_Tuple L.hd ht.isTuple (by erw[rwl (h1 ..) (rwl (List.size_toArray ..) (rwl (rv.length ..) (rwl (hl ..) ?_)))]) h2 λh' hs=>?_
 have kk:∀b o,s₁.heap.get? b=some o->h'.get? b=some o:=λb o e=>hs b o (Nat.ne_of_lt (Heap.lt_size e)) e
 have g₂:Gw s₁ { s₁ with heap:=h' }:=.of_keep (tk:=s₁.toks) kk
 exact ZhW G H h3 _ ds σ _ (f₁.grow g₂ ⟨G.keeps f₁.ok.gd kk,f₁.ok.tk⟩) (rv.kp g₂.kp) hl.symm λs₃ f₃ t₃=>k ad s₃ f₃ ((g₁.stp.trans g₂.stp).trans t₃)
theorem ZnR(H:Fs F):(F.env.blockKind != .function)=false:=by
 have:F.env.scope.kind=.function:=by erw[rwl (H.scp ..) ?_];exact H.kf
 unfold Env.blockKind
 erw[rwl (this ..) ?_];rfl
theorem Ze7{x:Expr}(h:Zai x=true):(match (generalizing:=false) x with | .Starred ..=>true | _=>false)=false:=by
 cases x<;>first | rfl | exact nf h
theorem Zm9{a b:Str}(h:(a != b)=true):[a,b].eraseDups=[a,b]:=by
 have e:(b==a)=false:=beq_eq_false_iff_ne.mpr (Ne.symm (bne_iff_ne.mp h))
 erw[rwl (List.eraseDups_cons ..) (rwl (List.filter_cons ..) (rwl (e ..) (rwl (List.filter_nil ..) ?_)))]
 exact(congrArg (a::·) List.eraseDups_cons).trans rfl
theorem Zoj(H:Fs F){ts es:List Expr}{G:List Expr->List Expr->Prop}(h:ZrX F.sc ts es=true)(kk:∀a p b q x y,(∀k tp k2 ep,swappedStores [.Tuple [.Name a p,.Name b q] k tp] (.Tuple [x,y] k2 ep) F.env=pure (some [a,b]))->G [.Name a p,.Name b q] [x,y]):G ts es:=by
 refine ZkK (show b2 _ ts=true from h) λt u h=>ZkK (G:=λes=>G [t,u] es) h λx y h=>Zby (G:=λt=>G [t,u] [x,y]) h λa p h=>Zby (G:=λu=>G [.Name a p,u] [x,y]) h λb q h=>?_
 refine Zvg h λh1 h2 h3 h4 h5 h6 h7 h8=>kk a p b q x y λk tp k2 ep=>?_
 have ka:F.env.kindOf a=some .local:=by rw[Env.kindOf,H.scp];exact eq_of_beq h1
 have kb:F.env.kindOf b=some .local:=by rw[Env.kindOf,H.scp];exact eq_of_beq h2
 clear h kk
 refine(if_neg (λh=>or2 h (λh=>nf h) λh=>nf ((ZnR H).symm.trans h))).trans ((if_neg ?_).trans ?_)
 ·exact λh=>or2 h (λh=>nf ((Ze7 h7).symm.trans h)) λh=>or2 h (λh=>nf ((Ze7 h8).symm.trans h)) λh=>nf h
 dsimp only
 generalize hn:List.filterMap (_:Expr->Option Str) _=nm
 have e:nm=[a,b]:=by
  refine hn.symm.trans ((List.filterMap_cons_some (b:=a) ?_).trans (congrArg (a::·) ((List.filterMap_cons_some (b:=b) ?_).trans rfl)))
  ·exact if_pos (by rw[ka];exact beq_self_eq_true p.line)
  ·exact if_pos (by rw[kb,←eq_of_beq h3];exact beq_self_eq_true p.line)
 rw[e]
 exact(if_neg (λh=>or2 h (λh=>nf h) λh=>nf ((by rw[Zm9 h4];rfl:([a,b].eraseDups.length != [a,b].length)=false).symm.trans h))).trans ((if_neg (ne_true_of_eq_false (ZfN h5))).trans (if_neg (ne_true_of_eq_false (ZfN h6))))
theorem Zad.reverse{P:Addr->Prop}{h:Heap}{vs:List Value}{ds:List D}(r:Zad P h vs ds):Zad P h vs.reverse ds.reverse:=
 r.ind (m:=λvs ds=>Zad P h vs.reverse ds.reverse) .nil λv vs d ds a _ ih=>by erw[rwl (List.reverse_cons ..) (rwl (List.reverse_cons ..) ?_)];exact ih.snoc a
theorem ZqK(G:Gr F.base mg mb F.Gd)(H:Fs F){is:List Nat}{xs:X}(a:All prog w F.base F.Gd Γ F.nm fn n xs):S1 prog w F Γ fn n N (.unpS is xs):=by
 intro e K ad σ A s E Q fl σ' hm L f hv k
 revert k
 refine Zac (show(evL Γ σ xs).bind _=_ from hv) λds hds hv=>ifS hv λhl hv=>ZbI hv λk=>?_
 refine ZbU (show ZbZ _ e=true from hm) λtt v p hm=>Zjp hm λts kk tp hm=>Zjp hm λes k2 ep hm=>ZjH hm λm1 m2 m3 m4=>?_
 revert m1 m4
 refine Zoj (G:=λts es=>Zr9 F.sc F.nm is ts=true->mtL F.nm fn F.sc true xs es=true->wpAny (model prog w) A (exec (.Assign [.Tuple ts kk tp] (.Tuple es k2 ep) p) F.env) Q E s) H m2 λya pa yb pb ex ey hsw m1 m4=>?_
 obtain⟨_,_,B⟩:=Zgj (prog:=prog) (w:=w) (A:=A) (E:=E) m1
 have e1:assignEach [.Name ya pa,.Name yb pb] F.env=[(false,assign (.Name ya pa) F.env),(false,assign (.Name yb pb) F.env)]:=rfl
 cases is with
 | nil=>exact nf m1
 | cons i is=>
 cases is with
 | nil=>exact Zbg (show(tgt F.sc F.nm i (.Name ya pa)&&false)=true from m1) λ_ h=>nf h
 | cons j is=>
 cases is with
 | cons=>exact Zbg (show(tgt F.sc F.nm i (.Name ya pa)&&(tgt F.sc F.nm j (.Name yb pb)&&false))=true from m1) λ_ h=>Zbg h λ_ h=>nf h
 | nil=>
 have nmy:∀{y p i},tgt F.sc F.nm i (.Name y p)=true->Binds prog w A E F (λv=>bindName F.env y v) i:=λ{y p i} m=>Zbg (show(F.nm[i]?==some y&&_)=true from m) λh1 h2=>
  ⟨y,eq_of_beq h1,or2 h2 (λh=>.inl (eq_of_beq h)) (λh=>.inr (eq_of_beq h)),λv Q' s' hq=>wpAny_bindName hq⟩
 have B2:Zct prog w A E F [λv=>bindName F.env yb v,λv=>bindName F.env ya v] [j,i]:=Zbg (show(tgt F.sc F.nm i (.Name ya pa)&&(tgt F.sc F.nm j (.Name yb pb)&&true))=true from m1) λha h=>Zbg h λhb _=>.cons (nmy hb) (.cons (nmy ha) .nil)
 refine PyProof.Rows.Assign_Tuple_swapped (names:=[ya,yb]) ?_ rfl (hsw _ _ _ _)
 refine PySem.wpAny_Tuple_spliced (ZgD H a m4 m3 L f hds λvs s₁ f₁ g₁ r=>⟨by erw[rwl (r.length ..) (rwl (hl ..) ?_)];exact Nat.le_of_ble_eq_true rfl,?_⟩)
 have kk:∀b ob,s₁.heap.get? b=some ob->(s₁.heap.push { cls:=.type "tuple",data:=.seq vs.toArray }).get? b=some ob:=λ_ _ e=>Heap.get?_push_of_some _ e
 have hT:(s₁.heap.push { cls:=.type "tuple",data:=.seq vs.toArray }).IsTuple s₁.heap.objs.size vs.toArray:=⟨_,Heap.get?_push_size _ rfl,rfl,0,rfl⟩
 have e3:([ya,yb]:List Str).length=vs.toArray.size:=by erw[rwl (List.size_toArray ..) (rwl (r.length ..) (rwl (hl ..) ?_))];rfl
 erw[rwl (e3 ..) ?_]
 refine wpAny_unpackItems_tuple L.hd hT λh' hs=>?_
 have k3:∀b ob,s₁.heap.get? b=some ob->h'.get? b=some ob:=λb ob e=>hs b ob (Nat.ne_of_lt (Heap.lt_size (kk b ob e))) (kk b ob e)
 have g₂:Gw s₁ { s₁ with heap:=h' }:=.of_keep (tk:=s₁.toks) k3
 exact ZhW G H B2 _ ds.reverse σ _ (f₁.grow g₂ ⟨G.keeps f₁.ok.gd k3,f₁.ok.tk⟩) (r.kp g₂.kp).reverse (by erw[rwl (List.length_reverse ..) (rwl (hl ..) ?_)];rfl) λs₃ f₃ t₃=>k ad s₃ f₃ ((g₁.stp.trans g₂.stp).trans t₃)
end
end
section
set_option backward.match.sparseCases false
theorem Zhc{prog:Program}{w:World}{A:Around}{E:Value->Shared->Prop}{s:Shared}{Q:Value->Shared->Prop}{env:Env}{n:Str}{v:Value}(hk:env.scope.kind=.function)(x:Zb0 env s.heap n v)(hc:n≠("__classdict__" : Str))(h:Q v s):wpAny (model prog w) A (loadName env n) Q E s:=by
 rcases x with⟨hl,m,hn,e⟩ | ⟨hl,c,e,hcell⟩
 ·exact wpAny_loadName_local hk hl hn e h
 ·rcases hl with hl | hl
  ·exact wpAny_loadName_cell hk hl e hcell h
  ·exact wpAny_loadName_free hk hl e hcell h (beq_eq_false_iff_ne.mpr hc)
noncomputable def Za1.View(P:Addr->Prop)(ad:Nat->Bool->Addr)(i:Nat)(h:Heap)(v:Value):Slot->Prop
 | .fz d=>Rd P h v d
 | .own ds=>v=.ref (ad i false)∧∃vs:List Value,h.PlainList (ad i false) vs.toArray∧Zad P h vs ds∧ds.length<=sizeLine
 | .own2 dss=>v=.ref (ad i false)∧∃(vs ws:List Value) (pre:List (List D)) (l:List D),dss=pre++[l]∧h.PlainList (ad i false) (vs++[Value.ref (ad i true)]).toArray∧Zad P h vs (pre.map .list)∧h.PlainList (ad i true) ws.toArray∧Zad P h ws l∧pre.length+1<=sizeLine∧l.length<=sizeLine
 | .app j=>∃g,v=.ref g∧P g∧h.get? g=some (Zca (ad j false))
 | _=>True
theorem Za1.view{P:Addr->Prop}{ad:Nat->Bool->Addr}{i:Nat}{h:Heap}{sl:Slot}{v:Value}(x:Za1 P ad i h sl v):Za1.View P ad i h v sl:=by
 cases x with
 | fz r=>exact r
 | own a b c=>exact⟨rfl,_,a,b,c⟩
 | own2 d a b c e l m=>exact⟨rfl,_,_,_,_,d,a,b,c,e,l,m⟩
 | app p g=>exact⟨_,rfl,p,g⟩
section
variable {prog:Program}{w:World}{F:Fp}{K:Addr->Prop}{ad:Nat->Bool->Addr}{σ:Sg}{s:Shared}{mg mb:Str->Option Value}{Γ:ZaC}{fn:Nat->Str}{fa:Nat->Addr}{n N:Nat}{A:Around}{E:Value->Shared->Prop}
theorem ZfA(H:Fs F):F.env.scope.kind=.function:=by erw[rwl (H.scp ..) ?_];exact H.kf
theorem Fm.look(H:Fs F)(f:Fm F K ad σ s){i:Nat}{e:Expr}{sl:Slot}{Q:Value->Shared->Prop}(he:σ[i]? = some sl)(hne:sl≠.un)(hm:isNm F.nm i e=true)
  (k:∀v,Za1.View (Pq F K ad σ) ad i s.heap v sl->Q v s):wpAny (model prog w) A (eval e F.env) Q E s:=
 Zlz hm λy p hy h1 h2=>by
  obtain⟨y',v,hy',hv,hr⟩:=f.vs i sl he hne
  rw[hy] at hy'
  rw[←Option.some.inj hy'] at hv
  exact Zcu (ZfA H) hv h1 h2 (k v hr.view)
theorem Zcg{i:Nat}{ds:List D}(h:ownOf σ i=some ds):σ[i]? = some (.own ds):=by
 unfold ownOf at h
 revert h
 cases σ[i]? with
 | none=>exact λh=>nn h
 | some sl=>
  cases sl with
  | own l=>exact λh=>congrArg (λl=>some (Slot.own l)) (Option.some.inj h)
  | _=>exact λh=>nn h
theorem Zfc{i:Nat}{ds:List (List D)}(h:Zdk σ i=some ds):σ[i]? = some (.own2 ds):=by
 unfold Zdk at h
 revert h
 cases σ[i]? with
 | none=>exact λh=>nn h
 | some sl=>
  cases sl with
  | own2 l=>exact λh=>congrArg (λl=>some (Slot.own2 l)) (Option.some.inj h)
  | _=>exact λh=>nn h
theorem Zkl{j i:Nat}(h:Zh9 σ j i=true):σ[j]? = some (.app i):=by
 unfold Zh9 at h
 revert h
 cases σ[j]? with
 | none=>exact λh=>nf h
 | some sl=>
  cases sl with
  | app l=>exact λh=>congrArg (λl=>some (Slot.app l)) (eq_of_beq h)
  | _=>exact λh=>nf h
theorem Fm.ZrA(f:Fm F K ad σ s){i:Nat}{ds:List D}(e:ownOf σ i=some ds):∃vs:List Value,s.heap.PlainList (ad i false) vs.toArray∧Zad (Pq F K ad σ) s.heap vs ds∧ds.length<=sizeLine:=
 let ⟨_,_,_,_,hr⟩:=f.vs i _ (Zcg e) Slot.noConfusion
 hr.view.2
theorem Fm.ZkC(H:Fs F)(f:Fm F K ad σ s){i:Nat}{ds:List D}{e:Expr}{Q:Value->Shared->Prop}(h:ownOf σ i=some ds)(hm:isNm F.nm i e=true)
  (k:∀vs:List Value,s.heap.PlainList (ad i false) vs.toArray->Zad (Pq F K ad σ) s.heap vs ds->ds.length<=sizeLine->Q (.ref (ad i false)) s):wpAny (model prog w) A (eval e F.env) Q E s:=
 f.look H (Zcg h) Slot.noConfusion hm λ_ r=>let ⟨x,vs,a,b,c⟩:=r;x▸k vs a b c
theorem Stp.own{a:Addr}{h h':Heap}{σ':Sg}(ha:Pv F ad σ a)(hs:Heap.ExtBut a h h')(hx:∃o,h'.get? a=some o)(hp:∀b,Pv F ad σ' b->Pv F ad σ b):Stp (Pv F ad σ) (Pv F ad σ') h h':=
 ⟨λb o _ z e=>hs b o (λq=>z (q▸ha)) e,λb o e=>(Decidable.em (b=a)).elim (λq=>q▸hx) λq=>⟨o,hs b o q e⟩,λb _ _ z=>hp b z⟩
theorem ZoL{i:Nat}{sl sl':Slot}(e:σ[i]? = some sl)(hs:∀b,sl'.has b->sl.has b){a:Addr}(h:Pv F ad (σ.set i sl') a):Pv F ad σ a:=by
 rcases h with h | h | ⟨j,b,h,q⟩
 ·exact .inl h
 ·exact .inr (.inl h)
 ·rcases ZbH h with⟨r,g⟩ | ⟨_,g⟩
  ·exact .inr (.inr ⟨i,b,⟨sl,e,hs b g⟩,r▸q⟩)
  ·exact .inr (.inr ⟨j,b,g,q⟩)
theorem Fm.Zgg(G:Gr F.base mg mb F.Gd)(H:Fs F)(f:Fm F K ad σ s){i:Nat}{ds ds':List D}{vs':List Value}{h':Heap}(e:ownOf σ i=some ds)(hs:Heap.ExtBut (ad i false) s.heap h')(hp:h'.PlainList (ad i false) vs'.toArray)
  (hr:Zad (Pq F K ad σ) s.heap vs' ds') (hl:ds'.length<=sizeLine):Fm F K ad (σ.set i (.own ds')) { s with heap:=h' }∧Stp (Pv F ad σ) (Pv F ad (σ.set i (.own ds'))) s.heap h':=
 ⟨f.Zv0 (tk:=s.toks) G H (Zcg e) hs f.ok.tk hp hr hl,.own (a:=ad i false) (.inr (.inr ⟨i,false,⟨_,Zcg e,rfl⟩,rfl⟩)) hs ⟨_,hp.choose_spec⟩ λb z=>ZoL (sl':=.own ds') (Zcg e) (λ_ h=>h) z⟩
theorem ZoI.own{s₁ s₂:Shared}{i:Nat}{ds':List D}{Q:Flow->Shared->Prop}(k:ZoI F K ad σ s .next (σ.set i (.own ds')) Q)(t:Stp (Pv F ad σ) (Pv F ad σ) s.heap s₁.heap)(x:Fm F K ad (σ.set i (.own ds')) s₂∧Stp (Pv F ad σ) (Pv F ad (σ.set i (.own ds'))) s₁.heap s₂.heap):Q .next s₂:=k ad _ x.1 (t.trans x.2)
theorem Ze1(H:Fs F):interactive F.env=false:=by
 unfold interactive;erw[rwl (ZfA H ..) ?_];rfl
theorem Zdw (H : Fs F) {o a : Expr} {ap pos p : Pos} {Q : Flow → Shared → Prop} (m2 : ZeR o = true) (m3 : (ap.endLine == pos.line) = true) (m4 : Zai a = true) (h : wpAny (model prog w) A (eval o F.env) (fun ov s₁ => ∃ D its, ov = .ref D ∧ PlainL s₁.heap D its ∧
      wpAny (model prog w) A (eval a F.env) (λy s₂=>wpAny (model prog w) A (call (.builtin "list.append") [.ref D,y]) (λ_=>Q .next) E s₂) E s₁) E s):wpAny (model prog w) A (exec (.Expr (.Call (.Attribute o "append" ap) [a] [] pos) p) F.env) Q E s:=
  wpAny_Expr_any (wpAny_Call_append (ZaQ m2) (by erw[rwl (Zab m4 ..) ?_];rfl) m3 (by erw[rwl (Zab m4 ..) ?_];rfl) h) (Ze1 H) rfl
theorem Zmu{h:Heap}{a:Addr}{its:Array Value}(x:h.PlainList a its):PlainL h a its:=let ⟨n,e⟩:=x;⟨_,n,e,rfl,rfl,rfl⟩
theorem ZsD(G:Gr F.base mg mb F.Gd)(H:Fs F){i:Nat}{x:X}(a:All prog w F.base F.Gd Γ F.nm fn n x):S1 prog w F Γ fn n N (.app i x):=by
 intro e K ad σ A s E Q fl σ' hm L f hv k
 revert k
 refine Zac (show(ownOf σ i).bind _=_ from hv) λds hds hv=>Zac hv λd hd hv=>ifS hv λhl hv=>ZbI hv λk=>?_
 refine ZlR (show qES _ e=true from hm) λv p hm=>Zbz hm λo ap as pos m2 m3 hm=>ZfO hm λa' hm=>ZjH hm λm1 m4 m5 m6=>?_
 refine Zdw H m2 m3 m4 (f.ZkC H hds m1 λvs hp _ _=>⟨_,_,rfl,Zmu hp,ZdF H a m6 m5 L f hd λv s₁ f₁ g₁ r=>?_⟩)
 obtain⟨vs,hp₁,hr₁,hz₁⟩:=f₁.ZrA hds
 exact wpAny_list_append_plain hp₁ (λh' hp' hs=>k.own g₁.stp (f₁.Zgg G H (vs':=vs++[v]) hds hs.extBut (List.push_toArray ..▸hp') (hr₁.snoc r) hl)) (Nat.le_trans (Nat.le_of_eq hr₁.length) hz₁)
theorem Zld{e:Expr}{s:Shared}{env:Env}{Q:Value->Shared->Prop}(h:ZtN e=true)(ht:1<=s.toks)(k:∀t tk,1<=tk->Q (.int (-1) t) { s with toks:=tk }):wpAny (model prog w) A (eval e env) Q E s:=
 Zfx (show Zlm _ _ e=true from h) λ_ _ h=>Zom h λ_ _=>wpAny_UnaryOp (wpAny_Constant_int (PyProof.Rows.neg_int (k _ _ (Nat.le_succ_of_le (Nat.le_succ_of_le ht)))))
theorem Zkn{e:Expr}(h:ZtN e=true):Zai e=true:=Zfx (show Zlm _ _ e=true from h) λ_ _ _=>rfl
@[elab_as_elim] theorem ZmO{m:Nat}{d:D}{j:Nat}{G:D->Nat->Prop}(h:ZnS m d=some j)(k:∀z:Int,0<=z->z < m->G (.int z) z.toNat):G d j:=
 Za2 (G:=λd=>G d j) (show intD _ d=_ from h) λz h=>ifS h λc h=>eqs (G:=G (.int z)) h (k z c.1 c.2)
theorem ZmN{z:Int}{l m:Nat}(hm:m=l)(hl:l<=16777216)(h1:z < l):z < 2 ^ 63∧z < m:=⟨by lia,hm▸h1⟩
theorem ZsU{l:List Value}{i:Nat}{v:Value}:l.toArray.setIfInBounds i v=(l.set i v).toArray:=List.setIfInBounds_toArray ..
theorem ZoT{h:Heap}{a:Addr}{vs:List Value}{i:Nat}{v:Value}(x:h.PlainList a vs.toArray):(h.update a (Obj.mapSeq (·.setIfInBounds i v))).PlainList a (vs.set i v).toArray:=let ⟨_,e⟩:=x;⟨_,by rw[←ZsU];exact PySem.IsL.update e _⟩
theorem Zpn(G:Gr F.base mg mb F.Gd)(H:Fs F){i:Nat}{kx vx:X}(ak:All prog w F.base F.Gd Γ F.nm fn n kx)(av:All prog w F.base F.Gd Γ F.nm fn n vx):S1 prog w F Γ fn n N (.setI i kx vx):=by
 intro e K ad σ A s E Q fl σ' hm L f hv k
 revert k
 refine Zac (show(ownOf σ i).bind _=_ from hv) λds hds hv=>Zac hv λd hd hv=>Zac hv λz hz hv=>Zac hv λj hj hv=>ifS hv λhl hv=>ZbI hv λk=>?_
 revert hz hl k
 refine ZmO hj λzi hz0 hz1 hz hl k=>?_
 refine ZbU (show ZbZ _ e=true from hm) λt ve p hm=>Zge hm λo ke sp hm=>ZtV hm λm1 m2 m3 m4 m5 m6 m7=>?_
 refine wpAny_Assign_Subscript (ZdF H av m7 m5 L f hd λv s₁ f₁ g₁ r=>f₁.ZkC H hds m1 λ_ _ _ _=>ZdF H ak m6 m4 L f₁ hz λkv s₂ f₂ g₂ rk=>rk.Za0 λt=>?_) (Zf9 m2)
 obtain⟨vs,hp₁,hr₁,hz₁⟩:=f₂.ZrA hds
 have q:=ZmN hr₁.length hz₁ hz1
 exact ki_setAt hp₁.choose_spec hz0 q.1 q.2 (k.own (g₁.stp.trans g₂.stp) (f₂.Zgg G H hds (Heap.SameBut.update ..).extBut (ZoT hp₁) (hr₁.set _ (r.kp g₂.kp)) hl))
theorem Znn{l:List Value}{i:Nat}:l.toArray.eraseIdxIfInBounds i=(l.eraseIdx i).toArray:=List.eraseIdxIfInBounds_toArray ..
theorem ZsS{z:Int}{m:Nat}(h:0<=z)(h1:z < m):seqIndex? z m=some z.toNat:=by
 unfold seqIndex?
 show(if(decide (0<=(if z < 0 then z+m else z))&&decide ((if z < 0 then z+m else z) < m))=true then some ((if z < 0 then z+m else z).toNat) else none)=_
 erw[rwl (if_neg (Int.not_lt.mpr h) ..) (rwl (decide_eq_true h ..) (rwl (decide_eq_true h1 ..) ?_))]
 rfl
theorem Zq6(G:Gr F.base mg mb F.Gd)(H:Fs F){i:Nat}{kx:X}(ak:All prog w F.base F.Gd Γ F.nm fn n kx):S1 prog w F Γ fn n N (.delI i kx):=by
 intro e K ad σ A s E Q fl σ' hm L f hv k
 revert k
 refine Zac (show(ownOf σ i).bind _=_ from hv) λds hds hv=>Zac hv λz hz hv=>Zac hv λj hj hv=>ifS hv λhl hv=>ZbI hv λk=>?_
 revert hz hl k
 refine ZmO hj λzi hz0 hz1 hz hl k=>?_
 refine Zte (show ZuI _ e=true from hm) λts p hm=>ZfO hm λt hm=>Zge hm λo ke sp hm=>ZjH hm λm1 m2 m3 m4=>?_
 refine wpAny_Delete (wpAny_deleteEach_cons (wpAny_delete_Subscript (f.ZkC H hds m1 λ_ _ _ _=>ZdF H ak m4 m3 L f hz λkv s₂ f₂ g₂ rk=>rk.Za0 λt=>?_)))
 obtain⟨vs,hp₁,hr₁,hz₁⟩:=f₂.ZrA hds
 have q:=ZmN hr₁.length hz₁ hz1
 exact wpAny_delItem_plain (k:=zi.toNat) hp₁ (fitsIndex_of hz0 q.1) (ZsS hz0 q.2) (λh' hp' hs=>wpAny_deleteEach_nil (k.own g₂.stp (f₂.Zgg G H hds hs.extBut (Znn▸hp') (hr₁.eraseIdx _) hl))) (Nat.le_trans (Nat.le_of_eq hr₁.length) hz₁)
end
end
section
section
variable {prog:Program}{w:World}{F:Fp}{K:Addr->Prop}{ad:Nat->Bool->Addr}{σ:Sg}{s:Shared}{mg mb:Str->Option Value}{Γ:ZaC}{fn:Nat->Str}{fa:Nat->Addr}{n N:Nat}{A:Around}{E:Value->Shared->Prop}
theorem Zr0{op:Bop}{a b d:D}{va vb:Value}{P:Addr->Prop}{Gd:Heap->Prop}{Q:Value->Shared->Prop}(o:Ok Gd s)(ra:Rd P s.heap va a)(rb:Rd P s.heap vb b)(h:Zop op a b=some d)(k:Kc Gd P d Q s) :
  wpAny (model prog w) A (inplaceOp op.op va vb) Q E s:=by
 cases op with
 | add=>
  cases a with
  | int a=>
   revert rb k
   exact Za2 (show intD _ b=_ from h) λb h=>eqs h λrb k=>ra.Za0 λ_=>rb.Za0 λ_=>PyProof.Rows.iadd_int (k.ZkI o (.int _ _))
  | str a=>
   revert rb k
   refine ZbG (show Zd2 _ b=_ from h) λb h=>ZpI h λhl rb k=>ra.Zba λ_ la=>rb.Zba λ_ lb=>wrap o.tk ?_
   refine PyProof.Rows.iadd_str (λt' tk ht=>k.tok o ht (ZgT (ZcQ ..) hl)) ?_
   erw[rwl (str_len ..) (rwl (str_len ..) (rwr (List.length_append ..) ?_))];exact hl
  | _=>exact nn h
 | sub=>
  revert ra rb k
  exact Za2 (show intD _ a=_ from h) λa h=>Za2 h λb h=>eqs h λra rb k=>ra.Za0 λ_=>rb.Za0 λ_=>PyProof.Rows.isub_int (k.ZkI o (.int _ _))
 | _=>exact nn h
theorem Zqy{i:Nat}{d:D}(h:rd σ i=some d):σ[i]? = some (.fz d):=by
 unfold rd at h
 revert h
 cases σ[i]? with
 | none=>exact λh=>nn h
 | some sl=>
  cases sl with
  | fz l=>exact λh=>congrArg (λl=>some (Slot.fz l)) (Option.some.inj h)
  | _=>exact λh=>nn h
theorem Zs7(G:Gr F.base mg mb F.Gd)(H:Fs F){i:Nat}{op:Bop}{x:X}(a:All prog w F.base F.Gd Γ F.nm fn n x):S1 prog w F Γ fn n N (.aug i op x):=by
 intro e K ad σ A s E Q fl σ' hm L f hv k
 revert k
 refine Zac (show(rd σ i).bind _=_ from hv) λd0 hd0 hv=>Zac hv λd1 hd1 hv=>ZoN hv λd hd k=>?_
 refine Zpi (show Zsx _ e=true from hm) λt o v p hm=>Zm4 hm λm3 m1 m2 m4 m5=>?_
 revert m2
 refine eqb m3 (ZfK m1 λy p hy hk m2=>?_)
 obtain⟨y2,v0,hy2,hv0,hr0⟩:=f.vs i _ (Zqy hd0) Slot.noConfusion
 rw[hy] at hy2
 rw[←Option.some.inj hy2] at hv0
 refine wpAny_AugAssign_Name (Zhc (ZfA H) hv0 (bne_iff_ne.mp (Za7 (show(_&&(y != ("__classdict__" : Str)))=true from m2))) (ZdF H a m5 m4 L f hd1 λv s₁ f₁ g₁ r=>?_))
 refine Zr0 f₁.ok (Rd.kp (show Rd _ _ _ _ from hr0.view) g₁.kp) r hd λv' s₂ g₂ o₂ r₂=>?_
 exact(f₁.grow g₂ o₂).Zc0 G H hy hk r₂ λs₃ f₃ t=>k ad s₃ f₃ ((g₁.stp.trans g₂.stp).trans t)
theorem Fm.ZtI(G:Gr F.base mg mb F.Gd)(H:Fs F)(f:Fm F K ad σ s){s₂:Shared}(g:Gw s s₂)(o:Ok F.Gd s₂){i:Nat}{y:Str}{a:Addr}{vs:List Value}{ds:List D}{Q:Unit->Shared->Prop}(hn:ZgG i σ=true)(ha:s.heap.get? a=none)(hp:s₂.heap.PlainList a vs.toArray)
  (hr:Zad (Pq F K ad σ) s.heap vs ds) (hl:ds.length<=sizeLine) (hy:F.nm[i]? = some y) (hk:F.sc.names.lookup y=some .local∨F.sc.names.lookup y=some .cell)
  (k:∀ad' s',Fm F K ad' (σ.set i (.own ds)) s'->Stp (Pv F ad σ) (Pv F ad' (σ.set i (.own ds))) s.heap s'.heap->Q () s'):wpAny (model prog w) A (storeName F.env y (.ref a)) Q E s₂:=by
 have hb : ¬F.base a:=G.fresh f.ok.gd ha
 have f₁:=f.Zpk g o ha hb (let ⟨o,e,m,n⟩:=Mut.plain hp;⟨o,m,n,e⟩)
 let ad':Nat->Bool->Addr:=λj b=>if j=i then a else ad j b
 have hne:∀j b,j≠i->ad' j b=ad j b:=λj b q=>if_neg q
 have hi:∀b,ad' i b=a:=λb=>if_pos rfl
 have f₂:=f₁.prep (i:=i) (ad':=ad') hne (.inl hn)
 have nK : ¬K a:=λz=>by obtain⟨_,_,_,_,o,_,_,e⟩:=f.kx a z;rw[ha] at e;cases e
 have pv:∀b o,s.heap.get? b=some o->Pv F ad' (σ.set i (.own ds)) b->Pv F ad σ b:=λb o e z=>by
  rcases z with z | z | ⟨j,c,z,q⟩
  ·exact .inl z
  ·exact .inr (.inl z)
  ·rcases ZbH z with⟨rfl,_⟩ | ⟨q2,z⟩
   ·rw[hi] at q;rw[q,ha] at e;cases e
   ·exact .inr (.inr ⟨j,c,z,by erw[rwl (q ..) (rwl (hne j c q2 ..) ?_)]⟩)
 refine Fm.store (K:=K) (sl:=.own ds) G H f₂ (i:=i) (λb=>?_) (λb _=>by erw[rwl (hi ..) ?_];exact⟨nK,_,hp⟩) (λh=>nomatch h) hy hk ?_ λh' tk f₃ h1 h2=>?_
 ·constructor
  ·rintro(h | rfl)
   ·exact .inl h
   ·exact .inr ⟨false,rfl,(hi _).symm⟩
  ·rintro(h | ⟨c,_,q⟩)
   ·exact .inl h
   ·exact .inr (q.trans (hi c))
 ·erw[rwl (List.set_set ..) ?_]
  have:=Za1.own (P:=Pq F K ad' (σ.set i (.own ds))) (ad:=ad') (i:=i) (h:=s₂.heap) (vs:=vs) (ds:=ds) (by erw[rwl (hi ..) ?_];exact hp) (hr.mono λb o n e p=>⟨⟨p.1,λz=>p.2.1 (pv b o e z),p.2.2⟩,g.kp b o n e⟩) hl
  rwa [hi] at this
 ·rw[List.set_set] at f₃
  refine k ad' _ f₃ ⟨λb o n z e=>h1 b (λq=>z (.inl q)) (λn c hc q=>z (.inr (.inl ⟨n,q▸hc⟩))) o (g.kp b o n e),λb o e=>let ⟨o',e'⟩:=g.ex b o e;h2 b o' e',pv⟩
theorem Zqf(G:Gr F.base mg mb F.Gd)(H:Fs F){i:Nat}{xs:X}(a:All prog w F.base F.Gd Γ F.nm fn n xs):S1 prog w F Γ fn n N (.asgO i xs):=by
 intro e K ad σ A s E Q fl σ' hm L f hv k
 revert k
 refine ifS (show(if ZgG i σ then _ else none)=_ from hv) λhn hv=>Zac hv λds hds hv=>ifS hv λhl hv=>ZbI hv λk=>?_
 refine ZbU (show ZbZ _ e=true from hm) λt v p hm=>Zbg hm λm1 hm=>Zed hm λes lp hm=>Zbg hm λm2 m3=>ZfK m1 λy p hy hk=>?_
 refine wpAny_Assign_Name (wpAny_List_spliced (ZgD H a m3 m2 L f hds λvs s₁ f₁ g₁ r=>⟨Nat.le_trans (Nat.le_of_eq r.length) hl,?_⟩)) rfl
 have kk:∀b ob,s₁.heap.get? b=some ob->(s₁.heap.push { cls:=.type "list",data:=.seq vs.toArray }).get? b=some ob:=λ_ _ e=>Heap.get?_push_of_some _ e
 exact f₁.ZtI G H (.of_keep (tk:=s₁.toks) kk) ⟨G.keeps f₁.ok.gd kk,f₁.ok.tk⟩ hn (Zau _) ⟨0,Heap.get?_push_size _ rfl⟩ r hl hy hk λad' s' f' t=>k ad' s' f' (g₁.stp.trans t)
theorem ZjE{v:Expr}{y:Str}{p:Pos}{line:Nat}(H:Fs F)(h:Zmv F.sc v (.Name y p)=true):swapsWith v (some (.Name y p)) line F.env=pure true:=by
 refine Zgu (show Zkg (λ_ _ s q=>F.sc.names.lookup y==some .local&&p.line==q.line&&!(s.names.any λ(m,k)=>m==y&&(k==.local||k==.cell))) v=true from h) λelt gens sc' q h=>Zd3 h λh1 h2 h3=>?_
 have hk:F.env.kindOf y=some .local:=by rw[Env.kindOf,H.scp];exact eq_of_beq h1
 have hb:F.env.blockKind=.function:=by
  unfold Env.blockKind;rw[ZfA H];rfl
 show pure (F.env.blockKind==.function&&F.env.kindOf y==some .local&&p.line==q.line&&!(sc'.names.any λ(m,k)=>m==y&&(k==.local||k==.cell)))=_
 rw[hb,hk,h3,h2]
 rfl
theorem Zrd(G:Gr F.base mg mb F.Gd)(H:Fs F){i:Nat}{fr:List Nat}{t:Nat}{ex it cx:X}(ae:All prog w F.base F.Gd Γ F.nm fn n ex)(ai:All prog w F.base F.Gd Γ F.nm fn n it)(ac:All prog w F.base F.Gd Γ F.nm fn n cx):S1 prog w F Γ fn n N (.asgC i (.comp fr t ex it cx)):=by
 intro e K ad σ A s E Q fl σ' hm L f hv k
 revert k
 refine ZoN (show(ev Γ σ (.comp fr t ex it cx)).map _=_ from hv) λd hd=>Zac (show((ev Γ σ it).bind itemsOf).bind _=_ from hd) λds hds hd=>Zac hd λys hys hd=>ZkN hd λhl k=>?_
 refine ZbU (show ZbZ _ e=true from hm) λt' v p hm=>Zd3 hm λm1 m2 m3=>?_
 revert m3
 refine ZfK m1 λy p hy hk m3=>?_
 erw[rwl (exec_Assign_Name_used _ _ _ _ (ZjE H m3) ..) ?_]
 refine Zbg (show(true&&Zkg _ v)=true from m2) λ_ m2=>Zgu m2 λelt gens scope pos hm=>ZfO hm λg hm=>?_
 obtain⟨tg,iter,ifs,asy⟩:=g
 refine ZuQ hm λm0 n2 n3 n4 n5 n6 n7 n8 n9=>eqb (show(asy==0)=true from m0) (Zby (show Zcs _ tg=true from n3) λz pz n3=>Zbg n3 λz1 z2=>?_)
 obtain⟨hlen,src⟩:=ai.i F.sc false iter F.env σ A _ s ds n7 (f.ZcE H) L f.ok (f.pf H) hds
 refine wpAny_bind (wpAny_standAt (wpAny_bind ?_))
 refine wpAny_mono (Q:=λ_ s'=>Q .next s') (E:=E) ?_ (λ_ _ q=>wpAny_pure q) λ_ _ e=>e
 show wpAny _ A (do let _ ←comprehension (.ListComp elt [⟨.Name z pz,iter,ifs,0⟩] scope pos) scope F.env _ (newList []) false (eval iter F.env) (some (assign (.Name y p) F.env))) _ _ s
 refine wpAny_bind (wpAny_mono (Q:=λ_ s'=>Q .next s') (E:=E) ?_ (λ_ _ q=>wpAny_pure q) λ_ _ e=>e)
 refine Zhb (use:=some (assign (.Name y p) F.env)) (Q:=λ_ s'=>Q .next s') G L.hd (f:=λd=>(if cx.Za8 then some true else tv Γ ((mask fr σ).set t (.fz d)) cx).bind λb=>if b then(ev Γ ((mask fr σ).set t (.fz d)) ex).map some else some none) (f.ZcE H) (f.pf H) n2 (eq_of_beq z1) (eq_of_beq z2) (ZfN n4) (ZdV n6) hlen
  (λQ' kk=>src E Q' λI s₁ g₁ o₁ hit hI hb=>kk I s₁ _ g₁ o₁ hit hI hb λb hb=>hb.2.1)
  (Zf5 (σ':=λd=>(mask fr σ).set t (.fz d)) ae.e ac.t n5 L n8 n9) hys λDd C s₁ m g₁ o₁ rr hD hC hDC hCb hnC=>?_
 have f₁:Fm F (λb=>K b∨b=C) ad σ s₁:=f.Zpk g₁ o₁ hC hCb (let ⟨o,e,m,n⟩:=Mut.ns hnC;⟨o,m,n,e⟩)
 have nK : ¬K C:=λz=>by obtain⟨_,_,_,_,o,_,_,e⟩:=f.kx C z;rw[hC] at e;cases e
 refine wpAny_assign_Name (Fm.Zh2 (sl:=.fz (.list ys)) G H (λ_ h=>h) f₁ hy hk (.fz (rr.mono λa o _ e p=>⟨Zlh (sl:=.fz (.list ys)) (λ_ h=>h) ⟨p.1.1,p.1.2.1,λz=>z.elim p.1.2.2 p.2⟩,e⟩)) λh' tk f₂ t₂ keep=>?_)
 have hC2:=f₁.kx C (.inr rfl)
 refine⟨m,?_,λh'' hs=>?_⟩
 ·obtain⟨o,es,ep,e,r⟩:=hnC
  exact⟨o,es,ep,keep C hC2.1 hC2.2.1 o e,r⟩
 ·exact k ad _ (f₂.ZuZ (tk:=tk) G H nK hs.extBut f₂.ok.tk) ((g₁.stp.trans t₂).Zu3 hC hs.extBut)
end
end
section
section
variable {prog:Program}{w:World}{F:Fp}{K:Addr->Prop}{ad:Nat->Bool->Addr}{σ:Sg}{s:Shared}{mg mb:Str->Option Value}{Γ:ZaC}{fn:Nat->Str}{fa:Nat->Addr}{n N:Nat}{A:Around}{E:Value->Shared->Prop}
theorem Zqk{a b:Nat}{x:Bool}{ds es:List D}(h:(ds++es).length<=16777216)(h1:a=ds.length)(h2:b=es.length):a<=sizeLine∧a+b<=sizeLine+1∧¬(x&&Builtin.List.listTooLong (a+b))=true:=by
 rw[List.length_append,←h1,←h2] at h
 exact⟨Nat.le_trans (Nat.le_add_right _ _) h,Nat.le_succ_of_le h,λq=>absurd (of_decide_eq_true (Za7 q)) (Nat.not_lt.mpr h)⟩
theorem ZrM{h:Heap}{a:Addr}{us vs:List Value}(x:h.PlainList a us.toArray):(h.update a (Obj.mapSeq λxs=>xs++vs.toArray)).PlainList a (us++vs).toArray:=let ⟨_,e⟩:=x;⟨_,by rw[←List.append_toArray];exact PySem.IsL.update e _⟩
theorem Zsr(G:Gr F.base mg mb F.Gd)(H:Fs F){i:Nat}{xs:X}(a:All prog w F.base F.Gd Γ F.nm fn n xs):S1 prog w F Γ fn n N (.ext i xs):=by
 intro e K ad σ A s E Q fl σ' hm L f hv k
 revert k
 refine Zac (show(ownOf σ i).bind _=_ from hv) λds hds hv=>Zac hv λes hes hv=>ifS hv λhl hv=>ZbI hv λk=>?_
 refine ZlR (show qES _ e=true from hm) λv p hm=>Zbz hm λo ap as pos m2 m3 hm=>ZfO hm λa' hm=>Zbg hm λm1 hm=>Zed hm λles lp hm=>Zbg hm λm4 m5=>?_
 refine wpAny_Expr_any (wpAny_Call_method (T := "list") (id := "list.extend") (ZaQ m2) (by rfl) m3 PySem.F.plainAttrs_list PySem.F.slot_list_extend PySem.F.type_list_extend (f.ZkC H hds m1 λus hp _ _=>?_)) (Ze1 H) rfl
 refine⟨⟨_,hp.choose_spec,rfl⟩,λa e=>⟨_,(congrArg s.heap.get? (Value.ref.inj e)).symm.trans hp.choose_spec,rfl⟩,P.extend_list (wpAny_List_spliced (ZgD H a m5 m4 L f hes λvs s₁ f₁ g₁ r=>⟨?_,?_⟩))⟩
 ·erw[rwl (r.length ..) ?_]
  exact Nat.le_trans (Nat.le_add_left es.length ds.length) (Nat.le_trans (Nat.le_of_eq List.length_append.symm) hl)
 have kk:∀b ob,s₁.heap.get? b=some ob->(s₁.heap.push { cls:=.type "list",data:=.seq vs.toArray }).get? b=some ob:=λ_ _ e=>Heap.get?_push_of_some _ e
 have g₂:Gw s₁ { s₁ with heap:=s₁.heap.push { cls:=.type "list",data:=.seq vs.toArray } }:=.of_keep (tk:=s₁.toks) kk
 have f₂:=f₁.grow g₂ ⟨G.keeps f₁.ok.gd kk,f₁.ok.tk⟩
 obtain⟨us,hp₁,hr₁,hz₁⟩:=f₂.ZrA hds
 have q:=Zqk (x:=!us.toArray.isEmpty) hl hr₁.length r.length
 exact⟨_,us.toArray,vs.toArray,_,0,q.1,q.2.1,q.2.2,rfl,hp₁.choose_spec,Heap.get?_push_size _ rfl,k.own (g₁.stp.trans g₂.stp) (f₂.Zgg G H hds (Heap.SameBut.update ..).extBut (ZrM hp₁) (hr₁.append (r.kp g₂.kp)) hl)⟩
theorem Zie{α:Type}{l:List α}{x:α}(h:l.getLast? = some x):0 < l.length:=by
 cases l with
 | nil=>exact nn h
 | cons=>exact Nat.succ_pos _
theorem ZiD{n m:Nat}(h:0 < n)(e:m=n):(-1:Int)+(m:Int)=((n - 1:Nat):Int)∧-(m:Int)<=-1:=by lia
theorem ZjS{ds:List D}{d:D}(h:ds.getLast? = some d):Zk8 (.list ds) (.int (-1))=some d:=by
 have q:=(ZiD (Zie h) rfl).1
 have e1:idxOf ds.length (-1)=some (ds.length - 1):=by
  unfold idxOf
  rw[if_neg (by decide),q,if_pos (Int.natCast_nonneg _)]
  rfl
 show(if ZdN (-1) then(idxOf ds.length (-1)).bind λk=>ds[k]? else none)=_
 rw[if_pos (by decide),e1,Option.bind_some,←List.getLast?_eq_getElem?]
 exact h
theorem Zqg(G:Gr F.base mg mb F.Gd)(H:Fs F){i c:Nat}:S1 prog w F Γ fn n N (.augL i c):=by
 intro e K ad σ A s E Q fl σ' hm L f hv k
 revert k
 refine Zac (show(ownOf σ i).bind _=_ from hv) λds hds hv=>Zac hv λd hd hv=>Zac hv λd' hd' hv=>ifS hv λhl hv=>ZbI hv λk=>?_
 refine Zpi (show Zsx _ e=true from hm) λt op v p hm=>Zd3 hm λm0 m3 hm=>eqb m0 (Zge hm λo ke tp hm=>Zbg hm λm1 m2=>?_)
 refine wpAny_AugAssign_SubscriptAny (f.ZkC H hds m1 λus hp hr hz=>Zld m2 f.ok.tk λt tk ht=>?_) λov iv new=>Zfx (show Zlm _ _ ke=true from m2) λ_ _ _=>rfl
 have g₁:Gw s { s with toks:=tk }:=.tok ..
 have f₁:=f.grow g₁ ⟨f.ok.gd,ht⟩
 refine ZrK (s:={ s with toks:=tk }) f₁.ok (.own (P:=Pq F K ad σ) hp hr hz) (.of (.int (-1) t)) (ZjS hd) λold s₂ g₂ o₂ r₂=>Zbo m3 ?_
 have f₂:=f₁.grow g₂ o₂
 have g₃:Gw s₂ { s₂ with toks:=s₂.toks+1 }:=.tok ..
 have f₃:=f₂.grow g₃ ⟨f₂.ok.gd,Nat.le_succ_of_le f₂.ok.tk⟩
 refine Zr0 (op:=.add) (P:=Pq F K ad σ) f₃.ok r₂ (.str [c] _ (Nat.le_of_ble_eq_true rfl)) hd' λnew s₄ g₄ o₄ r₄=>?_
 obtain⟨us,hp₁,hr₁,hz₁⟩:=(f₃.grow g₄ o₄).ZrA hds
 have q:=ZiD (Zie hd) hr₁.length
 refine ki_setBack hp₁.choose_spec (by decide) q.2 (by decide) ?_
 erw[rwl (show((-1:Int)+(us.toArray.size:Nat)).toNat=ds.length - 1 from congrArg Int.toNat q.1 ..) ?_]
 exact k.own (((g₁.stp.trans g₂.stp).trans g₃.stp).trans g₄.stp) ((f₃.grow g₄ o₄).Zgg G H hds (Heap.SameBut.update ..).extBut (ZoT hp₁) (hr₁.set _ r₄) hl)
theorem Zjq{lp:Pos}{env:Env}{Q:Value->Shared->Prop}(h:Q (.ref s.heap.objs.size) { s with heap:=s.heap.push { cls:=.type "list",data:=.seq #[] } }):wpAny (model prog w) A (eval (.List [] lp) env) Q E s:=
 wpAny_List_spliced (by erw[rwl (Zam ..) (rwl (Zay ..) ?_)];exact Calls.spliced_nil ⟨Nat.zero_le _,h⟩)
theorem ZqF{n:Nat}{dss:List (List D)}{pre:List (List D)}{l:List D}(d:dss=pre++[l])(h:n=(pre.map D.list).length)(hl:pre.length+1<=sizeLine):n+1<=sizeLine:=by erw[rwl (h ..) (rwl (List.length_map ..) ?_)];exact hl
theorem Fm.nK(f:Fm F K ad σ s){a:Addr}(h:s.heap.get? a=none) : ¬K a:=λz=>let ⟨_,_,_,_,_,_,_,e⟩:=f.kx a z;nn (h.symm.trans e)
theorem Zqu(G:Gr F.base mg mb F.Gd)(H:Fs F){i:Nat}:S1 prog w F Γ fn n N (.new2 i):=by
 intro e K ad σ A s E Q fl σ' hm L f hv k
 revert k
 refine Zac (show(Zdk σ i).bind _=_ from hv) λds hds hv=>ifS hv λhl hv=>ZbI hv λk=>?_
 have hds:=Zfc hds
 refine ZlR (show qES _ e=true from hm) λv p hm=>Zbz hm λo ap as pos m2 m3 hm=>ZfO hm λa' hm=>Zbg hm λm1 hm=>Zed hm λes lp hm=>ZcB hm ?_
 refine Zdw H m2 m3 rfl (f.look H hds Slot.noConfusion m1 λv hv=>?_)
 obtain⟨ev,vs,ws,pre,l,d,e0,r0,_,_,l0,_⟩:=hv
 refine⟨_,_,ev,Zmu e0,Zjq ?_⟩
 have hA:=Zau s.heap
 have kk:∀b ob,s.heap.get? b=some ob->(s.heap.push { cls:=.type "list",data:=.seq #[] }).get? b=some ob:=λ_ _ e=>Heap.get?_push_of_some _ e
 have hpa:(s.heap.push { cls:=.type "list",data:=.seq #[] }).PlainList s.heap.objs.size ([]:List Value).toArray:=⟨0,Heap.get?_push_size _ rfl⟩
 have f₁:=f.Zpk (s':={ s with heap:=s.heap.push { cls:=.type "list",data:=.seq #[] } }) (.of_keep (tk:=s.toks) kk) ⟨G.keeps f.ok.gd kk,f.ok.tk⟩ hA (G.fresh f.ok.gd hA) (let ⟨o,e,m,n⟩:=Mut.plain hpa;⟨o,m,n,e⟩)
 generalize s.heap.objs.size=a at *
 have e0k:=Zbp e0 (.of kk)
 have hn:=r0.length
 refine wpAny_list_append_plain e0k (λh' hp' hs=>?_) (by erw[rwl (List.size_toArray ..) (rwl (List.length_append ..) ?_)];exact ZqF d hn l0)
 have hs2:=hs.extBut
 rw[List.push_toArray] at hp'
 refine k _ _ (f₁.ZvX (tk:=s.toks) G H (f.nK hA) hds hpa hs2 f.ok.tk e0k hp' (Nat.le_trans (Nat.le_of_eq (List.length_append (bs:=[[]])).symm) hl.1)) ⟨λb o n z e=>hs2 b o (λq=>z (.inr (.inr ⟨i,false,⟨_,hds,trivial⟩,q⟩))) (kk b o e),λb o e=>?_,λb o e z=>?_⟩
 ·by_cases q:b=ad i false
  ·erw[rwl (q ..) ?_];exact⟨_,hp'.choose_spec⟩
  ·exact⟨o,hs2 b o q (kk b o e)⟩
 ·rcases z with z | z | ⟨j,c,z,q⟩
  ·exact .inl z
  ·exact .inr (.inl z)
  ·replace q:b=(if j=i∧c=true then a else ad j c):=q
   by_cases q2:j=i∧c=true
   ·rw[if_pos q2] at q;rw[q,hA] at e;exact nn e
   ·rw[if_neg q2] at q
    rcases ZbH z with⟨q3,_⟩ | ⟨_,z⟩
    ·exact .inr (.inr ⟨i,c,⟨_,hds,trivial⟩,q3▸q⟩)
    ·exact .inr (.inr ⟨j,c,z,q⟩)
theorem ZiB{α:Type}{l pre:List α}{x y:α}(e:l=pre++[y])(h:l.getLast? = some x):l.dropLast=pre∧y=x:=by
 rw[e,List.getLast?_concat] at h
 erw[rwl (e ..) (rwl (List.dropLast_concat ..) ?_)]
 exact⟨rfl,Option.some.inj h⟩
noncomputable def ZvT(F:Fp)(K:Addr->Prop)(ad:Nat->Bool->Addr)(σ:Sg)(i:Nat)(h:Heap)(dss:List (List D))(l:List D)(vs ws:List Value):Prop:=dss=dss.dropLast++[l]∧h.PlainList (ad i false) (vs++[Value.ref (ad i true)]).toArray∧h.PlainList (ad i true) ws.toArray∧Zad (Pq F K ad σ) h ws l∧l.length<=sizeLine
theorem Zlu{i:Nat}{h:Heap}{dss:List (List D)}{l:List D}{v:Value}(x:Za1.View (Pq F K ad σ) ad i h v (.own2 dss))(hl:dss.getLast? = some l):v=.ref (ad i false)∧∃vs ws,ZvT F K ad σ i h dss l vs ws:=by
 obtain⟨ev,vs,ws,pre,l',d,e0,r0,e1,r1,l0,l1⟩:=x
 obtain⟨q1,q2⟩:=ZiB d hl
 rw[q2] at r1 l1 d
 exact⟨ev,vs,ws,q1.symm▸d,e0,e1,r1,l1⟩
theorem Zjx{vs:List Value}{v:Value} : -((vs++[v]).toArray.size:Int)<=-1∧(vs++[v]).toArray[(-1+((vs++[v]).toArray.size:Int)).toNat]? = some v:=by
 have e:((vs++[v]).toArray.size:Int)=(vs.length:Int)+1:=congrArg Int.ofNat (List.length_append (bs:=[v]))
 rw[e,show(-1+((vs.length:Int)+1))=vs.length by lia]
 exact⟨by lia,(List.getElem?_toArray ..).trans List.getElem?_concat_length⟩
theorem Zpu(G:Gr F.base mg mb F.Gd)(H:Fs F){i:Nat}{x:X}(a:All prog w F.base F.Gd Γ F.nm fn n x):S1 prog w F Γ fn n N (.lst2 i x):=by
 intro e K ad σ A s E Q fl σ' hm L f hv k
 revert k
 refine Zac (show(Zdk σ i).bind _=_ from hv) λdss hds hv=>Zac hv λd hd hv=>Zac hv λl hlast hv=>ifS hv λhl hv=>ZbI hv λk=>?_
 have hds:=Zfc hds
 refine ZlR (show qES _ e=true from hm) λv p hm=>Zbz hm λq ap as pos mc m4 hm=>ZfO hm λea hm=>ZjH hm λmq m5 m6 m7=>Zdw H mc m4 m5 (Zge mq λo ke kp mq=>Zbg mq λm1 m2=>Subscript_ (f.look H hds Slot.noConfusion m1 λv hv=>?_))
 obtain⟨ev,vs,ws,d0,e0,e0',r0',l0'⟩:=Zlu hv hlast
 erw[rwl (ev ..) ?_]
 refine Zld m2 f.ok.tk λt tk ht=>?_
 have g₁:Gw s { s with toks:=tk }:=.tok ..
 have f₁:=f.grow g₁ ⟨f.ok.gd,ht⟩
 refine tail_any (T := "list") e0.isList.typeIs slot_list_getitem.lookup (wpAny_getItem_list_neg (x:=.ref (ad i true)) e0.isList (by decide) Zjx.1 (by decide) Zjx.2 ?_) (ZdQ (Zkn m2))
 refine⟨_,_,rfl,Zmu e0',ZdF H a m7 m6 L f₁ hd λv s₂ f₂ g₂ r=>?_⟩
 obtain⟨_,_,_,_,hr₂⟩:=f₂.vs i _ hds Slot.noConfusion
 obtain⟨_,vs2,ws2,d2,_,e2,r2,l2⟩:=Zlu hr₂.view hlast
 refine wpAny_list_append_plain e2 (λh' hp' hs=>?_) (Nat.le_trans (Nat.le_of_eq r2.length) l2)
 have hs2:=hs.extBut
 rw[List.push_toArray] at hp'
 have hl2:=hl.2
 rw[List.getLast?_concat] at hl2
 exact k ad _ (f₂.ZvZ (tk:=s₂.toks) G H (d2▸hds) hs2 f₂.ok.tk hp' (r2.snoc r) hl2) ((g₁.stp.trans g₂.stp).trans (.own (a:=ad i true) (.inr (.inr ⟨i,true,⟨_,hds,trivial⟩,rfl⟩)) hs2 ⟨_,hp'.choose_spec⟩ λb z=>ZoL (sl':=.own2 (dss.dropLast++[l++[d]])) hds (λ_ _=>trivial) z))
end
end
section
set_option maxRecDepth 100000
theorem ZmK:PySem.Slot "method_descriptor" "__get__" "method_descriptor.__get__" :=
 .of (owner := "method_descriptor") (n := "__get__") (by erw[rwl (typeLookup_type ..) (rwl (builtinLookup_eq_fast ..) ?_)];kernel_rfl) (by decide +kernel) (by decide +kernel) (by decide +kernel)
  (by first | exact .inl (by decide +kernel) | exact .inr (by decide +kernel)) (by erw[rwl (isSubtype_type ..) ?_];kernel_rfl)
theorem ZnJ:entryFor table "method_descriptor.__get__" = some Builtin.«method_descriptor.__get__» := entryFor_of_tree (by kernel_rfl)
theorem ZqM(a b c:Value):argsOk "method_descriptor.__get__" ⟨[a,b,c],[]⟩:=by unfold argsOk;kernel_rfl
theorem Zto:typeLookup (.type "method_descriptor") "__set__" = pure none:=by erw[rwl (typeLookup_type ..) (rwl (builtinLookup_eq_fast ..) ?_)];kernel_rfl
theorem Zti:typeLookup (.type "method_descriptor") "__delete__" = pure none:=by erw[rwl (typeLookup_type ..) (rwl (builtinLookup_eq_fast ..) ?_)];kernel_rfl
theorem Zhu:(".".intercalate ("list.append".cutAt '.').dropLast) = "list" := by
 have e0 : "list.append".cutAt '.'=["list","append"]:=by first | rfl | decide +kernel
 erw[rwl (e0 ..) ?_];decide +kernel
theorem ZeD:isSubtype (.type "list") (.type (".".intercalate ("list.append".cutAt '.').dropLast))=pure true:=by
 erw[rwl (Zhu ..) (rwl (isSubtype_type ..) ?_)];kernel_rfl
section
variable {prog:Program}{w:World}{A:Around}{E:Value->Shared->Prop}{h:Heap}{g:Array GenState}{d:Drawn}{t:Nat}{os:OsState}{a:Addr}{xs:Array Value}{k:Nat}
theorem Zra{R:Result->Shared->Prop}(hx:h.get? a=some { cls:=.type "list",data:=.seq xs k })(hq:R (.ok (.ret (.ref h.objs.size))) ⟨h.push (Zca a),g,d,t,os⟩) :
  codeAny (model prog w) A (.call (.builtin "method_descriptor.__get__") ⟨[.builtin "list.append",.ref a,.type "list"],[]⟩) R ⟨h,g,d,t,os⟩:=by
 have hT:(⟨h,g,d,t,os⟩:Shared).TypeIs (.ref a) "list" := ⟨_,hx,rfl⟩
 have hT5:(⟨h,g,d,t,os⟩:Shared).TypeIs (.builtin "list.append") "method_descriptor" := PySem.F.type_list_append
 have f9:=ZeD
 refine codeAny_call_builtin ZmK.plain ZnJ (ZmK.check _ _ _ _ _ _ _ _ hT5 (ZqM _ _ _) ?_)
 unfold Builtin.«method_descriptor.__get__»
 repeat (any_goals (first | assumption | wp_step))
theorem ZmB{tk:Tok}{Q:Fin->Shared->Prop}(hx:h.get? a=some { cls:=.type "list",data:=.seq xs k })(hq:Q (.done (.ret (.ref h.objs.size))) ⟨h.push (Zca a),g,d,t,os⟩) :
  wpAny (model prog w) A (Builtin.«object.__getattribute__» ⟨[.ref a,.str "append" tk],[]⟩) Q E ⟨h,g,d,t,os⟩:=by
 have hT:(⟨h,g,d,t,os⟩:Shared).TypeIs (.ref a) "list" := ⟨_,hx,rfl⟩
 have hT5:(⟨h,g,d,t,os⟩:Shared).TypeIs (.builtin "list.append") "method_descriptor" := PySem.F.type_list_append
 have f4:=PySem.F.slot_list_append.lookup
 have f5:=PySem.F.type_list_append
 have f6:=ZmK.lookup
 have f7:=Zto
 have f8:=Zti
 unfold Builtin.«object.__getattribute__»
 repeat (any_goals (first | assumption | wp_step))
 refine Zra hx ?_
 exact wpAny_pure hq
theorem ZoD{tk:Tok}{R:Result->Shared->Prop}(hx:h.get? a=some { cls:=.type "list",data:=.seq xs k })(hq:R (.ok (.ret (.ref h.objs.size))) ⟨h.push (Zca a),g,d,t,os⟩) :
  codeAny (model prog w) A (.call (.builtin "list.__getattribute__") ⟨[.ref a,.str "append" tk],[]⟩) R ⟨h,g,d,t,os⟩:=
 codeAny_call_builtin PySem.F.slot_list_getattribute.plain PySem.F.entry_list_ga (PySem.F.slot_list_getattribute.check _ _ _ _ _ _ _ _ (show(⟨h,g,d,t,os⟩:Shared).TypeIs (.ref a) "list" from⟨_,hx,rfl⟩) (PySem.F.args_list_getattribute_2 _ _) (ZmB hx hq))
theorem Zn9{Q:Value->Shared->Prop}(hx:h.get? a=some { cls:=.type "list",data:=.seq xs k })(hq:Q (.ref h.objs.size) ⟨h.push (Zca a),g,d,t+1,os⟩) :
  wpAny (model prog w) A (getAttr (.ref a) "append" true) Q E ⟨h,g,d,t,os⟩:=by
 have hT:∀tk',(⟨h,g,d,tk',os⟩:Shared).TypeIs (.ref a) "list" := λ_=>⟨_,hx,rfl⟩
 have f3:=PySem.F.slot_list_getattribute.lookup
 have f4:=PySem.F.slot_list_getattribute.bind (.ref a)
 unfold getAttr getAttrBy
 repeat (any_goals (first | assumption | exact hT _ | wp_step))
 refine ZoD hx ?_
 exact wpAny_pure hq
theorem Zfk:isSubtype (.type "list") (.type "module")=pure false:=by erw[rwl (isSubtype_type ..) ?_];kernel_rfl
theorem ZkL{v:Value}{Q:Unit->Shared->Prop}(hx:h.get? a=some { cls:=.type "list",data:=.seq xs k })(hq:Q () ⟨h,g,d,t,os⟩) :
  wpAny (model prog w) A (checkBoundCall "list.append" ⟨[.ref a,v],[]⟩) Q E ⟨h,g,d,t,os⟩:=by
 have hT:(⟨h,g,d,t,os⟩:Shared).TypeIs (.ref a) "list" := ⟨_,hx,rfl⟩
 have f1:=Zfk
 unfold checkBoundCall
 repeat (any_goals (first | assumption | exact hT | wp_step))
theorem ZvV:(Value.type "builtin_function_or_method" == Value.type "method" || Value.type "builtin_function_or_method" == Value.type "builtin_function_or_method" || Value.type "builtin_function_or_method" == Value.type "method-wrapper")=true:=by decide
theorem Zu5:(Value.type "builtin_function_or_method" != Value.type "method")=true:=by decide
theorem Zmf{u:Addr}{v:Value}{R:Result->Shared->Prop}(hu:h.get? u=some (Zca a))(hx:h.get? a=some { cls:=.type "list",data:=.seq xs k })(hz:xs.size<=sizeLine)(hq:∀h',h'.PlainList a (xs.push v)->Heap.SameBut a h h'->R (.ok (.ret .none)) ⟨h',g,d,t,os⟩) :
  codeAny (model prog w) A (.call (.ref u) ⟨[v],[]⟩) R ⟨h,g,d,t,os⟩:=by
 refine codeAny_of_tree ?_
 show wpAny _ A.in1 (callAny (.ref u) ⟨[v],[]⟩) _ _ _
 refine wpAny_bind (m:=load u) (wpAny_load hu ?_)
 refine KFB.if_so ZvV (KFB.if_so Zu5 ?_)
 refine wpAny_bind (ZkL hx ?_)
 refine wpAny_bind (wpAny_pure (wpAny_pure ?_))
 refine⟨Code.quiet_builtin _ (by decide +kernel),codeAny_builtin entry_list_append ?_⟩
 show wpAny _ _ (updateSeq a (·.push v) >>= λ_=>ret .none) _ _ _
 refine wpAny_bind ?_
 refine wpAny_updateSeq hx rfl (wpAny_pure (hq _ ⟨k+1,?_⟩ (Heap.SameBut.update ..)))
 rw[Heap.get?_update_self _ hx (by erw[rwl (Obj.mapSeq_push_plain ..) ?_];rfl),Obj.mapSeq_push_plain]
end
section
variable {M:Model}{A:Around}{E:Value->Shared->Prop}{s:Shared}
theorem ZeH{pos:Pos}{u b:Addr}{args:List (Bool×Sem Value)}{Q:Value->Shared->Prop}(hplain:args.any (·.1)=false)
  (h:wpAny M A (evalArgs (.ref u) true args []) (λx s₁=>s₁.heap.get? u=some (Zca b)∧wpAny M A (call (.ref u) x.pos x.kw) Q E s₁) E s):wpAny M A (callWith pos (.ref u) [] args []) Q E s:=by
 unfold callWith
 refine wpAny_bind (wpAny_holding (wpAny_mono h (λx s₁ h₁=>wpAny_bind (wpAny_standAt ?_)) λ_ _ x=>x))
 obtain⟨ho,hcall⟩:=h₁
 erw[rwl (hplain ..) ?_]
 refine wpAny_bind (m:=keeperOf (.ref u)) (wpAny_bind (m:=load u) (wpAny_load ho ?_))
 refine KFB.if_so Zu5 (wpAny_pure ?_)
 exact wpAny_bind (wpAny_mono hcall (λr s₂ hr=>wpAny_bind (wpAny_holding (wpAny_point (wpAny_pure hr)))) λ_ _ x=>x)
end
@[elab_as_elim] theorem Zl4{nm:List Str}{i:Nat}{e:Expr}{G:Expr->Prop}(k:∀y p,isNm nm i (.Name y p)=true->G (.Name y p))(h:isNm nm i e=true):G e:=
 Zby (G:=λe=>isNm nm i e=true->G e) (show Zcs _ e=true from h) (λy p _ h=>k y p h) h
section
variable {prog:Program}{w:World}{F:Fp}{K:Addr->Prop}{ad:Nat->Bool->Addr}{σ:Sg}{s:Shared}{mg mb:Str->Option Value}{Γ:ZaC}{fn:Nat->Str}{fa:Nat->Addr}{n N:Nat}{A:Around}{E:Value->Shared->Prop}
theorem Ztd(G:Gr F.base mg mb F.Gd)(H:Fs F){j i:Nat}:S1 prog w F Γ fn n N (.bnd j i):=by
 intro e K ad σ A s E Q fl σ' hm L f hv k
 revert k
 refine ZoN (show(ownOf σ i).map _=_ from hv) λds hds k=>?_
 refine ZbU (show ZbZ _ e=true from hm) λt v p hm=>Zbg hm λm1 hm=>Zl1 hm λo nn ap hm=>Zbg hm λm3 m2=>eqb m3 (ZfK m1 λy p hy hk=>?_)
 revert m2
 refine Zl4 λz pz m2=>wpAny_Assign_Name (PyProof.Rows.Attribute_name (f.ZkC H hds m2 λvs hp _ _=>Zn9 (h:=s.heap) (g:=s.gens) (d:=s.drawn) (t:=s.toks) (os:=s.os) hp.choose_spec ?_)) rfl
 have kk:∀b ob,s.heap.get? b=some ob->(s.heap.push (Zca (ad i false))).get? b=some ob:=λ_ _ e=>Heap.get?_push_of_some _ e
 have g₁:Gw s { s with heap:=s.heap.push (Zca (ad i false)),toks:=s.toks+1 }:=.of_keep kk
 refine Fm.Zh2 (sl:=.app i) G H (λ_ h=>h) (f.grow g₁ ⟨G.keeps f.ok.gd kk,Nat.le_succ_of_le f.ok.tk⟩) hy hk ?_ λh' tk f' t keep=>k ad _ f' (g₁.stp.trans t)
 exact Za1.app (Zlh (sl:=.app i) (λ_ h=>h) ((f.pf H).fresh (Zau s.heap))) (Heap.get?_push_size _ rfl)
theorem Zsj(G:Gr F.base mg mb F.Gd)(H:Fs F){j i:Nat}{x:X}(a:All prog w F.base F.Gd Γ F.nm fn n x):S1 prog w F Γ fn n N (.add j i x):=by
 intro e K ad σ A s E Q fl σ' hm L f hv k
 revert k
 refine ifS (show(if Zh9 σ j i then _ else none)=_ from hv) λhj hv=>Zac hv λds hds hv=>Zac hv λd hd hv=>ifS hv λhl hv=>ZbI hv λk=>?_
 refine ZlR (show qES _ e=true from hm) λv p hm=>Zij hm λg as kw pos hm=>Zd3 hm λm0 m1 hm=>ZcB m0 (ZfO hm λea hm=>Zd3 hm λm4 m5 m6=>?_)
 revert m1
 refine Zl4 λy py m1=>wpAny_Expr_any (wpAny_Call_NameR (f.look H (Zkl hj) Slot.noConfusion m1 λv hv=>?_)) (Ze1 H) rfl
 obtain⟨g,ev,pg,hg⟩:=hv
 erw[rwl (ev ..) (rwl (Zab m4 ..) (rwl (Zah ..) (rwl (Zam ..) (rwl (Zay ..) ?_))))]
 refine ZeH (b:=ad i false) rfl (Calls.evalArgs_plain (Calls.spliced_cons (ZdF H a m6 m5 L f hd λv s₁ f₁ g₁ r=>Calls.spliced_nil ⟨g₁.kp _ _ (.ZaD rfl) hg,?_⟩)))
 obtain⟨vs,hp₁,hr₁,hz₁⟩:=f₁.ZrA hds
 exact wpAny_call (Zmf (h:=s₁.heap) (g:=s₁.gens) (d:=s₁.drawn) (t:=s₁.toks) (os:=s₁.os) (g₁.kp _ _ (.ZaD rfl) hg) hp₁.choose_spec (Nat.le_trans (Nat.le_of_eq hr₁.length) hz₁) λh' hp' hs=>k.own g₁.stp (f₁.Zgg G H (vs':=vs++[v]) hds hs.extBut (List.push_toArray ..▸hp') (hr₁.snoc r) hl))
end
end
section
section
variable {prog:Program}{w:World}{F:Fp}{K:Addr->Prop}{ad:Nat->Bool->Addr}{σ:Sg}{s:Shared}{mg mb:Str->Option Value}{Γ:ZaC}{fn:Nat->Str}{fa:Nat->Addr}{n N:Nat}{A:Around}{E:Value->Shared->Prop}
theorem Fm.Zrq(G:Gr F.base mg mb F.Gd)(H:Fs F)(f:Fm F K ad σ s){s₁ s₂:Shared}(g₁:Gw s s₁)(o₁:Ok F.Gd s₁)(g₂:Gw s₁ s₂)(o₂:Ok F.Gd s₂){i:Nat}{y:Str}{a c:Addr}{Q:Unit->Shared->Prop}(hn:ZgG i σ=true)(hc:s.heap.get? c=none)(hpc:s₁.heap.PlainList c ([]:List Value).toArray)
  (ha:s₁.heap.get? a=none) (hpa:s₂.heap.PlainList a ([Value.ref c]:List Value).toArray) (hy:F.nm[i]? = some y) (hk:F.sc.names.lookup y=some .local∨F.sc.names.lookup y=some .cell)
  (k:∀ad' s',Fm F K ad' (σ.set i (.own2 [[]])) s'->Stp (Pv F ad σ) (Pv F ad' (σ.set i (.own2 [[]]))) s.heap s'.heap->Q () s'):wpAny (model prog w) A (storeName F.env y (.ref a)) Q E s₂:=by
 have hpc2:=Zbp hpc g₂.kp
 have f₂:=(f.Zpk g₁ o₁ hc (G.fresh f.ok.gd hc) (let ⟨o,e,m,n⟩:=Mut.plain hpc;⟨o,m,n,e⟩)).Zpk g₂ o₂ ha (G.fresh o₁.gd ha) (let ⟨o,e,m,n⟩:=Mut.plain hpa;⟨o,m,n,e⟩)
 have hac:c≠a:=λq=>nn ((q▸ha).symm.trans hpc.choose_spec)
 have hsa:s.heap.get? a=none:=g₁.none ha
 let ad':Nat->Bool->Addr:=λj b=>if j=i then(if b=true then c else a) else ad j b
 have hne:∀j b,j≠i->ad' j b=ad j b:=λj b q=>if_neg q
 have hif:ad' i false=a:=(if_pos rfl).trans (if_neg Bool.noConfusion)
 have hit:ad' i true=c:=(if_pos rfl).trans (if_pos rfl)
 have pv:∀b o,s.heap.get? b=some o->Pv F ad' (σ.set i (.own2 [[]])) b->Pv F ad σ b:=λb o e z=>by
  rcases z with z | z | ⟨j,b',z,q⟩
  ·exact .inl z
  ·exact .inr (.inl z)
  ·rcases ZbH z with⟨q3,_⟩ | ⟨q2,z⟩
   ·rw[q3] at q
    cases b' with
    | true=>rw[hit] at q;rw[q,hc] at e;exact nn e
    | false=>rw[hif] at q;rw[q,hsa] at e;exact nn e
   ·exact .inr (.inr ⟨j,b',z,q.trans (hne j b' q2)⟩)
 refine Fm.store (K:=K) (sl:=.own2 [[]]) G H (f₂.prep (i:=i) (ad':=ad') hne (.inl hn)) (i:=i) (λb=>⟨?_,?_⟩) (λb _=>?_) (λ_=>by erw[rwl (hif ..) (rwl (hit ..) ?_)];exact hac) hy hk ?_ λh' tk f₄ h1 h2=>?_
 ·rintro((h | h) | h)
  ·exact .inl h
  ·exact .inr ⟨true,trivial,h.trans hit.symm⟩
  ·exact .inr ⟨false,trivial,h.trans hif.symm⟩
 ·rintro(h | ⟨b',_,q⟩)
  ·exact .inl (.inl h)
  ·cases b' with
   | true=>exact .inl (.inr (q.trans hit))
   | false=>exact .inr (q.trans hif)
 ·cases b with
  | true=>erw[rwl (hit ..) ?_];exact⟨f.nK hc,_,hpc2⟩
  | false=>erw[rwl (hif ..) ?_];exact⟨f.nK hsa,_,hpa⟩
 ·erw[rwl (List.set_set ..) ?_]
  have:=Za1.own2 (P:=Pq F K ad' (σ.set i (.own2 [[]]))) (ad:=ad') (i:=i) (h:=s₂.heap) (dss:=[[]]) (pre:=[]) (l:=[]) (vs:=[]) (ws:=[]) rfl (by erw[rwl (hif ..) (rwl (hit ..) ?_)];exact hpa) .nil (by erw[rwl (hit ..) ?_];exact hpc2) .nil (Nat.le_of_ble_eq_true rfl) (Nat.zero_le _)
  rwa [hif] at this
 ·rw[List.set_set] at f₄
  have g₃:=g₁.trans g₂
  exact k ad' _ f₄ ⟨λb o n z e=>h1 b (λq=>z (.inl q)) (λn c hc q=>z (.inr (.inl ⟨n,q▸hc⟩))) o (g₃.kp b o n e),λb o e=>let ⟨o',e'⟩:=g₃.ex b o e;h2 b o' e',pv⟩
theorem Znk(G:Gr F.base mg mb F.Gd)(H:Fs F){i:Nat}:S1 prog w F Γ fn n N (.asgO2 i):=by
 intro e K ad σ A s E Q fl σ' hm L f hv k
 revert k
 refine ifS (show(if ZgG i σ then _ else none)=_ from hv) λhn hv=>ZbI hv λk=>?_
 refine ZbU (show ZbZ _ e=true from hm) λt v p hm=>Zbg hm λm1 hm=>Zed hm λes lp hm=>ZfO hm λz hm=>Zed hm λzs zp hm=>ZcB hm (ZfK m1 λy p hy hk=>?_)
 refine wpAny_Assign_Name (wpAny_List_spliced (Calls.spliced_cons (Zjq (Calls.spliced_nil ⟨Nat.le_of_ble_eq_true rfl,?_⟩)))) rfl
 have kk1:∀b ob,s.heap.get? b=some ob->(s.heap.push { cls:=.type "list",data:=.seq #[] }).get? b=some ob:=λ_ _ e=>Heap.get?_push_of_some _ e
 have g₁:Gw s { s with heap:=s.heap.push { cls:=.type "list",data:=.seq #[] } }:=.of_keep (tk:=s.toks) kk1
 have o₁:Ok F.Gd { s with heap:=s.heap.push { cls:=.type "list",data:=.seq #[] } }:=⟨G.keeps f.ok.gd kk1,f.ok.tk⟩
 have kk2:∀b ob,(s.heap.push { cls:=.type "list",data:=.seq #[] }).get? b=some ob->((s.heap.push { cls:=.type "list",data:=.seq #[] }).push { cls:=.type "list",data:=.seq ([Value.ref s.heap.objs.size]:List Value).toArray }).get? b=some ob:=λ_ _ e=>Heap.get?_push_of_some _ e
 exact f.Zrq G H g₁ o₁ (.of_keep (tk:=s.toks) kk2) ⟨G.keeps o₁.gd kk2,f.ok.tk⟩ hn (Zau _) ⟨0,Heap.get?_push_size _ rfl⟩ (Zau _) ⟨0,Heap.get?_push_size _ rfl⟩ hy hk λad' s' f' t=>k ad' s' f' t
theorem Zjy{st:S}(h:∀e,ms1 F.nm fn F.sc st e=false):S1 prog w F Γ fn n N st:=by
 intro e K ad σ A s E Q fl σ' hm L f hv k
 exact nf ((h _).symm.trans hm)
theorem Zat{st:S}(h:∀e,ms F.nm fn F.sc st e=false):SS prog w F Γ fn n N st:=by
 intro e K ad σ A s E Q fl σ' hm L f hv k
 exact nf ((h _).symm.trans hm)
theorem Zo8{y:X}{i:Nat}(hy:∀(elt:Expr) gens scope pos,mt F.nm fn F.sc true y (.ListComp elt gens scope pos)=false):S1 prog w F Γ fn n N (.asgC i y):=by
 intro e K ad σ A s E Q fl σ' hm L f hv k
 refine ZbU (show ZbZ _ e=true from hm) λt v p hm=>Zd3 hm λm1 m2 m3=>Zby (show Zcs _ t=true from m3) λz pz m3=>?_
 exact(Zgu (G:=λv=>mt F.nm fn F.sc true y v=true->False) m3 λ_ _ _ _ _ q=>nf ((hy ..).symm.trans q)) m2 |>.elim
theorem Zm5(G:Gr F.base mg mb F.Gd)(H:Fs F)(C:Zak prog w F.Gd mg Γ fn fa n){i:Nat}(x:X):S1 prog w F Γ fn n N (.asgC i x):=by
 cases x with
 | comp fr t e it c=>exact Zrd G H (ZaI G C e) (ZaI G C it) (ZaI G C c)
 | const d=>exact Zo8 λ_ _ _ _=>by cases d<;>rfl
 | _=>exact Zo8 λ_ _ _ _=>rfl
theorem ZjF(G:Gr F.base mg mb F.Gd)(H:Fs F)(C:Zak prog w F.Gd mg Γ fn fa n){xs:List (Nat×Nat×Bool)}(hJ:∀i sep t e it gl gc,(gl,gc,true)∈xs->S1 prog w F Γ fn n N (.asgJ i sep t e it gl gc))(hR:∀i x gl gc,(gl,gc,false)∈xs->S1 prog w F Γ fn n N (.asgR i x gl gc))
  (st:S) (hst:st.Zcw xs=true):S1 prog w F Γ fn n N st∧SS prog w F Γ fn n N st:=by
 induction st with
 | skip=>exact⟨Zjy λ_=>rfl,Zql⟩
 | seq a b ha hb=>
  have hst:=show(a.Zcw xs&&b.Zcw xs)=true from hst
  have ha:=ha (Zbv hst)
  have hb:=hb (Za7 hst)
  exact⟨Zjy λ_=>rfl,ZsJ ha.1 hb.2⟩
 | asg i x=>exact⟨ZsH G H (ZaI G C x),Zat λ_=>rfl⟩
 | asgC i x=>exact⟨Zm5 G H C x,Zat λ_=>rfl⟩
 | asgJ i sep t e it gl gc=>exact⟨hJ _ _ _ _ _ _ _ (List.contains_iff_mem.mp (show xs.contains _=true from hst)),Zat λ_=>rfl⟩
 | asgR i x gl gc=>exact⟨hR _ _ _ _ (List.contains_iff_mem.mp (show xs.contains _=true from hst)),Zat λ_=>rfl⟩
 | asgO i xs=>exact⟨Zqf G H (ZaI G C xs),Zat λ_=>rfl⟩
 | asgO2 i=>exact⟨Znk G H,Zat λ_=>rfl⟩
 | bnd j i=>exact⟨Ztd G H,Zat λ_=>rfl⟩
 | unp is x=>exact⟨Zr8 G H (ZaI G C x),Zat λ_=>rfl⟩
 | unpS is xs=>exact⟨ZqK G H (ZaI G C xs),Zat λ_=>rfl⟩
 | aug i op x=>exact⟨Zs7 G H (ZaI G C x),Zat λ_=>rfl⟩
 | app i x=>exact⟨ZsD G H (ZaI G C x),Zat λ_=>rfl⟩
 | add j i x=>exact⟨Zsj G H (ZaI G C x),Zat λ_=>rfl⟩
 | new2 i=>exact⟨Zqu G H,Zat λ_=>rfl⟩
 | lst2 i x=>exact⟨Zpu G H (ZaI G C x),Zat λ_=>rfl⟩
 | ext i xs=>exact⟨Zsr G H (ZaI G C xs),Zat λ_=>rfl⟩
 | setI i k v=>exact⟨Zpn G H (ZaI G C k) (ZaI G C v),Zat λ_=>rfl⟩
 | delI i k=>exact⟨Zq6 G H (ZaI G C k),Zat λ_=>rfl⟩
 | augL i c=>exact⟨Zqg G H,Zat λ_=>rfl⟩
 | ifs t a b ha hb=>
  have hst:=show(a.Zcw xs&&b.Zcw xs)=true from hst
  have ha:=ha (Zbv hst)
  have hb:=hb (Za7 hst)
  exact⟨Zsf H (ZaI G C t) ha.2 hb.2,Zat λ_=>rfl⟩
 | whl t b hb=>
  have hb:=hb hst
  exact⟨ZsQ H (ZaI G C t) hb.2,Zat λ_=>rfl⟩
 | fors i it b hb=>
  have hb:=hb hst
  exact⟨Zrf G H (ZaI G C it) hb.2,Zat λ_=>rfl⟩
 | ret x=>exact⟨Zth H (ZaI G C x),Zat λ_=>rfl⟩
 | brk=>exact⟨Ztw,Zat λ_=>rfl⟩
 | asr t=>exact⟨ZsA H (ZaI G C t),Zat λ_=>rfl⟩
end
end
section
theorem Zem:∀(names:List (Str×NameKind)) (k:Nat) (acc:List (Str×Addr)) (n:Str),(acc.lookup n).isSome->((cellsFrom k names acc).lookup n).isSome
 | [],_,_,_,h=>h
 | (m,kd)::r,k,acc,n,h=>by
  unfold cellsFrom
  split
  ·refine Zem r _ _ n ?_
   erw[rwl (List.lookup_cons ..) ?_]
   split
   ·rfl
   ·exact h
  ·exact Zem r _ _ n h
theorem Zc6:∀(names:List (Str×NameKind)) (k:Nat) (acc:List (Str×Addr)) (n:Str),(n,NameKind.cell)∈names->((cellsFrom k names acc).lookup n).isSome
 | (m,kd)::r,k,acc,n,h=>by
  unfold cellsFrom
  rcases List.mem_cons.mp h with e | h
  ·cases e
   rw[if_pos (by rfl)]
   exact Zem r _ _ _ (by erw[rwl (List.lookup_cons ..) (rwl (beq_self_eq_true ..) ?_)];rfl)
  ·split
   ·exact Zc6 r _ _ n h
   ·exact Zc6 r _ _ n h
noncomputable def ZeV(m:Nat)(ds:List D):Sg:=ds.map .fz++List.replicate (m - ds.length) .un
noncomputable abbrev Zbi(Gd:Heap->Prop)(fd:FuncData)(o:Obj)(a:Addr)(body:List Stmt)(ps:List Str):Prop:=(∀h,Gd h->h.get? a=some o)∧(o.data=.func fd)∧(∀h,Gd h->h.CodeRec fd.code fd.qualname)∧(fd.body=.stmts body)∧(fd.closure=[])∧(fd.globals=mainGlobals)∧(fd.builtins=builtinsNs)∧(∀vals:List Value,vals.length=ps.length->bindArgs fd ⟨vals,[]⟩=pure (ps.zip vals))∧(fd.scope.isCoroutine=false)∧(fd.scope.isGenerator=false)∧(fd.scope.kind=.function)∧(∀p∈ps,fd.scope.names.lookup p=some .local∨fd.scope.names.lookup p=some .cell)
theorem Zbi.ob{Gd:Heap->Prop}{fd:FuncData}{o:Obj}{a:Addr}{body:List Stmt}{ps:List Str}(slf:Zbi Gd fd o a body ps):∀h,Gd h->h.get? a=some o:=slf.1
theorem Zbi.da{Gd:Heap->Prop}{fd:FuncData}{o:Obj}{a:Addr}{body:List Stmt}{ps:List Str}(slf:Zbi Gd fd o a body ps):o.data=.func fd:=slf.2.1
theorem Zbi.cr{Gd:Heap->Prop}{fd:FuncData}{o:Obj}{a:Addr}{body:List Stmt}{ps:List Str}(slf:Zbi Gd fd o a body ps):∀h,Gd h->h.CodeRec fd.code fd.qualname:=slf.2.2.1
theorem Zbi.bo{Gd:Heap->Prop}{fd:FuncData}{o:Obj}{a:Addr}{body:List Stmt}{ps:List Str}(slf:Zbi Gd fd o a body ps):fd.body=.stmts body:=slf.2.2.2.1
theorem Zbi.cl{Gd:Heap->Prop}{fd:FuncData}{o:Obj}{a:Addr}{body:List Stmt}{ps:List Str}(slf:Zbi Gd fd o a body ps):fd.closure=[]:=slf.2.2.2.2.1
theorem Zbi.gl{Gd:Heap->Prop}{fd:FuncData}{o:Obj}{a:Addr}{body:List Stmt}{ps:List Str}(slf:Zbi Gd fd o a body ps):fd.globals=mainGlobals:=slf.2.2.2.2.2.1
theorem Zbi.bu{Gd:Heap->Prop}{fd:FuncData}{o:Obj}{a:Addr}{body:List Stmt}{ps:List Str}(slf:Zbi Gd fd o a body ps):fd.builtins=builtinsNs:=slf.2.2.2.2.2.2.1
theorem Zbi.bi{Gd:Heap->Prop}{fd:FuncData}{o:Obj}{a:Addr}{body:List Stmt}{ps:List Str}(slf:Zbi Gd fd o a body ps):∀vals:List Value,vals.length=ps.length->bindArgs fd ⟨vals,[]⟩=pure (ps.zip vals):=slf.2.2.2.2.2.2.2.1
theorem Zbi.co{Gd:Heap->Prop}{fd:FuncData}{o:Obj}{a:Addr}{body:List Stmt}{ps:List Str}(slf:Zbi Gd fd o a body ps):fd.scope.isCoroutine=false:=slf.2.2.2.2.2.2.2.2.1
theorem Zbi.gen{Gd:Heap->Prop}{fd:FuncData}{o:Obj}{a:Addr}{body:List Stmt}{ps:List Str}(slf:Zbi Gd fd o a body ps):fd.scope.isGenerator=false:=slf.2.2.2.2.2.2.2.2.2.1
theorem Zbi.kd{Gd:Heap->Prop}{fd:FuncData}{o:Obj}{a:Addr}{body:List Stmt}{ps:List Str}(slf:Zbi Gd fd o a body ps):fd.scope.kind=.function:=slf.2.2.2.2.2.2.2.2.2.2.1
theorem Zbi.ks{Gd:Heap->Prop}{fd:FuncData}{o:Obj}{a:Addr}{body:List Stmt}{ps:List Str}(slf:Zbi Gd fd o a body ps):∀p∈ps,fd.scope.names.lookup p=some .local∨fd.scope.names.lookup p=some .cell:=slf.2.2.2.2.2.2.2.2.2.2.2
theorem Zjh(kf:Str->Option NameKind):∀(b:List (Str×Value)) (m:Str->Option Value) (n:Str),(∀y∈b,y.1≠n)->bindL kf b m n=m n
 | [],_,_,_=>rfl
 | (k,v)::r,m,n,h=>by
  have hk:=h (k,v) List.mem_cons_self
  unfold bindL
  rw[Zjh kf r _ n λy hy=>h y (List.mem_cons_of_mem _ hy)]
  split
  ·exact if_neg (Ne.symm hk)
  ·rfl
theorem Zjt(kf:Str->Option NameKind):∀(b:List (Str×Value)) (m:Str->Option Value) (n:Str),(∀y∈b,y.1≠n)->bindC kf b m n=m n
 | [],_,_,_=>rfl
 | (k,v)::r,m,n,h=>by
  have hk:=h (k,v) List.mem_cons_self
  unfold bindC
  rw[Zjt kf r _ n λy hy=>h y (List.mem_cons_of_mem _ hy)]
  split
  ·rfl
  ·exact if_neg (Ne.symm hk)
theorem Zi7(kf:Str->Option NameKind):∀(ps:List Str) (vs:List Value) (m cm:Str->Option Value) (i:Nat) (n:Str) (v:Value),ps.Nodup->ps[i]? = some n->vs[i]? = some v->
  (kf n=some .local->bindL kf (ps.zip vs) m n=some v)∧(kf n≠some .local->bindC kf (ps.zip vs) cm n=some v)
 | p::ps,u::vs,m,cm,0,n,v,hd,h1,h2=>by
  simp at h1 h2
  subst h1 h2
  have hn:∀y∈ps.zip vs,y.1≠p:=λy hy e=>by
   have:=List.of_mem_zip hy
   rw[e] at this
   exact(List.nodup_cons.mp hd).1 this.1
  constructor
  ·intro hk
   show bindL kf (ps.zip vs) _ p=_
   rw[Zjh kf _ _ _ hn,if_pos hk,if_pos rfl]
  ·intro hk
   show bindC kf (ps.zip vs) _ p=_
   rw[Zjt kf _ _ _ hn,if_neg hk,if_pos rfl]
 | p::ps,u::vs,m,cm,i+1,n,v,hd,h1,h2=>Zi7 kf ps vs _ _ i n v (List.nodup_cons.mp hd).2 (by simpa using h1) (by simpa using h2)
 | [],_,_,_,i,n,v,_,h1,_=>by simp at h1
 | _::_,[],_,_,i,n,v,_,_,h2=>by simp at h2
section
variable {prog:Program}{w:World}{base:Addr->Prop}{mg mb:Str->Option Value}{Gd:Heap->Prop}{Γ:ZaC}{fn:Nat->Str}{fa:Nat->Addr}{n N:Nat}{A:Around}{P:Addr->Prop}{s:Shared}
theorem ZqA{M:Model}{A:Around}{E:Value->Shared->Prop}{s:Shared}{scope:Scope}{globals:Addr}{y:Str}{v:Value}{qual:Str}{func:Option Addr}{code:Value}{builtins:Addr}{Q:Env->Shared->Prop}
  (hk:scope.kind=.function) (hl:scope.names.lookup y=some .local)
  (hQ:∀env,env=newEnv scope s.heap.objs.size globals (cellsFrom (s.heap.objs.size+1) scope.names []) qual func code none builtins->
   ∀s',InCallC s env.locals (bindL env.kindOf [(y,v)] λ_=>none) env.cells (bindC env.kindOf [(y,v)] λ_=>none) s'->1<=s'.toks->Q env s') :
  wpAny M A (newFunctionEnv scope globals [] [(y,v)] qual func code none builtins) Q E s:=by
 simp only[newFunctionEnv,Option.isSome_none,Bool.false_eq_true,if_false]
 refine wpAny_bind (wpAny_alloc ?_)
 refine wpAny_bind (wpAny_layCells _ (λname kind cells=>by cases hkc:kind==NameKind.cell<;>simp[hkc]) _ _ _ _ ?_)
 have ok:=cellsFrom_ok scope.names (s.heap.push { cls:=.type "frame",data:=.dict #[] }) (s.heap.objs.size+1) [] ⟨λ_ _ hm=>(nomatch hm),List.Pairwise.nil⟩ (by rw[Heap.size_push];exact Nat.le_refl _)
 rw[Heap.size_push] at ok
 rw[show({ s with heap:=s.heap.push { cls:=.type "frame",data:=.dict #[] } }:Shared).heap.objs.size=s.heap.objs.size+1 from Heap.size_push ..]
 have x:InCallC s (newEnv scope s.heap.objs.size globals (cellsFrom (s.heap.objs.size+1) scope.names []) qual func code none builtins).locals (λ_=>none) (newEnv scope s.heap.objs.size globals (cellsFrom (s.heap.objs.size+1) scope.names []) qual func code none builtins).cells (λ_=>none)
   { s with heap:=pushCells (s.heap.push { cls:=.type "frame",data:=.dict #[] }) scope.names }:=
  ⟨⟨⟨_,_,rfl⟩,(Heap.Ns.new s.heap (.type "frame")).keeps (pushCells_keeps _ _),λb o e=>pushCells_keeps _ _ b o (Heap.get?_push_of_some _ e),Nat.le_refl _⟩,
   λn c hc=>(ok.empty n c (mem_of_lookup hc)).1,ok.apart,λn c hm=>(ok.empty n c hm).2⟩
 have hkf:(newEnv scope s.heap.objs.size globals (cellsFrom (s.heap.objs.size+1) scope.names []) qual func code none builtins).kindOf y=some .local:=hl
 refine wpAny_bind ?_
 rw[List.forIn_cons]
 refine wpAny_bind (wpAny_bind (wpAny_storeName_local (env:=newEnv scope s.heap.objs.size globals (cellsFrom (s.heap.objs.size+1) scope.names []) qual func code none builtins) hkf x.toInCall.ns (λh' hn' hs'=>?_) (by show((scope.kind==.class)||((scope.kind==.module)&&_))=false;rw[hk];rfl)))
 refine wpAny_pure ?_
 dsimp only
 rw[List.forIn_nil]
 refine wpAny_pure (wpAny_pure (hQ _ rfl _ ⟨⟨⟨h',_,rfl⟩,?_,λb o e=>?_,x.toInCall.fresh⟩,λk c hc=>?_,x.apart,x.above⟩ (Nat.le_add_left 1 s.toks)))
 ·unfold bindL
  rw[if_pos hkf]
  exact hn'
 ·exact hs'.extBut b o (Nat.ne_of_lt (Nat.lt_of_lt_of_le (Heap.lt_size e) x.toInCall.fresh)) (x.toInCall.keep b o e)
 ·unfold bindC
  rw[if_pos hkf]
  exact(x.cell k c hc).sameBut hs' (Nat.ne_of_gt (x.above k c (mem_of_lookup hc)))
theorem Zqp{h:Heap}{a:Addr}(q:h.objs.size<=a):h.get? a=none:=by
 cases e:h.get? a with
 | none=>rfl
 | some o=>exact absurd (Heap.lt_size e) (Nat.not_lt.mpr q)
theorem Zcj(G:Gr base mg mb Gd){fd:FuncData}{o:Obj}{a:Addr}{body:List Stmt}{ps nm:List Str}(Df:Zbi Gd fd o a body ps)(hnm:∃rest,nm=ps++rest)(hnd:nm.Nodup)
  {ds:List D} {vs:List Value} {R:Result->Shared->Prop} (hl:ds.length=ps.length) (L:Lv A (n+1)) (okg:Gd s.heap) (okt:1<=s.toks∨∃p,ps=[p]∧fd.scope.names.lookup p=some .local) (hP:Pf P s.heap) (hr:Zad P s.heap vs ds)
  (k:∀(A':Around) (F:Fp) (ad:Nat->Bool->Addr) (s₁:Shared) (E:Value->Shared->Prop),F.base=base->F.Gd=Gd->F.sc=fd.scope->F.nm=nm->F.P0=P->F.s0=s->Fs F->Lv A' n->Fm F (λ_=>False) ad (ZeV nm.length ds) s₁->F.env.code=fd.code∧F.env.qual=fd.qualname ++ ".<locals>." ->
   wpAny (model prog w) A' (execs body F.env) (λf s'=>R (.ok (.ret (match f with | .ret v=>v | _=>.none))) s') E s₁) :
  codeAny (model prog w) A (.call (.ref a) ⟨vs,[]⟩) R s:=by
 obtain⟨rest,rfl⟩:=hnm
 have hvl:=hr.length
 refine codeAny_call_function (by have:=L.dp;have e:recursionLimit=1000:=rfl;lia) (Df.ob _ okg) Df.da Df.co Df.gen Df.bo (Df.cr _ okg) ?_
 rw[Df.bi vs (by lia),Df.cl]
 have hmem:∀y∈ps.zip vs,y.1∈ps:=λy hy=>(List.of_mem_zip hy).1
 refine wpAny_pure ?_
 have key:∀Q:Env->Shared->Prop,∀E',(∀env,env=newEnv fd.scope s.heap.objs.size fd.globals (cellsFrom (s.heap.objs.size+1) fd.scope.names []) (fd.qualname ++ ".<locals>.") (some a) fd.code none fd.builtins->
   ∀s',InCallC s env.locals (bindL env.kindOf (ps.zip vs) λ_=>none) env.cells (bindC env.kindOf (ps.zip vs) λ_=>none) s'->1<=s'.toks->Q env s')->wpAny (model prog w) A.in1 (newFunctionEnv fd.scope fd.globals [] (ps.zip vs) (fd.qualname ++ ".<locals>.") (some a) fd.code none fd.builtins) Q E' s:=λQ E' hQ=>by
  rcases okt with ht | ⟨p,rfl,hp⟩
  ·exact wrap ht (wpAny_newFunctionEnv_cells Df.kd (λy hy=>(Df.ks y.1 (hmem y hy)).imp id λh=>⟨h,Zc6 _ _ _ _ (mem_lookup h)⟩) λenv he s₁ x htk=>hQ env he s₁ x htk)
  ·cases vs with
   | nil=>cases hr;cases hl
   | cons v vs=>
    cases vs with
    | nil=>exact ZqA Df.kd hp hQ
    | cons _ _=>simp at hvl;simp at hl;lia
 refine key _ _ λenv he s₁ x htk=>?_
 have hsc:env.scope=fd.scope:=by subst he;rfl
 have hgl:env.globals=fd.globals:=by subst he;rfl
 have hbu:env.builtins=fd.builtins:=by subst he;rfl
 have hloc:env.locals=s.heap.objs.size:=by subst he;rfl
 have hcells:env.cells=cellsFrom (s.heap.objs.size+1) fd.scope.names []:=by subst he;rfl
 have hkf:∀z,env.kindOf z=fd.scope.names.lookup z:=λz=>by rw[Env.kindOf,hsc]
 refine⟨(G.lim _ okg).keeps x.toInCall.keep,codeAny_func ?_⟩
 have sL:=Zau s.heap
 have sC:∀z c,env.cells.lookup z=some c->s.heap.get? c=none:=λz c h=>Zqp (by have:=x.above z c (mem_of_lookup h);rw[hloc] at this;exact Nat.le_of_lt this)
 have gw:Gw s s₁:=by
  obtain⟨h',tk,rfl⟩:=x.toInCall.same
  exact .of_keep x.toInCall.keep
 have ok₁:Ok Gd s₁:=⟨G.keeps okg x.toInCall.keep,htk⟩
 let F:Fp:=⟨base,Gd,env,fd.scope,ps++rest,P,s⟩
 have H:Fs F:=⟨hsc,
  Df.kd,
  hgl.trans Df.gl,
  hbu.trans Df.bu,
  hP,
  (λz h=>Option.isSome_iff_exists.mp (by show(List.lookup z env.cells).isSome=true;rw[hcells];exact Zc6 _ _ _ _ (mem_lookup h))),
  (λi j z h1 h2=>by
   have h1':i < (ps++rest).length:=by
    rcases Nat.lt_or_ge i (ps++rest).length with q | q
    ·exact q
    ·have h1:(ps++rest)[i]? = some z:=h1
     rw[List.getElem?_eq_none q] at h1;cases h1
   exact(List.getElem?_inj h1' hnd).mp (h1.trans h2.symm)),
  (λz z' c h1 h2=>name_of_addr x.apart (mem_of_lookup h1) (mem_of_lookup h2)),
  (by show s.heap.get? env.locals=none∧¬base env.locals;rw[hloc];exact⟨sL,G.fresh okg sL⟩),
  (λz c h=>⟨sC z c h,G.fresh okg (sC z c h)⟩)⟩
 have nob:∀i b,¬Ob (ZeV (ps++rest).length ds) i b:=λi b ⟨sl,e,hb⟩=>by
  have:=List.mem_of_getElem? e
  unfold ZeV at this
  rcases List.mem_append.mp this with q | q
  ·obtain⟨d,_,rfl⟩:=List.mem_map.mp q;cases hb
  ·have:=List.eq_of_mem_replicate q;subst this;cases hb
 refine k (A.deeper env) F (λ_ _=>0) s₁ _ rfl rfl rfl rfl rfl rfl H ⟨L.hd,by have:=L.dp;show A.depth+1+n<=900;lia,by have:=L.un;show A.units+3+3 * n<=9000;lia⟩ ⟨gw,
  ok₁,
  ⟨_,x.toInCall.ns⟩,
  (λz c h=>⟨_,x.cell z c h⟩),
  (λi b h=>absurd h (nob i b)),
  (λi b _ _ h=>absurd h (nob i b)),
  (λ_ h=>nomatch h),
  (λi sl e hne=>by
   unfold ZeV at e
   rcases Nat.lt_or_ge i ds.length with q | q
   ·rw[List.getElem?_append_left (by simpa using q),List.getElem?_map,List.getElem?_eq_getElem q] at e
    simp only[Option.map_some,Option.some.injEq] at e
    subst e
    obtain⟨v,hv,rv⟩:=hr.get (List.getElem?_eq_getElem q)
    have hp:ps[i]? = some ps[i]:=List.getElem?_eq_getElem (by lia)
    have hb:=Zi7 env.kindOf ps vs (λ_=>none) (λ_=>none) i _ v (List.nodup_append.mp hnd).1 hp hv
    refine⟨ps[i],v,?_,?_,.fz (rv.mono λb o nn e p=>⟨⟨p,λz=>(by
     rcases z with z | ⟨z',z⟩ | ⟨j,c,z,_⟩
     ·rw[show b=s.heap.objs.size from z.trans hloc,sL] at e;cases e
     ·rw[sC z' b z] at e;cases e
     ·exact nob j c z),id⟩,gw.kp b o nn e⟩)⟩
    ·show(ps++rest)[i]? = _
     rw[List.getElem?_append_left (by lia)];exact hp
    ·have hks:=Df.ks ps[i] (List.getElem_mem _)
     rw[←hkf] at hks
     rcases hks with hks | hks
     ·exact .inl ⟨hks,_,x.toInCall.ns,hb.1 hks⟩
     ·obtain⟨c,hc⟩:=H.lk ps[i] (by rw[hkf] at hks;exact hks)
      refine .inr ⟨.inl hks,c,hc,?_⟩
      rw[←hb.2 (by rw[hks];decide)]
      exact x.cell _ c hc
   ·rw[List.getElem?_append_right (by simpa using q)] at e
    have:=List.mem_of_getElem? e
    exact absurd (List.eq_of_mem_replicate this) hne)⟩ ⟨by subst he;rfl,by subst he;rfl⟩
end
end
section
set_option backward.match.sparseCases false
noncomputable def run(Γ:ZaC)(N:Nat)(k m:Nat)(st:S)(ds:List D):Option D:=if ds.length=k then match ex Γ N st (ZeV m ds) with
 | some (.ret d,_)=>some d
 | _=>none
 else none
section
variable {prog:Program}{w:World}{base:Addr->Prop}{mg mb:Str->Option Value}{Gd:Heap->Prop}{Γ:ZaC}{fn:Nat->Str}{fa:Nat->Addr}{n N:Nat}
noncomputable def Zan(prog:Program)(w:World)(Gd:Heap->Prop)(a:Addr)(n:Nat)(sem:List D->Option D):Prop:=∀ds d,sem ds=some d->∀(A:Around) (P:Addr->Prop) (s:Shared) (vs:List Value) (R:Result->Shared->Prop),Lv A n->Ok Gd s->Pf P s.heap->Zad P s.heap vs ds->
  (∀v s',Gw s s'->Ok Gd s'->Rd P s'.heap v d->R (.ok (.ret v)) s')->codeAny (model prog w) A (.call (.ref a) ⟨vs,[]⟩) R s
theorem Zan.up{a:Addr}{n m:Nat}{sem:List D->Option D}(c:Zan prog w Gd a n sem)(h:n<=m):Zan prog w Gd a m sem:=
 λds d hd A P s vs R L ok hP hr k=>c ds d hd A P s vs R (L.le h) ok hP hr k
set_option tactic.hygienic true in
theorem Zsk(G:Gr base mg mb Gd)(C:Zak prog w Gd mg Γ fn fa n){fd:FuncData}{o:Obj}{a:Addr}{body:List Stmt}{ps nm:List Str}{st:S}(Df:Zbi Gd fd o a body ps){sc:Scope}(hsc:fd.scope=sc)(hnm:∃rest,nm=ps++rest)(hnd:nm.Nodup)
  (hm:ms nm fn sc st body=true) (hst:st.Zcw []=true):Zan prog w Gd a (n+1) (run Γ N ps.length nm.length st):=by
 subst hsc
 intro ds d hd A P s vs R L ok hP hr k
 unfold run at hd
 split at hd
 ·rename_i hl
  split at hd
  ·rename_i d' σ' hx
   cases hd
   refine Zcj G Df hnm hnd hl L ok.gd (.inl ok.tk) hP hr λA' F ad s₁ E e1 e2 e3 e4 e5 e6 H L' f _=>?_
   have Gf:Gr F.base mg mb F.Gd:=by erw[rwl (e1 ..) (rwl (e2 ..) ?_)];exact G
   have Cf:Zak prog w F.Gd mg Γ fn fa n:=by erw[rwl (e2 ..) ?_];exact C
   refine(ZjF (xs:=[]) Gf H Cf (λ_ _ _ _ _ _ _ h=>nomatch h) (λ_ _ _ _ h=>nomatch h) st hst).2 body _ ad _ A' s₁ E _ _ σ' (by erw[rwl (e3 ..) (rwl (e4 ..) ?_)];exact hm) L' f hx λv s' g' o' r'=>?_
   rw[e6] at g'
   rw[e2] at o'
   rw[e5] at r'
   exact k v s' g' o' r'
  ·cases hd
 ·cases hd
end
end
section
noncomputable def fnN:Nat->Str
 | 0 => "reduce"
 | 1 => "translate"
 | 2 => "escape"
 | 3 => "_translate"
 | 4 => "_join_translated_parts"
 | 5 => "_law_set"
 | 6 => "_law_items"
 | 7 => "_law_hit"
 | 8 => "_law_told"
 | 9 => "_law_word"
 | 10 => "_law_class"
 | 11 => "_law_read"
 | 12 => "_law_takes"
 | 13 => "_law_wide"
 | 14 => "_law_names"
 | 15 => "_law_pattern"
 | 16 => "_law_step"
 | 17 => "_law_value"
 | 18 => "_law_stack"
 | 19 => "law"
 | _ => "law"
noncomputable def faN:Nat->Addr
 | 0=>40
 | 1=>52
 | 2=>64
 | 3=>71
 | 4=>78
 | 5=>85
 | 6=>92
 | 7=>97
 | 8=>102
 | 9=>109
 | 10=>116
 | 11=>123
 | 12=>128
 | 13=>135
 | 14=>142
 | 15=>147
 | 16=>152
 | 17=>159
 | 18=>164
 | 19=>169
 | _=>0
noncomputable def ZhU:List Str:=["pat","STAR","QUESTION_MARK","res","add","i","n","c","j","stuff","chunks","k","chunk","s"]
noncomputable def ZcW:S:=
 .seq (.asgO 3 .nil) <|
 .seq (.bnd 4 3) <|
 .seq (.unpS [5,6] (.cons (.const (.int 0)) (.cons (.bfn .len (.var 0)) .nil))) <|
 .seq (.whl (.tcmp .lt (.var 5) (.var 6)) (
  .seq (.asg 7 (.idx (.var 0) (.var 5))) <|
  .seq (.asg 5 (.bin .add (.var 5) (.const (.int 1)))) <|
  .seq (.ifs (.tcmp .eq (.var 7) (.const (.str [42]))) (
   .seq (.ifs (.tor (.cons (.tnot (.tval (.tvar 3))) (.cons (.tcmp .isnt (.idx (.tvar 3) (.const (.int (-1)))) (.var 1)) .nil))) (
    .seq (.add 4 3 (.var 1)) <| .skip) (.skip)) <| .skip) (
   .seq (.ifs (.tcmp .eq (.var 7) (.const (.str [63]))) (
    .seq (.add 4 3 (.var 2)) <| .skip) (
    .seq (.ifs (.tcmp .eq (.var 7) (.const (.str [91]))) (
     .seq (.asg 8 (.var 5)) <|
     .seq (.ifs (.tand (.cons (.tcmp .lt (.var 8) (.var 6)) (.cons (.tcmp .eq (.idx (.var 0) (.var 8)) (.const (.str [33]))) .nil))) (
      .seq (.asg 8 (.bin .add (.var 8) (.const (.int 1)))) <| .skip) (.skip)) <|
     .seq (.ifs (.tand (.cons (.tcmp .lt (.var 8) (.var 6)) (.cons (.tcmp .eq (.idx (.var 0) (.var 8)) (.const (.str [93]))) .nil))) (
      .seq (.asg 8 (.bin .add (.var 8) (.const (.int 1)))) <| .skip) (.skip)) <|
     .seq (.whl (.tand (.cons (.tcmp .lt (.var 8) (.var 6)) (.cons (.tcmp .ne (.idx (.var 0) (.var 8)) (.const (.str [93]))) .nil))) (
      .seq (.asg 8 (.bin .add (.var 8) (.const (.int 1)))) <| .skip)) <|
     .seq (.ifs (.tcmp .ge (.var 8) (.var 6)) (
      .seq (.add 4 3 (.const (.str [92,91]))) <| .skip) (
      .seq (.asg 9 (.slc (.var 0) (.var 5) (.var 8))) <|
      .seq (.ifs (.tcmp .notin (.const (.str [45])) (.var 9)) (
       .seq (.asg 9 (.repl (.var 9) 92 92 [92])) <| .skip) (
       .seq (.asgO 10 .nil) <|
       .seq (.asg 11 (.ite (.tcmp .eq (.idx (.var 0) (.var 5)) (.const (.str [33]))) (.bin .add (.var 5) (.const (.int 2))) (.bin .add (.var 5) (.const (.int 1))))) <|
       .seq (.whl (.tval (.const (.bool true))) (
        .seq (.asg 11 (.find3 (.var 0) (.const (.str [45])) (.var 11) (.var 8))) <|
        .seq (.ifs (.tcmp .lt (.var 11) (.const (.int 0))) (
         .seq .brk <| .skip) (.skip)) <|
        .seq (.app 10 (.slc (.var 0) (.var 5) (.var 11))) <|
        .seq (.asg 5 (.bin .add (.var 11) (.const (.int 1)))) <|
        .seq (.asg 11 (.bin .add (.var 11) (.const (.int 3)))) <| .skip)) <|
       .seq (.asg 12 (.slc (.var 0) (.var 5) (.var 8))) <|
       .seq (.ifs (.tval (.var 12)) (
        .seq (.app 10 (.var 12)) <| .skip) (
        .seq (.augL 10 45) <| .skip)) <|
       .seq (.fors 11 (.range3 (.bin .sub (.bfn .len (.tvar 10)) (.const (.int 1))) (.const (.int 0)) (.const (.int (-1)))) (
        .seq (.ifs (.tcmp .gt (.idx (.idx (.tvar 10) (.bin .sub (.var 11) (.const (.int 1)))) (.const (.int (-1)))) (.idx (.idx (.tvar 10) (.var 11)) (.const (.int 0)))) (
         .seq (.setI 10 (.bin .sub (.var 11) (.const (.int 1))) (.bin .add (.slc (.idx (.tvar 10) (.bin .sub (.var 11) (.const (.int 1)))) (.const .none) (.const (.int (-1)))) (.slc (.idx (.tvar 10) (.var 11)) (.const (.int 1)) (.const .none)))) <|
         .seq (.delI 10 (.var 11)) <| .skip) (.skip)) <| .skip)) <|
       .seq (.asgJ 9 [45] 13 (.repl (.repl (.var 13) 92 92 [92]) 45 92 [45]) (.tvar 10) 76 37) <| .skip)) <|
      .seq (.asgR 9 (.var 9) 77 39) <|
      .seq (.asg 5 (.bin .add (.var 8) (.const (.int 1)))) <|
      .seq (.ifs (.tnot (.tval (.var 9))) (
       .seq (.add 4 3 (.const (.str [40,63,33,41]))) <| .skip) (
       .seq (.ifs (.tcmp .eq (.var 9) (.const (.str [33]))) (
        .seq (.add 4 3 (.const (.str [46]))) <| .skip) (
        .seq (.ifs (.tcmp .eq (.idx (.var 9) (.const (.int 0))) (.const (.str [33]))) (
         .seq (.asg 9 (.bin .add (.const (.str [94])) (.slc (.var 9) (.const (.int 1)) (.const .none)))) <| .skip) (
         .seq (.ifs (.tcmp .isin (.idx (.var 9) (.const (.int 0))) (.tuple (.cons (.const (.str [94])) (.cons (.const (.str [91])) .nil)))) (
          .seq (.asg 9 (.bin .add (.const (.str [92])) (.var 9))) <| .skip) (.skip)) <| .skip)) <|
        .seq (.add 4 3 (.fstr [91] (.var 9) [93])) <| .skip)) <| .skip)) <| .skip)) <| .skip) (
     .seq (.add 4 3 (.call 2 (.cons (.var 7) .nil))) <| .skip)) <| .skip)) <| .skip)) <| .skip)) <|
 .seq (.asr (.tcmp .eq (.var 5) (.var 6))) <|
 .seq (.ret (.var 3)) <| .skip
noncomputable def Zcd:List Str:=["inp","STAR","res","add","i","n","fixed"]
noncomputable def ZaA:S:=
 .seq (.asgO 2 .nil) <|
 .seq (.bnd 3 2) <|
 .seq (.unpS [4,5] (.cons (.const (.int 0)) (.cons (.bfn .len (.var 0)) .nil))) <|
 .seq (.whl (.tand (.cons (.tcmp .lt (.var 4) (.var 5)) (.cons (.tcmp .isnt (.idx (.var 0) (.var 4)) (.var 1)) .nil))) (
  .seq (.add 3 2 (.idx (.var 0) (.var 4))) <|
  .seq (.aug 4 .add (.const (.int 1))) <| .skip)) <|
 .seq (.whl (.tcmp .lt (.var 4) (.var 5)) (
  .seq (.asr (.tcmp .is_ (.idx (.var 0) (.var 4)) (.var 1))) <|
  .seq (.aug 4 .add (.const (.int 1))) <|
  .seq (.ifs (.tcmp .eq (.var 4) (.var 5)) (
   .seq (.add 3 2 (.const (.str [46,42]))) <|
   .seq .brk <| .skip) (.skip)) <|
  .seq (.asr (.tcmp .isnt (.idx (.var 0) (.var 4)) (.var 1))) <|
  .seq (.asgO 6 .nil) <|
  .seq (.whl (.tand (.cons (.tcmp .lt (.var 4) (.var 5)) (.cons (.tcmp .isnt (.idx (.var 0) (.var 4)) (.var 1)) .nil))) (
   .seq (.app 6 (.idx (.var 0) (.var 4))) <|
   .seq (.aug 4 .add (.const (.int 1))) <| .skip)) <|
  .seq (.asg 6 (.join (.const (.str [])) (.tvar 6))) <|
  .seq (.ifs (.tcmp .eq (.var 4) (.var 5)) (
   .seq (.add 3 2 (.const (.str [46,42]))) <|
   .seq (.add 3 2 (.var 6)) <| .skip) (
   .seq (.add 3 2 (.fstr [40,63,62,46,42,63] (.tvar 6) [41])) <| .skip)) <| .skip)) <|
 .seq (.asr (.tcmp .eq (.var 4) (.var 5))) <|
 .seq (.asg 2 (.join (.const (.str [])) (.tvar 2))) <|
 .seq (.ret (.fstr [40,63,115,58] (.var 2) [41,92,90])) <| .skip
noncomputable def Zke:List Str:=["body","bar","at","members"]
noncomputable def Zc8:S:=
 .seq (.asg 1 (.cmp .eq (.idx (.var 0) (.const (.int 0))) (.const (.str [33])))) <|
 .seq (.asg 2 (.ite (.tval (.var 1)) (.const (.int 1)) (.const (.int 0)))) <|
 .seq (.asgO 3 .nil) <|
 .seq (.whl (.tcmp .lt (.var 2) (.bfn .len (.var 0))) (
  .seq (.ifs (.tand (.cons (.tcmp .eq (.slc (.var 0) (.bin .add (.var 2) (.const (.int 1))) (.bin .add (.var 2) (.const (.int 2)))) (.const (.str [45]))) (.cons (.tcmp .lt (.bin .add (.var 2) (.const (.int 2))) (.bfn .len (.var 0))) .nil))) (
   .seq (.ifs (.tcmp .le (.idx (.var 0) (.var 2)) (.idx (.var 0) (.bin .add (.var 2) (.const (.int 2))))) (
    .seq (.app 3 (.slc (.var 0) (.var 2) (.bin .add (.var 2) (.const (.int 3))))) <| .skip) (.skip)) <|
   .seq (.aug 2 .add (.const (.int 3))) <| .skip) (
   .seq (.app 3 (.idx (.var 0) (.var 2))) <|
   .seq (.aug 2 .add (.const (.int 1))) <| .skip)) <| .skip)) <|
 .seq (.ifs (.tand (.cons (.tnot (.tval (.var 1))) (.cons (.tcmp .ne (.tvar 3) (.list .nil)) (.cons (.tcmp .eq (.idx (.idx (.tvar 3) (.const (.int 0))) (.const (.int 0))) (.const (.str [33]))) .nil)))) (
  .seq (.asg 1 (.const (.bool true))) <|
  .seq (.asg 3 (.bin .add (.bfn .list (.slc (.idx (.tvar 3) (.const (.int 0))) (.const (.int 1)) (.const .none))) (.slc (.tvar 3) (.const (.int 1)) (.const .none)))) <| .skip) (.skip)) <|
 .seq (.ret (.tuple (.cons (.var 1) (.cons (.var 3) .nil)))) <| .skip
noncomputable def Zha:List Str:=["pattern","items","at","sign","end"]
noncomputable def ZcV:S:=
 .seq (.asgO 1 .nil) <|
 .seq (.asg 2 (.const (.int 0))) <|
 .seq (.whl (.tcmp .lt (.var 2) (.bfn .len (.var 0))) (
  .seq (.asg 3 (.idx (.var 0) (.var 2))) <|
  .seq (.aug 2 .add (.const (.int 1))) <|
  .seq (.asg 4 (.find2 (.var 0) (.const (.str [93])) (.bin .add (.var 2) (.ite (.tcmp .eq (.slc (.var 0) (.var 2) (.bin .add (.var 2) (.const (.int 1)))) (.const (.str [33]))) (.const (.int 2)) (.const (.int 1)))))) <|
  .seq (.ifs (.tcmp .eq (.var 3) (.const (.str [42]))) (
   .seq (.app 1 (.const (.str [42]))) <| .skip) (
   .seq (.ifs (.tcmp .eq (.var 3) (.const (.str [63]))) (
    .seq (.app 1 (.tuple (.cons (.const (.bool true)) (.cons (.list .nil) .nil)))) <| .skip) (
    .seq (.ifs (.tand (.cons (.tcmp .eq (.var 3) (.const (.str [91]))) (.cons (.tcmp .ge (.var 4) (.const (.int 0))) .nil))) (
     .seq (.app 1 (.call 5 (.cons (.slc (.var 0) (.var 2) (.var 4)) .nil))) <|
     .seq (.asg 2 (.bin .add (.var 4) (.const (.int 1)))) <| .skip) (
     .seq (.app 1 (.tuple (.cons (.const (.bool false)) (.cons (.list (.cons (.var 3) .nil)) .nil)))) <| .skip)) <| .skip)) <| .skip)) <| .skip)) <|
 .seq (.ret (.var 1)) <| .skip
noncomputable def Zkh:List Str:=["item","sign","bar","members","one"]
noncomputable def Zkt:S:=
 .seq (.unp [2,3] (.var 0)) <|
 .seq (.ret (.cmp .ne (.cmp .isin (.const (.bool true)) (.comp [1] 4 (.cmp2 .le .le (.idx (.var 4) (.const (.int 0))) (.var 1) (.idx (.var 4) (.const (.int (-1))))) (.var 3) (.const .none))) (.var 2))) <| .skip
noncomputable def Zib:List Str:=["items","name","heads","item","k"]
noncomputable def Zft:S:=
 .seq (.asg 2 (.bin .add (.list (.cons (.const (.bool true)) .nil)) (.bin .mul (.list (.cons (.const (.bool false)) .nil)) (.bfn .len (.var 1))))) <|
 .seq (.fors 3 (.var 0) (
  .seq (.ifs (.tcmp .eq (.var 3) (.const (.str [42]))) (
   .seq (.asg 2 (.comp [2] 4 (.cmp .isin (.const (.bool true)) (.slc (.var 2) (.const .none) (.bin .add (.var 4) (.const (.int 1))))) (.range1 (.bfn .len (.var 2))) (.const .none))) <| .skip) (
   .seq (.asg 2 (.bin .add (.list (.cons (.const (.bool false)) .nil)) (.comp [2,3,1] 4 (.band (.cons (.idx (.var 2) (.var 4)) (.cons (.call 7 (.cons (.var 3) (.cons (.idx (.var 1) (.var 4)) .nil))) .nil))) (.range1 (.bfn .len (.var 1))) (.const .none)))) <| .skip)) <| .skip)) <|
 .seq (.ret (.idx (.var 2) (.const (.int (-1))))) <| .skip
noncomputable def Zir:List Str:=["sign"]
noncomputable def ZiN:S:=
 .seq (.ret (.bor (.cons (.cmp2 .le .le (.const (.str [48])) (.var 0) (.const (.str [57]))) (.cons (.cmp2 .le .le (.const (.str [65])) (.var 0) (.const (.str [90]))) (.cons (.cmp2 .le .le (.const (.str [97])) (.var 0) (.const (.str [122]))) .nil))))) <| .skip
noncomputable def Zhh:List Str:=["text","at","bar","members","odd","one"]
noncomputable def ZcG:S:=
 .seq (.asg 2 (.cmp .eq (.idx (.var 0) (.var 1)) (.const (.str [94])))) <|
 .seq (.ifs (.tval (.var 2)) (
  .seq (.aug 1 .add (.const (.int 1))) <| .skip) (.skip)) <|
 .seq (.asgO 3 .nil) <|
 .seq (.asg 4 (.const (.bool false))) <|
 .seq (.whl (.tor (.cons (.tcmp .eq (.tvar 3) (.list .nil)) (.cons (.tcmp .ne (.idx (.var 0) (.var 1)) (.const (.str [93]))) .nil))) (
  .seq (.ifs (.tcmp .eq (.idx (.var 0) (.var 1)) (.const (.str [92]))) (
   .seq (.aug 1 .add (.const (.int 1))) <|
   .seq (.asg 4 (.bor (.cons (.var 4) (.cons (.call 9 (.cons (.idx (.var 0) (.var 1)) .nil)) .nil)))) <| .skip) (.skip)) <|
  .seq (.asg 5 (.idx (.var 0) (.var 1))) <|
  .seq (.aug 1 .add (.const (.int 1))) <|
  .seq (.ifs (.tand (.cons (.tcmp .eq (.idx (.var 0) (.var 1)) (.const (.str [45]))) (.cons (.tcmp .ne (.idx (.var 0) (.bin .add (.var 1) (.const (.int 1)))) (.const (.str [93]))) .nil))) (
   .seq (.aug 1 .add (.const (.int 1))) <|
   .seq (.ifs (.tcmp .eq (.idx (.var 0) (.var 1)) (.const (.str [92]))) (
    .seq (.aug 1 .add (.const (.int 1))) <|
    .seq (.asg 4 (.bor (.cons (.var 4) (.cons (.call 9 (.cons (.idx (.var 0) (.var 1)) .nil)) .nil)))) <| .skip) (.skip)) <|
   .seq (.asg 4 (.bor (.cons (.var 4) (.cons (.cmp .lt (.idx (.var 0) (.var 1)) (.var 5)) .nil)))) <|
   .seq (.aug 5 .add (.bin .add (.const (.str [45])) (.idx (.var 0) (.var 1)))) <|
   .seq (.aug 1 .add (.const (.int 1))) <| .skip) (.skip)) <|
  .seq (.app 3 (.var 5)) <| .skip)) <|
 .seq (.ret (.tuple (.cons (.tuple (.cons (.var 2) (.cons (.var 3) .nil))) (.cons (.bin .add (.var 1) (.const (.int 1))) (.cons (.var 4) .nil))))) <| .skip
noncomputable def ZiW:List Str:=["text","runs","sound","inside","at","sign","item","odd"]
noncomputable def Zdt:S:=
 .seq (.asgO2 1) <|
 .seq (.asg 2 (.cmp .eq (.bin .add (.slc (.var 0) (.const .none) (.const (.int 4))) (.slc (.var 0) (.const (.int (-3))) (.const .none))) (.const (.str [40,63,115,58,41,92,90])))) <|
 .seq (.asg 3 (.const (.bool false))) <|
 .seq (.asg 4 (.const (.int 4))) <|
 .seq (.whl (.tcmp .lt (.var 4) (.bin .sub (.bfn .len (.var 0)) (.const (.int 3)))) (
  .seq (.asg 5 (.idx (.var 0) (.var 4))) <|
  .seq (.aug 4 .add (.const (.int 1))) <|
  .seq (.ifs (.tand (.cons (.tcmp .eq (.var 5) (.const (.str [40]))) (.cons (.tcmp .eq (.slc (.var 0) (.var 4) (.bin .add (.var 4) (.const (.int 5)))) (.const (.str [63,62,46,42,63]))) (.cons (.tnot (.tval (.var 3))) .nil)))) (
   .seq (.new2 1) <|
   .seq (.asg 3 (.const (.bool true))) <|
   .seq (.aug 4 .add (.const (.int 5))) <| .skip) (
   .seq (.ifs (.tand (.cons (.tcmp .eq (.var 5) (.const (.str [41]))) (.cons (.tval (.var 3)) (.cons (.tor (.cons (.tcmp .eq (.slc (.var 0) (.var 4) (.bin .add (.var 4) (.const (.int 2)))) (.const (.str [46,42]))) (.cons (.tcmp .eq (.slc (.var 0) (.var 4) (.bin .add (.var 4) (.const (.int 3)))) (.const (.str [40,63,62]))) .nil))) .nil)))) (
    .seq (.asg 3 (.const (.bool false))) <| .skip) (
    .seq (.ifs (.tand (.cons (.tcmp .eq (.var 5) (.const (.str [46]))) (.cons (.tcmp .eq (.idx (.var 0) (.var 4)) (.const (.str [42]))) (.cons (.tnot (.tval (.var 3))) .nil)))) (
     .seq (.new2 1) <|
     .seq (.aug 4 .add (.const (.int 1))) <| .skip) (
     .seq (.ifs (.tand (.cons (.tcmp .eq (.var 5) (.const (.str [40]))) (.cons (.tcmp .eq (.slc (.var 0) (.var 4) (.bin .add (.var 4) (.const (.int 3)))) (.const (.str [63,33,41]))) .nil))) (
      .seq (.lst2 1 (.tuple (.cons (.const (.bool false)) (.cons (.list .nil) .nil)))) <|
      .seq (.aug 4 .add (.const (.int 3))) <| .skip) (
      .seq (.ifs (.tcmp .eq (.var 5) (.const (.str [46]))) (
       .seq (.lst2 1 (.tuple (.cons (.const (.bool true)) (.cons (.list .nil) .nil)))) <| .skip) (
       .seq (.ifs (.tcmp .eq (.var 5) (.const (.str [91]))) (
        .seq (.unp [6,4,7] (.call 10 (.cons (.var 0) (.cons (.var 4) .nil)))) <|
        .seq (.lst2 1 (.var 6)) <|
        .seq (.asg 2 (.band (.cons (.var 2) (.cons (.not (.var 7)) .nil)))) <| .skip) (
        .seq (.ifs (.tand (.cons (.tcmp .eq (.var 5) (.const (.str [92]))) (.cons (.tnot (.tval (.call 9 (.cons (.idx (.var 0) (.var 4)) .nil)))) .nil))) (
         .seq (.lst2 1 (.tuple (.cons (.const (.bool false)) (.cons (.list (.cons (.idx (.var 0) (.var 4)) .nil)) .nil)))) <|
         .seq (.aug 4 .add (.const (.int 1))) <| .skip) (
         .seq (.lst2 1 (.tuple (.cons (.const (.bool false)) (.cons (.list (.cons (.var 5) .nil)) .nil)))) <|
         .seq (.asg 2 (.band (.cons (.var 2) (.cons (.cmp .notin (.var 5) (.const (.str [40,41,42,43,63,123,124,94,36,92]))) .nil)))) <| .skip)) <| .skip)) <| .skip)) <| .skip)) <| .skip)) <| .skip)) <| .skip)) <| .skip)) <|
 .seq (.ret (.ite (.tand (.cons (.tval (.var 2)) (.cons (.tnot (.tval (.var 3))) .nil))) (.var 1) (.list (.cons (.list (.cons (.tuple (.cons (.const (.bool true)) (.cons (.list .nil) .nil))) .nil)) (.cons (.list .nil) .nil))))) <| .skip
noncomputable def Zg8:List Str:=["runs","name","at","k","size","fits","p","i"]
noncomputable def Zep:S:=
 .seq (.asg 2 (.const (.int 0))) <|
 .seq (.fors 3 (.range1 (.bfn .len (.var 0))) (
  .seq (.asg 4 (.bfn .len (.idx (.var 0) (.var 3)))) <|
  .seq (.asgO 5 .nil) <|
  .seq (.fors 6 (.range2 (.var 2) (.bin .add (.bin .sub (.bfn .len (.var 1)) (.var 4)) (.const (.int 1)))) (
   .seq (.ifs (.tand (.cons (.tor (.cons (.tcmp .gt (.var 3) (.const (.int 0))) (.cons (.tcmp .eq (.var 6) (.const (.int 0))) .nil))) (.cons (.tor (.cons (.tcmp .lt (.var 3) (.bin .sub (.bfn .len (.var 0)) (.const (.int 1)))) (.cons (.tcmp .eq (.bin .add (.var 6) (.var 4)) (.bfn .len (.var 1))) .nil))) .nil))) (
    .seq (.ifs (.tcmp .notin (.const (.bool false)) (.comp [1,0,3,6] 7 (.call 7 (.cons (.idx (.idx (.var 0) (.var 3)) (.var 7)) (.cons (.idx (.var 1) (.bin .add (.var 6) (.var 7))) .nil))) (.range1 (.var 4)) (.const .none))) (
     .seq (.app 5 (.var 6)) <| .skip) (.skip)) <| .skip) (.skip)) <| .skip)) <|
  .seq (.ifs (.tcmp .eq (.tvar 5) (.list .nil)) (
   .seq (.ret (.const (.bool false))) <| .skip) (.skip)) <|
  .seq (.asg 2 (.bin .add (.idx (.tvar 5) (.const (.int 0))) (.var 4))) <| .skip)) <|
 .seq (.ret (.const (.bool true))) <| .skip
noncomputable def ZiM:List Str:=["number","code"]
noncomputable def Ziy:S:=
 .seq (.asg 1 (.bin .mod (.var 0) (.const (.int 1112064)))) <|
 .seq (.ret (.bfn .chr (.ite (.tcmp .lt (.var 1) (.const (.int 55296))) (.var 1) (.bin .add (.var 1) (.const (.int 2048)))))) <| .skip
noncomputable def Zhw:List Str:=["x","y","names","k"]
noncomputable def Zew:S:=
 .seq (.asgO 2 (.cons (.const (.str [])) .nil)) <|
 .seq (.fors 3 (.range1 (.const (.int 7))) (
  .seq (.ext 2 (.cons (.bin .add (.idx (.tvar 2) (.var 3)) (.var 0)) (.cons (.bin .add (.idx (.tvar 2) (.var 3)) (.var 1)) .nil))) <| .skip)) <|
 .seq (.ret (.var 2)) <| .skip
noncomputable def ZfM:List Str:=["number","x","y","pieces","k"]
noncomputable def ZfF:S:=
 .seq (.asg 3 (.list (.cons (.const (.str [])) (.cons (.const (.str [42])) (.cons (.const (.str [63])) (.cons (.var 1) (.cons (.var 2) (.cons (.const (.str [91])) (.cons (.const (.str [93])) (.cons (.const (.str [91,33])) (.cons (.const (.str [45])) (.cons (.const (.str [33])) (.cons (.bin .add (.bin .add (.var 2) (.const (.str [45]))) (.var 1)) (.cons (.bin .add (.bin .add (.var 1) (.const (.str [45]))) (.var 2)) (.cons (.bin .add (.const (.str [91])) (.var 1)) (.cons (.const (.str [94])) (.cons (.const (.str [92])) (.cons (.call 13 (.cons (.bin .fdiv (.var 0) (.bin .pow (.const (.int 16)) (.const (.int 4)))) .nil)) .nil)))))))))))))))))) <|
 .seq (.ret (.join (.const (.str [])) (.comp [3,0] 4 (.idx (.var 3) (.bin .mod (.bin .fdiv (.var 0) (.bin .pow (.const (.int 16)) (.var 4))) (.const (.int 16)))) (.range1 (.const (.int 4))) (.const .none)))) <| .skip
noncomputable def ZiI:List Str:=["names","stack","token","word","pattern","runs","name","last","first","made"]
noncomputable def Zck:S:=
 .seq (.unp [3,4] (.var 2)) <|
 .seq (.ifs (.tcmp .eq (.var 3) (.const (.str [110,97,109,101]))) (
  .seq (.asg 5 (.call 11 (.cons (.call 1 (.cons (.var 4) .nil)) .nil))) <|
  .seq (.ret (.bin .add (.var 1) (.list (.cons (.comp [5] 6 (.var 6) (.var 0) (.tval (.call 12 (.cons (.var 5) (.cons (.var 6) .nil))))) .nil)))) <| .skip) (.skip)) <|
 .seq (.asg 7 (.idx (.var 1) (.const (.int (-1))))) <|
 .seq (.ifs (.tcmp .eq (.var 3) (.const (.str [110,111,116]))) (
  .seq (.ret (.bin .add (.slc (.var 1) (.const .none) (.const (.int (-1)))) (.list (.cons (.comp [7] 6 (.var 6) (.var 0) (.tcmp .notin (.var 6) (.var 7))) .nil)))) <| .skip) (.skip)) <|
 .seq (.asg 8 (.idx (.var 1) (.const (.int (-2))))) <|
 .seq (.ifs (.tcmp .eq (.var 3) (.const (.str [97,110,100]))) (
  .seq (.asgC 9 (.comp [7] 6 (.var 6) (.var 8) (.tcmp .isin (.var 6) (.var 7)))) <| .skip) (
  .seq (.ifs (.tcmp .eq (.var 3) (.const (.str [111,114]))) (
   .seq (.asgC 9 (.comp [8,7] 6 (.var 6) (.var 0) (.tor (.cons (.tcmp .isin (.var 6) (.var 8)) (.cons (.tcmp .isin (.var 6) (.var 7)) .nil))))) <| .skip) (
   .seq (.asgC 9 (.comp [7] 6 (.var 6) (.var 8) (.tcmp .notin (.var 6) (.var 7)))) <| .skip)) <| .skip)) <|
 .seq (.ret (.bin .add (.slc (.var 1) (.const .none) (.const (.int (-2)))) (.list (.cons (.var 9) .nil)))) <| .skip
noncomputable def Zhx:List Str:=["tokens","end","name","word","items","last","at","first"]
noncomputable def Zhv:S:=
 .seq (.unp [3,4] (.idx (.var 0) (.var 1))) <|
 .seq (.ifs (.tcmp .eq (.var 3) (.const (.str [110,97,109,101]))) (
  .seq (.ret (.tuple (.cons (.call 8 (.cons (.var 4) (.cons (.var 2) .nil))) (.cons (.bin .sub (.var 1) (.const (.int 1))) .nil)))) <| .skip) (.skip)) <|
 .seq (.unp [5,6] (.call 17 (.cons (.var 0) (.cons (.bin .sub (.var 1) (.const (.int 1))) (.cons (.var 2) .nil))))) <|
 .seq (.ifs (.tcmp .eq (.var 3) (.const (.str [110,111,116]))) (
  .seq (.ret (.tuple (.cons (.not (.var 5)) (.cons (.var 6) .nil)))) <| .skip) (.skip)) <|
 .seq (.unp [7,6] (.call 17 (.cons (.var 0) (.cons (.var 6) (.cons (.var 2) .nil))))) <|
 .seq (.ifs (.tcmp .eq (.var 3) (.const (.str [97,110,100]))) (
  .seq (.ret (.tuple (.cons (.band (.cons (.var 7) (.cons (.var 5) .nil))) (.cons (.var 6) .nil)))) <| .skip) (.skip)) <|
 .seq (.ifs (.tcmp .eq (.var 3) (.const (.str [111,114]))) (
  .seq (.ret (.tuple (.cons (.bor (.cons (.var 7) (.cons (.var 5) .nil))) (.cons (.var 6) .nil)))) <| .skip) (.skip)) <|
 .seq (.ret (.tuple (.cons (.band (.cons (.var 7) (.cons (.not (.var 5)) .nil))) (.cons (.var 6) .nil)))) <| .skip
noncomputable def Zhi:List Str:=["tokens","names","stack","end","told","name","k"]
noncomputable def Zey:S:=
 .seq (.asg 2 (.list .nil)) <|
 .seq (.asg 3 (.bin .sub (.bfn .len (.var 0)) (.const (.int 1)))) <|
 .seq (.whl (.tcmp .ge (.var 3) (.const (.int 0))) (
  .seq (.asg 4 (.comp [0,3] 5 (.call 17 (.cons (.var 0) (.cons (.var 3) (.cons (.var 5) .nil)))) (.var 1) (.const .none))) <|
  .seq (.asg 2 (.bin .add (.list (.cons (.comp [1,4] 6 (.idx (.var 1) (.var 6)) (.range1 (.bfn .len (.var 1))) (.tval (.idx (.idx (.var 4) (.var 6)) (.const (.int 0))))) .nil)) (.var 2))) <|
  .seq (.asg 3 (.idx (.idx (.var 4) (.const (.int 0))) (.const (.int 1)))) <| .skip)) <|
 .seq (.ret (.var 2)) <| .skip
noncomputable def Zht:S:=
 .seq (.asg 1 (.slc (.var 0) (.const .none) (.const (.int 8)))) <|
 .seq (.asg 2 (.bfn .sum (.var 1))) <|
 .seq (.asg 3 (.idx (.const (.str [97,45,33,93,94,92,91,42])) (.bin .mod (.var 2) (.const (.int 8))))) <|
 .seq (.asg 4 (.idx (.const (.str [98,46,38,63,126,124,35,10])) (.bin .mod (.bin .fdiv (.var 2) (.const (.int 8))) (.const (.int 8))))) <|
 .seq (.asg 5 (.call 14 (.cons (.var 3) (.cons (.var 4) .nil)))) <|
 .seq (.asgO 6 (.cons (.tuple (.cons (.const (.str [110,97,109,101])) (.cons (.bin .add (.const (.str [42])) (.var 3)) .nil))) (.cons (.tuple (.cons (.const (.str [110,97,109,101])) (.cons (.bin .add (.bin .add (.const (.str [91,33])) (.var 3)) (.const (.str [93,42]))) .nil))) .nil))) <|
 .seq (.asg 7 (.const (.int 2))) <|
 .seq (.fors 8 (.var 1) (
  .seq (.asg 9 (.idx (.list (.cons (.const (.str [110,97,109,101])) (.cons (.const (.str [110,97,109,101])) (.cons (.const (.str [110,97,109,101])) (.cons (.const (.str [110,97,109,101])) (.cons (.const (.str [110,111,116])) (.cons (.const (.str [97,110,100])) (.cons (.const (.str [111,114])) (.cons (.const (.str [108,101,115,115])) .nil))))))))) (.bin .mod (.var 8) (.const (.int 8))))) <|
  .seq (.ifs (.tcmp .eq (.var 9) (.const (.str [110,97,109,101]))) (
   .seq (.app 6 (.tuple (.cons (.var 9) (.cons (.call 15 (.cons (.bin .fdiv (.var 8) (.const (.int 8))) (.cons (.var 3) (.cons (.var 4) .nil)))) .nil)))) <|
   .seq (.aug 7 .add (.const (.int 1))) <| .skip) (
   .seq (.ifs (.tcmp .eq (.var 9) (.const (.str [110,111,116]))) (
    .seq (.app 6 (.tuple (.cons (.var 9) (.cons (.const (.str [])) .nil)))) <| .skip) (
    .seq (.ifs (.tcmp .gt (.var 7) (.const (.int 1))) (
     .seq (.app 6 (.tuple (.cons (.var 9) (.cons (.const (.str [])) .nil)))) <|
     .seq (.aug 7 .sub (.const (.int 1))) <| .skip) (.skip)) <| .skip)) <| .skip)) <| .skip)) <|
 .seq (.asg 10 (.bin .mod (.bin .add (.bin .fdiv (.var 2) (.const (.int 64))) (.bfn .len (.var 1))) (.bin .add (.bfn .len (.tvar 6)) (.const (.int 1))))) <| .skip
end
section
set_option backward.match.sparseCases false
noncomputable def fuel:Nat:=1000
noncomputable def noΓ:ZaC:=λ_ _=>none
noncomputable def ZjN:List D->Option D
 | [.str [c]]=>some (.str (Ze6 c))
 | _=>none
noncomputable def Zuf:List D->Option D:=run noΓ fuel 1 4 Zc8
noncomputable def ZsP:List D->Option D:=run noΓ fuel 2 5 Zkt
noncomputable def ZrI:List D->Option D:=run noΓ fuel 1 1 ZiN
noncomputable def ZuA:List D->Option D:=run noΓ fuel 2 7 ZaA
noncomputable def ZnQ:List D->Option D:=run noΓ fuel 1 2 Ziy
noncomputable def ZnC:List D->Option D:=run noΓ fuel 2 4 Zew
noncomputable def ΓA:ZaC
 | 2=>ZjN
 | 4=>ZuA
 | 5=>Zuf
 | 7=>ZsP
 | 9=>ZrI
 | 13=>ZnQ
 | 14=>ZnC
 | _=>λ_=>none
noncomputable def Zt3:List D->Option D:=run ΓA fuel 3 14 ZcW
noncomputable def ZtL:List D->Option D:=run ΓA fuel 1 5 ZcV
noncomputable def ZtM:List D->Option D:=run ΓA fuel 2 5 Zft
noncomputable def Znq:List D->Option D:=run ΓA fuel 2 6 ZcG
noncomputable def ZlV:List D->Option D:=run ΓA fuel 2 8 Zep
noncomputable def ZoE:List D->Option D:=run ΓA fuel 3 5 ZfF
noncomputable def ΓB:ZaC
 | 3=>Zt3
 | 6=>ZtL
 | 8=>ZtM
 | 10=>Znq
 | 12=>ZlV
 | 15=>ZoE
 | f=>ΓA f
noncomputable def ZtE:S:=.seq (.asg 2 (.call 3 (.cons (.var 0) (.cons (.var 1) (.cons (.const (.str [46])) .nil))))) (.seq (.ret (.call 4 (.cons (.var 2) (.cons (.var 1) .nil)))) .skip)
noncomputable def ZtK(ds:List D)(d:D):Prop:=∃x,ds=[x]∧∀g:Addr,∃σ',ex ΓB fuel ZtE ((ZeV 3 [x]).set 1 (.fz (.obj g)))=some (.ret d,σ')
open Classical in
noncomputable def ZoR(ds:List D):Option D:=if h:∃d,ZtK ds d then some h.choose else none
set_option tactic.hygienic true in
theorem ZpO{ds:List D}{d:D}(h:ZoR ds=some d):ZtK ds d:=by
 unfold ZoR at h
 split at h
 ·rename_i h'
  cases h
  exact h'.choose_spec
 ·cases h
theorem Zpl{ds:List D}{d:D}(h:ZtK ds d):ZoR ds=some d:=by
 have h':∃d,ZtK ds d:=⟨d,h⟩
 unfold ZoR
 erw[rwl (dif_pos h' ..) ?_]
 obtain⟨x,rfl,hx⟩:=h
 obtain⟨y,e,hy⟩:=h'.choose_spec
 cases e
 obtain⟨σ1,e1⟩:=hx 0
 obtain⟨σ2,e2⟩:=hy 0
 rw[e1] at e2
 cases e2
 rfl
noncomputable def Zla:List D->Option D:=run ΓB fuel 1 8 Zdt
noncomputable def ΓC:ZaC
 | 1=>ZoR
 | 11=>Zla
 | f=>ΓB f
noncomputable def ΓV(s:List D->Option D):ZaC
 | 17=>s
 | f=>ΓB f
noncomputable def ZcA:Nat->List D->Option D
 | 0=>λ_=>none
 | k+1=>run (ΓV (ZcA k)) fuel 3 8 Zhv
noncomputable def Zgw:List D->Option D:=run ΓC fuel 3 10 Zck
noncomputable def ΓD:ZaC
 | 16=>Zgw
 | 17=>ZcA 12
 | f=>ΓC f
noncomputable def ZnO:List D->Option D:=run ΓD fuel 2 7 Zey
noncomputable def ΓE:ZaC
 | 18=>ZnO
 | f=>ΓD f
noncomputable def ZpB:List Str:=["script","numbers","total","x","y","names","tokens","depth","number","word","cut","step","asked","half"]
noncomputable def Zdj:X:=.call 16 (.cons (.var 0) (.cons (.var 1) (.cons (.var 2) .nil)))
noncomputable def ZeU:X:=.tuple (.cons (.var 0) (.cons (.call 6 (.cons (.var 1) .nil)) .nil))
noncomputable def ZlH:X:=.tcmp .ne (.var 13) (.call 18 (.cons (.slc (.var 12) (.const .none) (.var 10)) (.cons (.var 5) .nil)))
noncomputable def ZkY:X:=.call 18 (.cons (.var 12) (.cons (.var 5) .nil))
noncomputable def ZbN(f:D->D->Option D):List D->D->Option D
 | [],a=>some a
 | d::ds,a=>(f a d).bind (ZbN f ds)
theorem Zvb(f:D->D->Option D)(d a:D)(ds:List D):ZbN f (d::ds) a=(f a d).bind (ZbN f ds):=rfl
noncomputable def ZeG(f:D->D->Option D)(d:D):Option (Option D):=Zrr (two λa b=>(f a b).map some) d
noncomputable def Zbh(Γ:ZaC)(dn:D)(x:X)(a b:D):Option D:=ev Γ [.fz dn,.fz a,.fz b] x
noncomputable abbrev Za4(Γ:ZaC)(N:Nat)(m:Nat)(st:S)(xl xc tX rX:X)(x:D)(σ:Sg)(dn:D)(toks asked l1:List D)(d2 d3:D)(cut:Int):Prop:=(ex Γ N st (ZeV m [x])=some (.next,σ))∧(14<=σ.length)∧(rd σ 5=some dn)∧(rdt σ 6=some (.list toks))∧(rd σ 10=some (.int cut))∧(toks.length<=16777216)∧(ZbQ (ZeG λa b=>ev Γ [.fz a,.fz b] xc) toks=some asked)∧(ZbN (Zbh Γ dn xl) (slice toks none (some cut)) (.list [])=some (.list l1))∧(ZbN (Zbh Γ dn xl) (slice toks (some cut) none) (.list l1)=some d2)∧(eqD d2 d3=some true)∧(∀f:Addr,tv Γ (((σ.set 11 (.fz (.obj f))).set 12 (.fz (.list asked))).set 13 (.fz (.list l1))) tX=some false∧ev Γ (((σ.set 11 (.fz (.obj f))).set 12 (.fz (.list asked))).set 13 (.fz (.list l1))) rX=some d3)
theorem Za4.ex{Γ:ZaC}{N:Nat}{m:Nat}{st:S}{xl xc tX rX:X}{x:D}{σ:Sg}{dn:D}{toks asked l1:List D}{d2 d3:D}{cut:Int}(slf:Za4 Γ N m st xl xc tX rX x σ dn toks asked l1 d2 d3 cut):ex Γ N st (ZeV m [x])=some (.next,σ):=slf.1
theorem Za4.len{Γ:ZaC}{N:Nat}{m:Nat}{st:S}{xl xc tX rX:X}{x:D}{σ:Sg}{dn:D}{toks asked l1:List D}{d2 d3:D}{cut:Int}(slf:Za4 Γ N m st xl xc tX rX x σ dn toks asked l1 d2 d3 cut):14<=σ.length:=slf.2.1
theorem Za4.h5{Γ:ZaC}{N:Nat}{m:Nat}{st:S}{xl xc tX rX:X}{x:D}{σ:Sg}{dn:D}{toks asked l1:List D}{d2 d3:D}{cut:Int}(slf:Za4 Γ N m st xl xc tX rX x σ dn toks asked l1 d2 d3 cut):rd σ 5=some dn:=slf.2.2.1
theorem Za4.h6{Γ:ZaC}{N:Nat}{m:Nat}{st:S}{xl xc tX rX:X}{x:D}{σ:Sg}{dn:D}{toks asked l1:List D}{d2 d3:D}{cut:Int}(slf:Za4 Γ N m st xl xc tX rX x σ dn toks asked l1 d2 d3 cut):rdt σ 6=some (.list toks):=slf.2.2.2.1
theorem Za4.h10{Γ:ZaC}{N:Nat}{m:Nat}{st:S}{xl xc tX rX:X}{x:D}{σ:Sg}{dn:D}{toks asked l1:List D}{d2 d3:D}{cut:Int}(slf:Za4 Γ N m st xl xc tX rX x σ dn toks asked l1 d2 d3 cut):rd σ 10=some (.int cut):=slf.2.2.2.2.1
theorem Za4.hz{Γ:ZaC}{N:Nat}{m:Nat}{st:S}{xl xc tX rX:X}{x:D}{σ:Sg}{dn:D}{toks asked l1:List D}{d2 d3:D}{cut:Int}(slf:Za4 Γ N m st xl xc tX rX x σ dn toks asked l1 d2 d3 cut):toks.length<=16777216:=slf.2.2.2.2.2.1
theorem Za4.ask{Γ:ZaC}{N:Nat}{m:Nat}{st:S}{xl xc tX rX:X}{x:D}{σ:Sg}{dn:D}{toks asked l1:List D}{d2 d3:D}{cut:Int}(slf:Za4 Γ N m st xl xc tX rX x σ dn toks asked l1 d2 d3 cut):ZbQ (ZeG λa b=>ev Γ [.fz a,.fz b] xc) toks=some asked:=slf.2.2.2.2.2.2.1
theorem Za4.f1{Γ:ZaC}{N:Nat}{m:Nat}{st:S}{xl xc tX rX:X}{x:D}{σ:Sg}{dn:D}{toks asked l1:List D}{d2 d3:D}{cut:Int}(slf:Za4 Γ N m st xl xc tX rX x σ dn toks asked l1 d2 d3 cut):ZbN (Zbh Γ dn xl) (slice toks none (some cut)) (.list [])=some (.list l1):=slf.2.2.2.2.2.2.2.1
theorem Za4.f2{Γ:ZaC}{N:Nat}{m:Nat}{st:S}{xl xc tX rX:X}{x:D}{σ:Sg}{dn:D}{toks asked l1:List D}{d2 d3:D}{cut:Int}(slf:Za4 Γ N m st xl xc tX rX x σ dn toks asked l1 d2 d3 cut):ZbN (Zbh Γ dn xl) (slice toks (some cut) none) (.list l1)=some d2:=slf.2.2.2.2.2.2.2.2.1
theorem Za4.eq{Γ:ZaC}{N:Nat}{m:Nat}{st:S}{xl xc tX rX:X}{x:D}{σ:Sg}{dn:D}{toks asked l1:List D}{d2 d3:D}{cut:Int}(slf:Za4 Γ N m st xl xc tX rX x σ dn toks asked l1 d2 d3 cut):eqD d2 d3=some true:=slf.2.2.2.2.2.2.2.2.2.1
theorem Za4.fin{Γ:ZaC}{N:Nat}{m:Nat}{st:S}{xl xc tX rX:X}{x:D}{σ:Sg}{dn:D}{toks asked l1:List D}{d2 d3:D}{cut:Int}(slf:Za4 Γ N m st xl xc tX rX x σ dn toks asked l1 d2 d3 cut):∀f:Addr,tv Γ (((σ.set 11 (.fz (.obj f))).set 12 (.fz (.list asked))).set 13 (.fz (.list l1))) tX=some false∧ev Γ (((σ.set 11 (.fz (.obj f))).set 12 (.fz (.list asked))).set 13 (.fz (.list l1))) rX=some d3:=slf.2.2.2.2.2.2.2.2.2.2
structure ZoS (Γ:ZaC) (N:Nat) (m:Nat) (st:S) (xl xc tX rX:X) (x:D):Prop where
 run:∃(σ:Sg) (dn:D) (toks asked l1:List D) (d2 d3:D) (cut:Int),Za4 Γ N m st xl xc tX rX x σ dn toks asked l1 d2 d3 cut
end
section
theorem ZeJ{pos:Pos}{a b:Int}{c:Value}(l:List Value)(h:TriplesOk l):codeAmong pos (l++[rawInt a,rawInt b,c])=(codeAmong pos l).or (if(a==pos.line&&b==pos.col)=true then some c else none):=by
 fun_induction TriplesOk l with
 | case1=>simp[codeAmong,rawInt]
 | case2 x t y u z rest ih=>
  simp only[List.cons_append,codeAmong]
  split
  ·rfl
  ·exact ih h
 | case3 l h1 h2=>exact h.elim
set_option tactic.hygienic true in
theorem ZcS{p q:Pos}(h1:p.line=q.line)(h2:p.col=q.col)(l:List Value):codeAmong p l=codeAmong q l:=by
  fun_induction codeAmong p l with
  | case1 a t b u c r h=>rw[h1,h2] at h;unfold codeAmong;erw[rwl (if_pos h ..) ?_]
  | case2 a t b u c r h ih => rw [h1, h2] at h; conv => rhs; unfold codeAmong
                              erw[rwl (if_neg h ..) ?_];exact ih
  | case3 l h => unfold codeAmong; split
                 · rename_i a t b u c r;exact absurd rfl (h a t b u c r)
                 · rfl
theorem Zfw{h h':Heap}{c P:Addr}(x:CodeHd h c P)(k:Kp h h'):CodeHd h' c P:=by
 obtain⟨o,vs,file,tf,flags,tg,inF,text,tt,e1,r1,r⟩:=x
 exact⟨o,vs,file,tf,flags,tg,inF,text,tt,k _ _ (.ZaD r1) e1,r1,r⟩
noncomputable def ZiY(h:Heap)(cv:Value)(q:Str):Prop:=∃c o vs t,cv=.ref c∧h.get? c=some o∧o.cls=.type "code" ∧ o.data=.fields vs∧vs[1]? = some (.str q t)
theorem ZiY.rec{h:Heap}{cv:Value}{q:Str}(x:ZiY h cv q):h.CodeRec cv q:=let ⟨c,o,vs,t,e,g,_,r⟩:=x;⟨c,o,vs,t,e,g,r⟩
theorem ZiY.kp{h h':Heap}{cv:Value}{q:Str}(x:ZiY h cv q)(k:Kp h h'):ZiY h' cv q:=let ⟨c,o,vs,t,e,g,n,r⟩:=x;⟨c,o,vs,t,e,k _ _ (.ZaD n) g,n,r⟩
noncomputable def Za5(c P:Addr)(xs:List (Pos×Str))(h:Heap):Prop:=CodeHd h c P∧∃ps,h.get? P=some (tabObj ps)∧TriplesOk ps.toList∧∀pq∈xs,∀cv,codeAmong pq.1 ps.toList=some cv->ZiY h cv pq.2
theorem Za5.kp{c P:Addr}{xs:List (Pos×Str)}{h h':Heap}(x:Za5 c P xs h)(k:Kp h h')(e:∀o,h.get? P=some o->h'.get? P=some o):Za5 c P xs h':=
 let ⟨x1,ps,x2,x3,x4⟩:=x;⟨Zfw x1 k,ps,e _ x2,x3,λpq hp cv hc=>(x4 pq hp cv hc).kp k⟩
set_option tactic.hygienic true in
theorem Za5.snoc{c P:Addr}{xs:List (Pos×Str)}{h h':Heap}{ps:Array Value}{pos:Pos}{qual:Str}{c':Value}(C:CodeHd h c P)(ht:TriplesOk ps.toList)(hx:∀pq∈xs,∀cv,codeAmong pq.1 ps.toList=some cv->ZiY h cv pq.2)
  (hu:∀pq∈xs,pq.1.line=pos.line->pq.1.col=pos.col->pq.2=qual) (k:Kp h h') (hP:h'.get? P=some (tabObj (ps++#[rawInt pos.line,rawInt pos.col,c']))) (hc:ZiY h' c' qual):Za5 c P xs h':=by
 refine⟨Zfw C k,_,hP,by simpa using TriplesOk_snoc _ _ _ _ ht,λpq hp cv e=>?_⟩
 have e2:codeAmong pq.1 (ps.toList++[rawInt pos.line,rawInt pos.col,c'])=some cv:=by simpa using e
 rw[ZeJ _ ht] at e2
 cases e3:codeAmong pq.1 ps.toList with
 | some d=>rw[e3] at e2;cases e2;exact(hx pq hp _ e3).kp k
 | none=>
  rw[e3] at e2
  simp only[Option.none_or] at e2
  split at e2
  ·rename_i hh
   cases e2
   simp only[Bool.and_eq_true,beq_iff_eq,Int.natCast_inj] at hh
   erw[rwl (hu pq hp hh.1.symm hh.2.symm ..) ?_]
   exact hc
  ·cases e2
theorem Kp.tab{h h':Heap}{P:Addr}{ps:Array Value}(hP:h.get? P=some (tabObj ps))(hx:Heap.ExtBut P h h'):Kp h h':=λb o n e=>hx b o (λq=>by subst q;rw[hP] at e;cases e;exact n _ rfl) e
section
variable {M:Model}{A:Around}{E:Value->Shared->Prop}{s:Shared}{name qual:Str}{params:Arguments}{body:Expr}{scope:Scope}{env:Env}{c P:Addr}{xs:List (Pos×Str)}{pos:Pos}{firstLine:Nat}{mg:Str->Option Value}
 {clos:List (Str×Addr)} {Q:Value->Shared->Prop}
noncomputable abbrev Made(P:Addr)(s:Shared)(h':Heap)(cv:Value)(qual:Str):Prop:=(Kp s.heap h')∧(∀b o,s.heap.get? b=some o->∃o',h'.get? b=some o')∧(∀b o,b≠P->s.heap.get? b=some o->h'.get? b=some o)∧(ZiY h' cv qual)
theorem Made.kp{P:Addr}{s:Shared}{h':Heap}{cv:Value}{qual:Str}(slf:Made P s h' cv qual):Kp s.heap h':=slf.1
theorem Made.ex{P:Addr}{s:Shared}{h':Heap}{cv:Value}{qual:Str}(slf:Made P s h' cv qual):∀b o,s.heap.get? b=some o->∃o',h'.get? b=some o':=slf.2.1
theorem Made.bt{P:Addr}{s:Shared}{h':Heap}{cv:Value}{qual:Str}(slf:Made P s h' cv qual):∀b o,b≠P->s.heap.get? b=some o->h'.get? b=some o:=slf.2.2.1
theorem Made.rc{P:Addr}{s:Shared}{h':Heap}{cv:Value}{qual:Str}(slf:Made P s h' cv qual):ZiY h' cv qual:=slf.2.2.2
theorem ZoM(T:Za5 c P xs s.heap)(hm:∃pq∈xs,pq.1.line=pos.line∧pq.1.col=pos.col∧pq.2=qual)(hu:∀pq∈xs,pq.1.line=pos.line->pq.1.col=pos.col->pq.2=qual)(hcl:closureFor scope env=pure clos)(hne:clos=[]∨clos≠[])(hge0:env.globals=mainGlobals)(hg:s.heap.Ns mainGlobals mg)(hcode:env.code=.ref c)(hgP:mainGlobals≠P)
  (hb:s.heap.BuiltinsAt mg P) (ht0:1<=s.toks)
  (k:∀cv ctv h' tk,Made P s h' cv qual->Za5 c P xs h'->1<=tk->
   Q (.ref h'.objs.size) { s with heap:=h'.push { cls:=.type "function",data:=.func (kla_fn name qual params body scope clos ((mg "__name__").getD .none) cv ctv) },toks:=tk }) :
  wpAny M A (makeFunction name qual params (.expr body) scope env [] [] [] pos firstLine) Q E s:=by
 obtain⟨C,ps,hP,ht,hx⟩:=T
 have hf0:∀cv,codeAmong pos ps.toList=some cv->ZiY s.heap cv qual:=λcv e=>by
  obtain⟨pq,hp,e1,e2,e3⟩:=hm
  erw[rwr (e3 ..) ?_]
  exact hx pq hp cv ((ZcS e1 e2 _).trans e)
 refine wrap ht0 ?_
 cases hf:codeAmong pos ps.toList with
 | some cv=>
  refine kla_makeFunctionHit (mg:=mg) hcl hge0 hg hcode C hP ht hf hb λctv h' tk hk hsz htk=>?_
  have kp:Kp s.heap h':=.of hk
  exact k cv ctv h' tk ⟨kp,λb o e=>⟨o,hk b o e⟩,λb o _ e=>hk b o e,(hf0 _ hf).kp kp⟩ ⟨Zfw C kp,ps,hk _ _ hP,ht,λpq hp cv e=>(hx pq hp cv e).kp kp⟩ htk
 | none=>
  erw[rwl (makeFunction_eq ..) ?_]
  simp only[List.zip_nil_right,List.filterMap_nil,List.isEmpty_nil,if_true,pure_bind]
  obtain⟨bm,ob,hbm,hne0,_,hneP,hbo,hcls,hdict,hdata⟩:=hb
  have main:∀(s':Shared) (ctv:Value),(∀b o,s.heap.get? b=some o->s'.heap.get? b=some o)->s'={ s with heap:=s'.heap,toks:=s'.toks }->
    wpAny M A (do
     let code ←functionCode env pos firstLine name qual params scope (.expr body)
     let bi ←builtinsFor env.globals env.builtins
     let nm ←nsGet env.globals "__name__"
     let d ←(pure Value.none:Sem Value)
     newObj (.type "function") (.func { name:=name,qualname:=qual,params:=params,body:=.expr body,scope:=scope,globals:=env.globals,closure:=clos,defaults:=.none,kwdefaults:=.none,doc:=d,pyModule:=nm.getD .none,code:=code,closureTuple:=ctv,builtins:=bi })) (λv s'=>1<=s'.toks->Q v s') E s':=by
   intro s' ctv hk hs'
   have C':=C.keeps hk
   have hP':=hk _ _ hP
   refine wpAny_bind (wpAny_functionCodeX hcode (C'.code hP' ht) (C'.tab hP') hf λc' h' tk hx' hge hlt _ hrec htb hc'=>?_)
   have hg':=(hg.keeps hk).extBut hx' hgP
   erw[rwl (hge0 ..) ?_]
   refine wpAny_bind (wpAny_builtinsFor hg' hbm hne0 (hx' _ _ hneP (hk _ _ hbo)) hcls hdict hdata ?_)
   refine wpAny_bind (wpAny_nsGet hg' ?_)
   have kp':Kp s'.heap h':=.tab hP' hx'
   have kp:Kp s.heap h':=(Kp.of hk).trans kp'
   have hr:ZiY h' (.ref c') qual:=by
    obtain⟨P',_,_,⟨⟨oc,vc,hoc,hcc,hdc,_⟩,_⟩⟩:=hc'
    obtain⟨c₂,o₂,vs₂,t₂,e₂,g₂,r₂,r₃⟩:=hrec
    cases e₂
    rw[hoc] at g₂;cases g₂
    exact⟨c',oc,vs₂,t₂,rfl,hoc,hcc,r₂,r₃⟩
   refine wpAny_bind (wpAny_pure (wpAny_newObj_type (λhtk=>?_) (by size_fits)))
   have:=k (.ref c') ctv h' tk ⟨kp,λb o e=>?_,λb o hb e=>hx' b o hb (hk b o e),hr⟩ (.snoc C ht hx hu kp htb.2 hr) htk
   ·erw[rwl (hs' ..) ?_];exact this
   ·by_cases q:b=P
    ·subst q;exact⟨_,htb.2⟩
    ·exact⟨o,hx' b o q (hk b o e)⟩
  unfold makeTail
  erw[rwl (hcl ..) ?_]
  refine wpAny_bind (wpAny_pure ?_)
  cases clos with
  | nil=>
   simp only[List.isEmpty_nil,if_true]
   exact wpAny_bind (wpAny_pure (main s .none (λ_ _ e=>e) rfl))
  | cons q r=>
   simp only[List.isEmpty_cons,Bool.false_eq_true,if_false]
   refine wpAny_bind (wpAny_newTextTuple ?_)
   exact main _ _ (λb o e=>Heap.get?_push_of_some _ e) (by rfl)
theorem Zta(T:Za5 c P xs s.heap)(hm:∃pq∈xs,pq.1.line=pos.line∧pq.1.col=pos.col∧pq.2=qual)(hu:∀pq∈xs,pq.1.line=pos.line->pq.1.col=pos.col->pq.2=qual)(hcode:env.code=.ref c)(ht0:1<=s.toks)
  (k:∀cv h' tk,Made P s h' cv qual->Za5 c P xs h'->1<=tk->s.heap.objs.size<=h'.objs.size->Q cv { s with heap:=h',toks:=tk }) :
  wpAny M A (genexprCode env pos qual scope) Q E s:=by
 obtain⟨C,ps,hP,ht,hx⟩:=T
 have hf0:∀cv,codeAmong pos ps.toList=some cv->ZiY s.heap cv qual:=λcv e=>by
  obtain⟨pq,hp,e1,e2,e3⟩:=hm
  erw[rwr (e3 ..) ?_]
  exact hx pq hp cv ((ZcS e1 e2 _).trans e)
 refine wrap ht0 ?_
 cases hf:codeAmong pos ps.toList with
 | some cv=>exact wpAny_genexprCode_hit hcode (C.code hP ht) hf λhtk=>k cv s.heap s.toks ⟨.refl _,λb o e=>⟨o,e⟩,λ_ _ _ e=>e,hf0 _ hf⟩ ⟨C,ps,hP,ht,hx⟩ htk (Nat.le_refl _)
 | none=>
  refine wpAny_genexprCodeX hcode (C.code hP ht) (C.tab hP) hf λc' h' tk hx' hge hlt _ hrec htb hc' htk=>?_
  have kp:Kp s.heap h':=.tab hP hx'
  have hr:ZiY h' (.ref c') qual:=by
   obtain⟨P',_,_,⟨⟨oc,vc,hoc,hcc,hdc,_⟩,_⟩⟩:=hc'
   obtain⟨c₂,o₂,vs₂,t₂,e₂,g₂,r₂,r₃⟩:=hrec
   cases e₂
   rw[hoc] at g₂;cases g₂
   exact⟨c',oc,vs₂,t₂,rfl,hoc,hcc,r₂,r₃⟩
  refine k (.ref c') h' tk ⟨kp,λb o e=>?_,λb o hb e=>hx' b o hb e,hr⟩ (.snoc C ht hx hu kp htb.2 hr) htk (Nat.le_trans hge (Nat.le_of_lt hlt))
  by_cases q:b=P
  ·subst q;exact⟨_,htb.2⟩
  ·exact⟨o,hx' b o q e⟩
end
end
section
noncomputable def GY(C I l:Addr)(n:Nat)(R:Nat->Value->Prop):Protocol:=λm s₀ v s₁ kap=>
 R (n - 1 - m) v∧GenSince C [I] s₀ s₁∧∀s'':Shared,1<=s''.toks->(∀b∈[C,I,l],∀o,s₁.heap.get? b=some o->s''.heap.get? b=some o)->kap (.send .none) s''
noncomputable def ZtX(C I:Addr):GenEnd:=λn s₀ r s₁=>r=.ok .next∧(n=0∧GenSince C [I] s₀ s₁)
noncomputable abbrev ZcY(elt iter:Expr)(x:Str)(px:Pos)(scope:Scope)(pos:Pos):Expr:=.GeneratorExp elt [⟨.Name x px,iter,[],0⟩] scope pos
section
variable {prog:Program}{w:World}{A:Around}
structure Zri (prog:Program) (w:World) (cenv:Env) (x:Str) (elt:Expr) (items:Array Value) (R:Nat->Value->Prop) (D U:Nat):Prop where
 elt:∀(A':Around) E' i v (s₂:Shared) m₂,A'.handled=none->A'.depth<=D->A'.units<=U->items[i]? = some v->1<=s₂.toks->s₂.heap.Ns cenv.locals m₂->m₂ x=some v->wpAny (model prog w) A' (eval elt cenv) (λy s₃=>R i y∧Keeps s₂ s₃) E' s₂
theorem ZjQ (elt iter : Expr) (x : Str) (px : Pos) (scope : Scope) (pos : Pos) (it : Value) (env : Env) (hco : env.scope.isCoroutine = false) : compTurn (ZcY elt iter x px scope pos) 0 it .none env = (do
      standAt iter.pos
      match ←pyNext it with
      | none=>pure (.done .next)
      | some v=>
        assign (.Name x px) env v
        (do let v ←eval elt env;standAt elt.pos;let _ ←yieldValue v:Sem Unit)
        again (.compLoop (ZcY elt iter x px scope pos) 0 it .none env)):=by
  erw[rwl (compTurn_gen ..) ?_]
  have hy:∀v,yieldOut env v=yieldValue v:=λv=>by simp only[yieldOut,hco,Bool.false_eq_true,if_false]
  simp only[hy]
  rfl
theorem ZnP{elt iter:Expr}{x:Str}{px:Pos}{scope:Scope}{pos:Pos}{I l:Addr}{items:Array Value}{R:Nat->Value->Prop}{cenv:Env}(hh:A.handled=none)(hx:cenv.kindOf x=some .local)
  (hp:(cenv.scope.kind==.class||(cenv.scope.kind==.module&&cenv.locals != cenv.globals))=false) (hco:cenv.scope.isCoroutine=false) (hCI:cenv.locals≠I) (hCl:cenv.locals≠l) (hlI:l≠I) (T:Zri prog w cenv x elt items R (A.depth+1) (A.units+3)) :
  ∀(k i:Nat) (s₀ s:Shared) (m:Str->Option Value),items.size - i=k->i<=items.size->s.heap.IsListIter I l i->s.heap.IsList l items->s.heap.Ns cenv.locals m->1<=s.toks->GenSince cenv.locals [I] s₀ s->
   Seg (model prog w) A (ZtX cenv.locals I) (GY cenv.locals I l items.size R) (items.size - i) s₀ (.compLoop (ZcY elt iter x px scope pos) 0 (.ref I) .none cenv) ((model prog w).den (.compLoop (ZcY elt iter x px scope pos) 0 (.ref I) .none cenv)) [] s:=by
 have hh':(A.over (.compLoop (ZcY elt iter x px scope pos) 0 (.ref I) .none cenv) []).handled=none:=hh
 have hdep':(A.over (.compLoop (ZcY elt iter x px scope pos) 0 (.ref I) .none cenv) []).depth<=A.depth+1:=Nat.le_of_eq rfl
 have huni':(A.over (.compLoop (ZcY elt iter x px scope pos) 0 (.ref I) .none cenv) []).units<=A.units+3:=Nat.le_of_eq rfl
 intro k
 induction k with
 | zero=>
  intro i s₀ s m hk hi hit hl hn ht hs
  have e:items.size - i=0:=hk
  erw[rwl (e ..) ?_]
  show Seg _ A _ _ _ s₀ _ ((compTurn (ZcY elt iter x px scope pos) 0 (.ref I) .none cenv).onRaise (leaving cenv)) [] s
  erw[rwl (ZjQ _ _ _ _ _ _ _ _ hco ..) (rwl (Sem.onRaise_eq_wrap ..) ?_)]
  refine seg_bind_wrap (wpAny_standAt ?_)
  have hle:items.size<=i:=Nat.le_of_sub_eq_zero hk
  refine seg_bind_wrap (wpAny_pyNext_list_end hh' hit hl (by first | exact hle | simpa using hle) λh' hs'=>?_)
  exact seg_end (.ok .next) ⟨rfl,rfl,hs.step (tk:=s.toks) λb o _ hw e=>hs' b o (λq=>hw (by simp[q])) e⟩
 | succ k ih=>
  intro i s₀ s m hk hi hit hl hn ht hs
  have hlt:i < items.size:=Nat.lt_of_sub_eq_succ hk
  have e:items.size - i=(items.size - (i+1))+1:=ZhA hlt
  erw[rwl (e ..) ?_]
  show Seg _ A _ _ _ s₀ _ ((compTurn (ZcY elt iter x px scope pos) 0 (.ref I) .none cenv).onRaise (leaving cenv)) [] s
  erw[rwl (ZjQ _ _ _ _ _ _ _ _ hco ..) (rwl (Sem.onRaise_eq_wrap ..) ?_)]
  refine seg_bind_wrap (wpAny_standAt ?_)
  have hv:items[i]? = some items[i]:=Array.getElem?_eq_getElem hlt
  refine seg_bind_wrap (wpAny_pyNext_list_item hit hl hv λh₁ hit₁ hs₁=>?_)
  refine seg_bind_wrap (wpAny_assign_Name (wpAny_storeName_local hx (hn.sameBut hs₁ hCI) (λh₂ hn₂ hs₂=>?_) hp))
  have hit₂:h₂.IsListIter I l (i+1):=hit₁.at λo e=>hs₂.extBut _ o (Ne.symm hCI) e
  have hl₂:h₂.IsList l items:=(hl.extBut hs₁.extBut hlI).extBut hs₂.extBut (Ne.symm hCl)
  erw[rwl (Sem.bind_eq_wrap' ..) (rwl (Sem.bind_eq_wrap' ..) (rwl (Sem.wrap_wrap ..) (rwl (Sem.wrap_wrap ..) ?_)))]
  refine seg_wrap (wpAny_mono (wpAny_toks_of (n:=1) (Nat.le_succ_of_le ht) (T.elt _ _ i _ _ _ hh' hdep' huni' hv (Nat.le_succ_of_le ht) hn₂ (by simp))) (λy s₄ h₄=>?_) λ_ _ e=>e.2)
  obtain⟨ht₄,hR,h₄,tk₄,rfl,hk₄⟩:=h₄
  refine seg_at (seg_yield rfl rfl rfl ⟨?_,?_,λs'' ht'' hal=>?_⟩)
  ·have:=Zs2 hlt
   erw[rwl (this ..) ?_];exact hR
  ·have:=hs.step (h':=h₄) (tk:=tk₄) λb o hC hw e=>hk₄ b o (hs₂.extBut b o hC (hs₁.extBut b o (λq=>hw (by simp[q])) e))
   exact this
  ·exact seg_again rfl (ih (i+1) s'' s'' _ (Nat.succ.inj (e.symm.trans hk)) hlt (hit₂.at λo e=>hal I (by simp) o (hk₄ _ o e)) (hl₂.at λo e=>hal l (by simp) o (hk₄ _ o e)) ((hn₂.keeps hk₄).at' λo e=>hal _ (by simp) o e) ht'' (GenSince.refl _ _ _))
theorem ZmL{elt iter:Expr}{x:Str}{px:Pos}{scope:Scope}{pos:Pos}{I l:Addr}{items:Array Value}{R:Nat->Value->Prop}{cenv:Env}(hh:A.handled=none)(hx:cenv.kindOf x=some .local)
  (hp:(cenv.scope.kind==.class||(cenv.scope.kind==.module&&cenv.locals != cenv.globals))=false) (hco:cenv.scope.isCoroutine=false) (hCI:cenv.locals≠I) (hCl:cenv.locals≠l) (hlI:l≠I) (T:Zri prog w cenv x elt items R (A.depth+1) (A.units+3))
  (s:Shared) (m:Str->Option Value) (hit:s.heap.IsListIter I l 0) (hl:s.heap.IsList l items) (hn:s.heap.Ns cenv.locals m) (ht:1<=s.toks) :
  Seg (model prog w) A (ZtX cenv.locals I) (GY cenv.locals I l items.size R) items.size s (.compStart (ZcY elt iter x px scope pos) 0 (.ref I) .none cenv) ((model prog w).den (.compStart (ZcY elt iter x px scope pos) 0 (.ref I) .none cenv)) [] s:=by
 have hh':(A.over (.compStart (ZcY elt iter x px scope pos) 0 (.ref I) .none cenv) []).handled=none:=hh
 have loop:=ZnP (iter:=iter) (px:=px) (scope:=scope) (pos:=pos) hh hx hp hco hCI hCl hlI T items.size 0 s s m (Nat.sub_zero _) (Nat.zero_le _) hit hl hn ht (GenSince.refl _ _ _)
 rw[Nat.sub_zero] at loop
 show Seg _ A _ _ _ s _ ((compStart (ZcY elt iter x px scope pos) 0 (.ref I) .none cenv).onRaise (leaving cenv)) [] s
 unfold compStart
 erw[rwl (Sem.onRaise_eq_wrap ..) ?_]
 show Seg _ A _ _ _ s _ ((ask >>= _).wrap _ _ _ _) [] s
 refine seg_bind_wrap (wpAny_askSetting ?_)
 split
 ·exact seg_again rfl loop
 ·first
   | exact seg_bind_wrap (wpAny_rule (seg_bind_wrap (wpAny_standAt (seg_bind_wrap (wpAny_pyIter_listiter hit (seg_again rfl loop))))))
   | (refine seg_bind_wrap (wpAny_rule ?_);show Seg _ A _ _ _ s _ ((standAt iter.pos >>= _).wrap _ _ _ _) [] s;exact seg_bind_wrap (wpAny_standAt (seg_bind_wrap (wpAny_pyIter_listiter hit (seg_again rfl loop)))))
noncomputable def ZuE(prog:Program)(w:World)(A:Around)(a:Addr)(g:Nat)(C I l:Addr)(n:Nat)(R:Nat->Value->Prop)(j:Nat)(s:Shared):Prop:=
 s.heap.IsGen a g∧s.heap.NoLimit∧1<=s.toks∧∃gs,s.gens[g]? = some gs∧∀s'':Shared,1<=s''.toks->(∀b∈[C,I,l],∀o,s.heap.get? b=some o->s''.heap.get? b=some o)->
  gs.Goes (model prog w) A.in1 (ZtX C I) (GY C I l n R) (n - j) (.send .none) s''
theorem ZmC(hh:A.handled=none)(a:Addr)(g:Nat)(C I l:Addr)(n:Nat)(R:Nat->Value->Prop)(haC:a≠C)(haI:a≠I)(hroom:A.depth < recursionLimit)(hcC:cStatics≠C)(hcI:cStatics≠I) :
    WalksS prog w A a [a,C,I,l,cStatics] [C,I] (GenOnlyQ g) n R (ZuE prog w A a g C I l n R) where
  sub:=λb hb=>by
    rcases List.mem_cons.mp hb with rfl | hb
    · simp
    · have:=List.mem_singleton.mp hb;subst this;simp
  grefl:=λ_=>.inl rfl
  gtrans:=λ_ _ _ x y=>x.trans y
  frame:=λj s h' tk st htk hk=>
    ⟨let ⟨o,nm,qn,ho,r⟩:=st.1;⟨o,nm,qn,hk a (by simp) o ho,r⟩,
     (let ⟨mc,hns,hnn⟩:=st.2.1;⟨mc,hns.at' λo e=>hk cStatics (by simp) o e,hnn⟩),Nat.le_trans st.2.2.1 htk,
     let ⟨gs,hgs,hgo⟩:=st.2.2.2;⟨gs,hgs,λs'' ht hal=>hgo s'' ht λb hb o e=>hal b hb o (hk b (by simp at hb ⊢;rcases hb with h | h | h<;>simp[h]) o e)⟩⟩
  item:=λj s Q E hj st hQ=>by
    obtain⟨hg,hl,ht,gs,hgs,hgo⟩:=st
    obtain⟨m,e,hm⟩:∃m,n - (j+1)=m∧n - j=m+1:=⟨_,rfl,ZhA hj⟩
    rw[hm] at hgo
    refine wpAny_with_toks (Nat.le_refl s.toks) ?_
    refine wpAny_pyNext_genexpQ (P:=λn s₀ s₁=>n=0∧GenSince C [I] s₀ s₁) hh hl hroom hg hgs (hgo _ ht λ_ _ _ e=>e) (λv s₁ gs' hb hv=>?_) (λs₁ hp h' hk=>?_)
    · obtain⟨hF,⟨h₁,tk₁,rfl,hk₁⟩,hkap⟩:=hv
      have hidx:n - 1 - (m+1 - 1)=j:=e▸Zs2 hj
      rw[hidx] at hF
      intro htk
      refine hQ v _ hF ⟨let ⟨o,nm,qn,ho,r⟩:=hg;⟨o,nm,qn,hk₁ a o haC (by simp[haI]) ho,r⟩,(let ⟨mc,hns,hnn⟩:=hl;⟨mc,hns.at' λo e=>hk₁ cStatics o hcC (by simp[hcI]) e,hnn⟩),Nat.le_trans ht htk,gs',setGen_self (gs:=.running) (setGen_self hgs),λs'' ht'' hal=>?_⟩
        ⟨λb o hb e=>hk₁ b o (λh=>hb (by simp[h])) (λh=>hb (by have:=List.mem_singleton.mp h;simp[this])) e,GenOnlyQ.of ((GenOnly.setGen s g .running).trans (GenOnly.setGen _ g gs')) (setGen_self (gs:=.running) (setGen_self hgs)) hb,rfl,rfl,htk⟩
      erw[rwl (e ..) ?_]
      exact hkap s'' ht'' hal
    · exact absurd hp.1 (Nat.succ_ne_zero m)
  done:=λs Q E st hQ=>by
    obtain⟨hg,hl,ht,gs,hgs,hgo⟩:=st
    rw[Nat.sub_self] at hgo
    refine wpAny_with_toks (Nat.le_refl s.toks) ?_
    refine wpAny_pyNext_genexpQ (P:=λn s₀ s₁=>n=0∧GenSince C [I] s₀ s₁) hh hl hroom hg hgs (hgo _ ht λ_ _ _ e=>e) (λv s₁ gs' hb hv=>?_) (λs₁ hp h' hk=>?_)
    · obtain⟨_,⟨h₁,tk₁,rfl,hk₁⟩,hkap⟩:=hv
      intro htk
      exact False.elim (hkap _ (Nat.le_trans ht htk) λ_ _ _ e=>e)
    · obtain⟨_,h₁,tk₁,rfl,hk₁⟩:=hp
      intro htk
      exact hQ _ ⟨λb o hb e=>hk b o (hk₁ b o (λh=>hb (by simp[h])) (λh=>hb (by have:=List.mem_singleton.mp h;simp[this])) e),GenOnlyQ.of ((GenOnly.setGen s g .running).trans (GenOnly.setGen _ g .finished)) (setGen_self (gs:=.running) (setGen_self hgs)) rfl,rfl,rfl,htk⟩
  self:=λ_ _ _ _ st hQ=>wpAny_pyIter_gen st.1 hQ
end
end
section
noncomputable abbrev Odd(F:Fp)(c P:Addr)(xs:List (Pos×Str))(mg:Str->Option Value):Prop:=(F.env.code=.ref c)∧(∀h,F.Gd h->Za5 c P xs h)∧(∀h h',F.Gd h->Kp h h'->(∀b o,b≠P->h.get? b=some o->h'.get? b=some o)->Za5 c P xs h'->F.Gd h')∧(mainGlobals≠P)∧(∀h,F.Gd h->h.BuiltinsAt mg P)∧(∀pq∈xs,∀pq'∈xs,pq.1.line=pq'.1.line->pq.1.col=pq'.1.col->pq.2=pq'.2)
theorem Odd.code{F:Fp}{c P:Addr}{xs:List (Pos×Str)}{mg:Str->Option Value}(slf:Odd F c P xs mg):F.env.code=.ref c:=slf.1
theorem Odd.tab{F:Fp}{c P:Addr}{xs:List (Pos×Str)}{mg:Str->Option Value}(slf:Odd F c P xs mg):∀h,F.Gd h->Za5 c P xs h:=slf.2.1
theorem Odd.set{F:Fp}{c P:Addr}{xs:List (Pos×Str)}{mg:Str->Option Value}(slf:Odd F c P xs mg):∀h h',F.Gd h->Kp h h'->(∀b o,b≠P->h.get? b=some o->h'.get? b=some o)->Za5 c P xs h'->F.Gd h':=slf.2.2.1
theorem Odd.nP{F:Fp}{c P:Addr}{xs:List (Pos×Str)}{mg:Str->Option Value}(slf:Odd F c P xs mg):mainGlobals≠P:=slf.2.2.2.1
theorem Odd.bi{F:Fp}{c P:Addr}{xs:List (Pos×Str)}{mg:Str->Option Value}(slf:Odd F c P xs mg):∀h,F.Gd h->h.BuiltinsAt mg P:=slf.2.2.2.2.1
theorem Odd.hu{F:Fp}{c P:Addr}{xs:List (Pos×Str)}{mg:Str->Option Value}(slf:Odd F c P xs mg):∀pq∈xs,∀pq'∈xs,pq.1.line=pq'.1.line->pq.1.col=pq'.1.col->pq.2=pq'.2:=slf.2.2.2.2.2
section
variable {prog:Program}{w:World}{F:Fp}{K:Addr->Prop}{ad:Nat->Bool->Addr}{σ:Sg}{s:Shared}{mg mb:Str->Option Value}{n:Nat}{A:Around}{E:Value->Shared->Prop}{c P:Addr}{xs:List (Pos×Str)}
theorem ZkX(sep:List Nat)(ls:List (List Nat)):(Txt.join ⟨sep.toArray⟩ (ls.map λl=>(⟨l.toArray⟩:Str))).cps.toList=ZbX sep ls:=by
 show(Builtin.Str.glued _ _).cps.toList=_
 erw[rwl (StrLaws.glued_eq_join ..) (rwl (Zdr ..) ?_)]
theorem Zoi(G:Gr F.base mg mb F.Gd)(H:Fs F)(O:Odd F c P xs mg)(L:Lv A n)(f:Fm F K ad σ s){sep:List Nat}{t:Tok}{j:Nat}{yj:Str}{pj gpos px:Pos}{elt:Expr}{x:Str}{scope:Scope}{ds:List D}{txs:List (List Nat)}{Q:Value->Shared->Prop}
  (hj:rdt σ j=some (.list ds)) (hyj:F.nm[j]? = some yj) (d1:yj≠("__debug__" : Str)) (d2:yj≠("__classdict__" : Str)) (hmem:∃pq∈xs,pq.1.line=gpos.line∧pq.1.col=gpos.col∧pq.2=F.env.qual++("<genexpr>" : Str))
  (hco:scope.isCoroutine=false) (hcl:closureFor scope F.env=pure []) (hcell:∀y∈scope.names,y.2≠.cell) (h0:scope.names.lookup (".0" : Str)=some NameKind.local) (hx:scope.names.lookup x=some .local) (hkind:scope.kind=.function)
  (hsep:sep.length<=4) (hl1:txs.length<=1000000) (hl2:(txs.map (·.length)).sum<=1000000) (hlen:txs.length=ds.length)
  (hT:∀(C:Addr) (code:Value) (vs:List Value) (h:Heap),Zad (λ_=>True) h vs ds->Zri prog w (genEnv scope [] C code builtinsNs F.env) x elt vs.toArray (λi y=>∃l t,txs[i]? = some l∧y=.str ⟨l.toArray⟩ t) (A.depth+1) (A.units+6))
  (k:∀v s',Gw s s'->Ok F.Gd s'->Rd (Pq F K ad σ) s'.heap v (.str (ZbX sep txs))->Q v s') :
  wpAny (model prog w) A (eval (ZcY elt (.Name yj pj) x px scope gpos) F.env) (λv s₁=>wpAny (model prog w) A (call (.builtin "str.join") [.str ⟨sep.toArray⟩ t,v]) Q E s₁) E s:=by
 obtain⟨y',lv,hy',hvar,hrd⟩:=(f.ZcE H).ZtH j _ hj
 rw[hyj] at hy';cases hy'
 obtain⟨l,vs,rfl,hpl,hra,hz⟩:=hrd.Zbq
 refine wpAny_GeneratorExp_make hco hcl hcell h0 hkind (by have:=L.dp;have e:recursionLimit=1000:=rfl;lia) ?_ (λ_=>rfl)
 refine Zcu (ZfA H) hvar d1 d2 (wpAny_pyIter_list hpl.isList ?_)
 have sI:=Zau s.heap
 have kI:∀b o,s.heap.get? b=some o->(s.heap.push { cls:=.type "list_iterator",data:=.fields #[.ref l,.int 0 0] }).get? b=some o:=λ_ _ e=>Heap.get?_push_of_some _ e
 have hit:(s.heap.push { cls:=.type "list_iterator",data:=.fields #[.ref l,.int 0 0] }).IsListIter s.heap.objs.size l 0:=⟨_,Heap.get?_push_size _ rfl,rfl,rfl⟩
 generalize hI:s.heap.objs.size=I at *
 generalize hh1:s.heap.push { cls:=.type "list_iterator",data:=.fields #[.ref l,.int 0 0] }=h1 at *
 have ok1:Ok F.Gd { s with heap:=h1 }:=⟨G.keeps f.ok.gd kI,f.ok.tk⟩
 refine⟨G.lim _ ok1.gd,Zta (c:=c) (P:=P) (xs:=xs) (O.tab _ ok1.gd) hmem (λpq hp e1 e2=>(by obtain⟨qq,hq,f1,f2,f3⟩:=hmem;erw[rwr (f3 ..) ?_];exact O.hu pq hp _ hq (e1.trans f1.symm) (e2.trans f2.symm))) O.code f.ok.tk λcv h2 tk2 Md T2 htk2 hsz2=>?_⟩
 have Gd2:F.Gd h2:=O.set _ _ ok1.gd Md.kp Md.bt T2
 obtain⟨bm,ob,b1,b2,b3,b4,b5,b6,b7,b8⟩:=O.bi _ Gd2
 refine wpAny_builtinsFor (by erw[rwl (H.gl ..) ?_];exact G.g _ Gd2) b1 b2 b5 b6 b7 b8 ?_
 intro h3 hns3 hsb3
 dsimp only at hns3 hsb3 ⊢
 have sC:=Zau h2
 have kC:∀b o,h2.get? b=some o->h3.get? b=some o:=λb o e=>hsb3.extBut b o (λq=>by rw[q,sC] at e;cases e) (Heap.get?_push_of_some _ e)
 generalize hC:h2.objs.size=C at *
 have sa:=Zau h3
 generalize hgen:({ cls:=.type "generator",data:=.fields #[.int s.gens.size 0,.str "<genexpr>" (tk2+1),.str (F.env.qual++("<genexpr>" : Str)) (tk2+1+1)] }:Obj)=og
 have kG:∀b o,h3.get? b=some o->(h3.push og).get? b=some o:=λ_ _ e=>Heap.get?_push_of_some _ e
 have hgenAt:(h3.push og).get? h3.objs.size=some og:=Heap.get?_push_size _ (by subst hgen;rfl)
 generalize ha:h3.objs.size=a at *
 generalize hh4:h3.push og=h4 at *
 have kl:l≠I:=λq=>by obtain⟨_,e⟩:=hpl;rw[q,sI] at e;cases e
 have kp12:Kp s.heap h2:=(Kp.of kI).trans Md.kp
 have kp14:Kp s.heap h4:=(kp12.trans (.of kC)).trans (.of kG)
 have ex14:∀b o,s.heap.get? b=some o->∃o',h4.get? b=some o':=λb o e=>by
  obtain⟨o',e'⟩:=Md.ex b o (kI b o e)
  exact⟨o',kG _ _ (kC _ _ e')⟩
 have Gd4:F.Gd h4:=G.keeps (G.keeps Gd2 kC) kG
 obtain⟨oI,eI,cI,dI⟩:=hit
 have eI2:h2.get? I=some oI:=Md.kp _ _ (.ZaD cI) eI
 have hpl2:h2.PlainList l vs.toArray:=Zbp hpl kp12
 have hCI:C≠I:=λq=>by rw[q,eI2] at sC;cases sC
 have hCl:C≠l:=λq=>by obtain⟨_,e⟩:=hpl2;rw[q] at sC;rw[sC] at e;cases e
 have haC:a≠C:=λq=>by obtain⟨o,es,ep,e,_⟩:=hns3;rw[←q,sa] at e;cases e
 have haI:a≠I:=λq=>by have:=kC _ _ eI2;rw[←q,sa] at this;cases this
 have hlim4:=G.lim _ Gd4
 obtain⟨mc,hnsc,hnc⟩:=G.lim _ f.ok.gd
 obtain⟨oc,esc,epc,ecs,edc,_⟩:=hnsc
 have hcI:cStatics≠I:=λq=>by rw[q,sI] at ecs;cases ecs
 have hcC:cStatics≠C:=λq=>by have:=kp12 _ _ (.Zeo edc) ecs;rw[q,sC] at this;cases this
 have sC0:s.heap.get? C=none:=by
  cases e:s.heap.get? C with
  | none=>rfl
  | some o=>obtain⟨o',e'⟩:=Md.ex _ _ (kI _ _ e);rw[sC] at e';cases e'
 have hd1:A.in1.in1.depth < recursionLimit:=by have:=L.dp;have e:recursionLimit=1000:=rfl;show A.depth < _;lia
 have W:=ZmC (prog:=prog) (w:=w) (A:=A.in1.in1) L.hd a s.gens.size C I l vs.toArray.size (λi y=>∃l t,txs[i]? = some l∧y=.str ⟨l.toArray⟩ t) haC haI hd1 hcC hcI
 have hvl:vs.length=ds.length:=hra.length
 refine wrap (by show 1<=tk2+1+1+1;lia) ?_
 refine SC.joinGen (n:=vs.toArray.size) W (λi s' st=>st.1.typeIs) ?_ ?_ (by simp) (λi v hv=>let ⟨l,t,_,e⟩:=hv;⟨_,t,e⟩) ?_ (by simp;erw[rwl (hvl ..) (rwr (hlen ..) (rwl (szv ..) ?_))];lia)
 ·have hgt:(s.gens.push (GenState.fresh (.compStart (ZcY elt (.Name yj pj) x px scope gpos) 0 (.ref I) .none (genEnv scope [] C cv builtinsNs F.env))))[s.gens.size]? = some (.fresh (.compStart (ZcY elt (.Name yj pj) x px scope gpos) 0 (.ref I) .none (genEnv scope [] C cv builtinsNs F.env))):=Array.getElem?_push_size ..
  refine⟨⟨og,_,_,hgenAt,by subst hgen;rfl,by subst hgen;rfl,by subst hgen;rfl⟩,hlim4,by show 1<=tk2+1+1+1;lia,_,hgt,λs'' ht'' hal=>⟨rfl,?_⟩⟩
  erw[rwl (Nat.sub_zero ..) ?_]
  have hns4:h4.Ns C (λy=>if y = ".0" then some (.ref I) else none):=hns3.keeps kG
  refine ZmL (A:=A.in1.in1.in1) (cenv:=genEnv scope [] C cv builtinsNs F.env) L.hd hx (by simp[genEnv,hkind]) hco hCI hCl kl (hT C cv vs s.heap (hra.mono λ_ _ _ e _=>⟨trivial,e⟩)) s'' _ ?_ ?_ (hns4.at' λo e=>hal C (by simp) o e) ht''
  ·exact⟨oI,hal I (by simp) _ (kG _ _ (kC _ _ eI2)),cI,dI⟩
  ·obtain⟨n1,e1⟩:=hpl2
   exact⟨_,hal l (by simp) _ (kG _ _ (kC _ _ e1)),rfl,n1,rfl⟩
 ·intro b hb
  show b < h4.objs.size
  have hC4:∃o,h4.get? C=some o:=by obtain⟨o,es,ep,e,_⟩:=hns3;exact⟨o,kG _ _ e⟩
  have hl4:∃o,h4.get? l=some o:=by obtain⟨n1,e1⟩:=hpl2;exact⟨_,kG _ _ (kC _ _ e1)⟩
  simp only[List.mem_cons,List.not_mem_nil,or_false] at hb
  rcases hb with rfl | rfl | rfl | rfl | rfl
  ·exact Heap.lt_size hgenAt
  ·exact Heap.lt_size hC4.choose_spec
  ·exact Heap.lt_size (kG _ _ (kC _ _ eI2))
  ·exact Heap.lt_size hl4.choose_spec
  ·exact Heap.lt_size (kp14 _ _ (.Zeo edc) ecs)
 ·intro s' lt hm hacc
  have e1:lt.map (·.1)=txs.map λl=>(⟨l.toArray⟩:Str):=by
   have hsz:lt.length=vs.length:=by simpa[strValues] using hacc.1
   apply List.ext_getElem?
   intro i
   by_cases hi:i < vs.length
   ·have hi':i < lt.length:=by lia
    obtain⟨l2,t2,h2,h3⟩:=hacc.2 i (.str lt[i].1 lt[i].2) (by simp[strValues,List.getElem?_eq_getElem hi'])
    injection h3 with h3 _
    simp[List.getElem?_eq_getElem hi',h2,h3]
   ·rw[List.getElem?_eq_none (by simp;lia),List.getElem?_eq_none (by simp;lia)]
  erw[rwl (e1 ..) ?_]
  have h4':txs.length * sep.length<=1000000 * 4:=Nat.mul_le_mul hl1 hsep
  refine⟨joinOk_of ?_,λt' k' hk'=>?_⟩
  ·erw[rwl (List.map_map ..) (rwl (List.length_map ..) (rwl (str_len ..) ?_))]
   have:(txs.map ((λx:Str=>x.length) ∘ λl=>(⟨l.toArray⟩:Str)))=txs.map (·.length):=by
    apply List.map_congr_left;intro a _;exact str_len a
   erw[rwl (this ..) ?_];lia
  ·have hWI:∀b o,NT o->s.heap.get? b=some o->s'.heap.get? b=some o:=λb o nn e=>hm.heap b o (λq=>by
    simp only[List.mem_cons,List.not_mem_nil,or_false] at q
    rcases q with q | q
    ·rw[q,sC0] at e;cases e
    ·rw[q,sI] at e;cases e) (kp14 _ _ nn e)
   have gw:Gw s { s' with toks:=k' }:=⟨hWI,λb o e=>?_,hm.os,λg=>AllBare.movedS (s':=s') (AllBare.push g rfl) hm⟩
   ·have Gd5:F.Gd s'.heap:=G.keep _ _ Gd4 λb o hb e=>hm.heap b o (λq=>by
     simp only[List.mem_cons,List.not_mem_nil,or_false] at q
     rcases q with q | q
     ·obtain⟨oc,es,ep,e2,ed,_⟩:=hns3
      rw[q,kG _ _ e2] at e;cases e
      rcases hb with hb | hb
      ·obtain⟨_,e5⟩:=G.there _ _ f.ok.gd hb;rw[q,sC0] at e5;cases e5
      ·exact hb (.inl ⟨es,ep,ed⟩)
     ·rw[q,kG _ _ (kC _ _ eI2)] at e;cases e
      rcases hb with hb | hb
      ·obtain⟨_,e5⟩:=G.there _ _ f.ok.gd hb;rw[q,sI] at e5;cases e5
      ·exact hb (.inr (.inr (.inr (.inl cI))))) e
    refine k _ _ gw ⟨Gd5,?_⟩ (ZgT (ZkX sep txs) ?_)
    ·exact hk'
    ·have:=Zfl sep txs
     erw[rwl (szv ..) ?_];lia
   ·obtain⟨o',e'⟩:=ex14 b o e
    exact⟨o',hm.heap b o' (λq=>by
     simp only[List.mem_cons,List.not_mem_nil,or_false] at q
     rcases q with q | q
     ·rw[q,sC0] at e;cases e
     ·rw[q,sI] at e;cases e) e'⟩
end
end
section
section
variable {prog:Program}{w:World}{env:Env}{h:Heap}
noncomputable def TQ(prog:Program)(w:World)(env:Env)(h:Heap)(e:Expr)(l:List Nat):Prop:=∀(A:Around) (E:Value->Shared->Prop) (s:Shared) (Q:Value->Shared->Prop),s.heap=h->1<=s.toks->(∀t tk,1<=tk->Q (.str ⟨l.toArray⟩ t) { s with toks:=tk })->wpAny (model prog w) A (eval e env) Q E s
theorem ZqX{x:Str}{l:List Nat}(e:x.cps.toList=l):x=⟨l.toArray⟩:=by subst e;rfl
theorem ZrW{z:List Nat}{c:Nat}(h:(!(z==[c]))=true):((⟨#[c]⟩:Str)==⟨z.toArray⟩)=false:=by
 refine beq_eq_false_iff_ne.mpr λq=>?_
 have e:z=[c]:=(congrArg (λx:Str=>x.cps.toList) q).symm
 rw[e,beq_self_eq_true] at h
 exact nf h
theorem ZlQ{nm:List Str}{fn:Nat->Str}{sc:Scope}{b:X}{c z:Nat}{zs l:List Nat}{e:Expr}(hm:mt nm fn sc false (.repl b c z zs) e=true)(hl:l.length<=1000000)(hz:zs.length<=8)(hb:∀o,mt nm fn sc false b o=true->TQ prog w env h o l) :
  TQ prog w env h e (Zbe c (z::zs) l):=by
 intro A E s Q hh ht k
 refine Zbz (show ZcI _ _ e=true from hm) λeo ap as pos m2 m3 hm=>ZkK hm λp q hm=>ZjH hm λm4 m5 m6 m7=>?_
 have p1:=ZdG m4
 have p2:=ZdG m5
 refine wpAny_Call_method (T := "str") (id := "str.replace") (ZaQ m2) (by erw[rwl (Zab p1 ..) (rwl (Zab p2 ..) (rwl (Zam ..) ?_))];rfl) m3 PySem.F.plainAttrs_str PySem.F.slot_str_replace PySem.F.type_str_replace ?_
 refine hb eo m7 A E s _ hh ht λt tk htk=>⟨rfl,Zbw,?_⟩
 erw[rwl (Zab p1 ..) (rwl (Zab p2 ..) (rwl (Zam ..) (rwl (Zah ..) (rwl (Zah ..) (rwl (Zay ..) ?_)))))]
 refine Calls.callWith_builtin rfl (Calls.evalArgs_plain (Calls.spliced_cons (Zbo m4 (Calls.spliced_cons (Zbo m5 (Calls.spliced_nil ?_))))))
 refine wrap (Nat.le_succ_of_le (Nat.le_succ_of_le htk)) (SC.replaceW (hu:=Nat.ne_of_gt htk) (hv:=Nat.succ_ne_zero tk) (huv:=Nat.ne_of_lt (Nat.lt_succ_self tk)) (hyz:=ZrW m6) (hx:=?_) (hz:=?_) λt' k' ht'=>?_)
 ·exact Nat.le_trans (Nat.le_of_eq (str_len _)) (Nat.le_trans hl (by decide))
 ·exact Nat.le_trans (Nat.le_of_eq (str_len _)) (Nat.succ_le_succ (Nat.le_trans hz (by decide)))
 ·erw[rwl (ZqX (ZdO ⟨l.toArray⟩ c (z::zs)) ..) ?_]
  exact k t' k' ht'
theorem Ztc{nm:List Str}{fn:Nat->Str}{sc:Scope}{u:Nat}{x:Str}{l:List Nat}{t:Tok}{e:Expr}{m:Str->Option Value}(hm:mt nm fn sc false (.var u) e=true)(hx:nm[u]? = some x)(hk:env.scope.kind=.function)(hl:env.kindOf x=some .local)(hn:h.Ns env.locals m)(hv:m x=some (.str ⟨l.toArray⟩ t)) :
  TQ prog w env h e l:=by
 intro A E s Q hh ht k
 refine Zlz (show mtv nm u e=true from hm) λy p hy h1 h2=>?_
 rw[hx] at hy
 rw[←Option.some.inj hy] at h1 h2 ⊢
 exact Zcu hk (.inl ⟨hl,m,hh▸hn,hv⟩) h1 h2 (k t s.toks ht)
theorem Zuh{Γ:ZaC}{σ:Sg}{nm:List Str}{fn:Nat->Str}{sc:Scope}{e:X}{t:Nat}{d r:D}{x:Str}{elt:Expr}{m:Str->Option Value}(hq:Zlq (λb _ _ _=>Zlq (λb _ _ _=>Zt2 (λu=>u==t) b) b) e=true)(hm:mt nm fn sc false e elt=true)(hv:ev Γ (σ.set t (.fz d)) e=some r)
  (hx:nm[t]? = some x) (hk:env.scope.kind=.function) (hl:env.kindOf x=some .local) (hn:h.Ns env.locals m) (hmx:∀l,d=.str l->∃tk,m x=some (.str ⟨l.toArray⟩ tk)):∃l,r=.str l∧TQ prog w env h elt l:=by
 revert hm hv
 refine Zmb hq λb c z zs hq=>Zmb hq λb c1 z1 zs1 hq=>Ztl hq λu hq=>eqb hq λhm hv=>?_
 refine Zac (show(((rd (σ.set t (.fz d)) t).bind _).bind _)=some r from hv) λd2 h2 hv=>Zac h2 λd1 h1 h2=>?_
 revert h2
 refine ZbG (show Zd2 _ d2=_ from hv) λl2 hv=>ifS hv λc2 hv=>eqs hv λh2=>?_
 revert h1
 refine ZbG (show Zd2 _ d1=_ from h2) λl1 h2=>ifS h2 λc1 h2 h1=>?_
 rcases Zo2 h1 with⟨_,e1⟩ | ⟨hne,_⟩
 ·obtain⟨tk,hmv⟩:=hmx l1 e1.symm
  exact⟨_,rfl,ZlQ hm c2.1 c2.2 λo ho=>D.str.inj (Option.some.inj h2)▸ZlQ ho c1.1 c1.2 λo2 ho2=>Ztc ho2 hx hk hl hn hmv⟩
 ·exact absurd rfl hne
end
end
section
theorem Znv{ds:List D}{ls:List (List Nat)}(h:strs? ds=some ls):ls.length=ds.length:=by erw[rwl (Zcr h ..) (rwl (List.length_map ..) ?_)]
theorem Zhm{g:D->Option D}:∀{ds rs:List D},ZbQ (λd=>(g d).map some) ds=some rs->rs.length=ds.length∧∀(i:Nat) d,ds[i]? = some d->∃r,g d=some r∧rs[i]? = some r
 | [],rs,h=>eqs h ⟨rfl,λi d e=>nn e⟩
 | d::ds,rs,h=>Zac (show((g d).map some).bind _=some rs from h) λr h1 h=>by
  revert h
  refine Zdx h1 λr0 h0 h=>Zdx h λys h2=>?_
  obtain⟨e1,e2⟩:=Zhm h2
  exact⟨congrArg Nat.succ e1,λi d' e=>match i with
   | 0=>⟨r0,Option.some.inj e▸h0,rfl⟩
   | i+1=>e2 i d' e⟩
theorem Ziu{ls:List (List Nat)}{i:Nat}{l:List Nat}(h:(ls.map D.str)[i]? = some (.str l)):ls[i]? = some l:=Zdy ((List.getElem?_map ..).symm.trans h) λ_ hx e=>D.str.inj e▸hx
section
variable {prog:Program}{w:World}{F:Fp}{K:Addr->Prop}{ad:Nat->Bool->Addr}{σ:Sg}{s:Shared}{mg mb:Str->Option Value}{Γ:ZaC}{fn:Nat->Str}{fa:Nat->Addr}{n N:Nat}{A:Around}{E:Value->Shared->Prop}{c P:Addr}{xs:List (Pos×Str)}
theorem Zho{scope:Scope}{x:Str}(h:Zi2 scope x=true):(∀y∈scope.names,y.2≠.cell)∧(∀z,(z,NameKind.free) ∉ scope.names)∧scope.names.lookup (".0" : Str)=some .local∧scope.names.lookup x=some .local∧scope.kind=.function∧scope.isCoroutine=false:=
 Zm4 h λh1 h2 h3 h4 h5=>⟨λy hy=>bne_iff_ne.mp (Zbv (List.all_eq_true.mp h1 y hy)),λ_ hz=>bne_iff_ne.mp (Za7 (List.all_eq_true.mp h1 _ hz)) rfl,eq_of_beq h2,eq_of_beq h3,eq_of_beq h4,ZfN h5⟩
theorem ZcO{cells:List (Str×Addr)}:∀{names:List (Str×NameKind)} {acc:List (Str×Addr)},(∀z,(z,NameKind.free) ∉ names)->Zb9 cells names acc=acc
 | [],_,_=>rfl
 | (n,k)::r,acc,h=>by
  have hk:(k==NameKind.free)=false:=beq_eq_false_iff_ne.mpr λq=>h n (q▸List.mem_cons_self)
  erw[rwl (Zq4 ..) (rwl (hk ..) ?_)]
  exact ZcO λz hz=>h z (List.mem_cons_of_mem _ hz)
theorem Zqa(G:Gr F.base mg mb F.Gd)(H:Fs F)(O:Odd F c P xs mg)(hn2:2<=n){ys:List (Nat×Nat×Bool)}(hq:∀gl gc,(gl,gc,true)∈ys->∃pq∈xs,pq.1.line=gl∧pq.1.col=gc∧pq.2=F.env.qual++("<genexpr>" : Str))
  {i t gl gc:Nat} {sep:List Nat} {e it:X} (hg:(gl,gc,true)∈ys):S1 prog w F Γ fn n N (.asgJ i sep t e it gl gc):=by
 intro st K ad σ A s E Q fl σ' hm L f hv k
 revert k
 refine ZoN (show(ev Γ σ (.joing (.const (.str sep)) t e it)).map _=_ from hv) λd hd=>Zac (show((ev Γ σ it).bind itemsOf).bind _=some d from hd) λds hds hd=>Zac hd λrs hrs hd=>Zac (show(strs? rs).bind _=some d from hd) λls hls hd=>ifS hd λhlim hd=>eqs hd λk=>?_
 refine ZbU (show ZbZ _ st=true from hm) λt' v p hm=>Zbg hm λm1 hm=>Zbz hm λso ap as pos mb m5 hm=>ZfO hm λg hm=>Zd3 hm λm2 m3 hm=>Zsa hm λelt gens scope gpos hm=>ZjH hm λm9 m10 m12 hm=>ZfO hm λc hm=>?_
 obtain⟨tg,iter,ifs,asy⟩:=c
 refine Zm4 hm λn0 n1 m6 m7 m8=>eqb (show(asy==0)=true from n0) (ZcB (show ifs.isEmpty=true from n1) (Zby (show Zcs _ tg=true from m8) λx px m8=>Zbg m8 λe8 m11=>?_))
 revert hds
 refine Zuu (show qTv _ it=true from m6) λj m6 hds=>Zac (show(rdt σ j).bind itemsOf=_ from hds) λdl hj hi=>?_
 revert hj
 refine Zlr hi λhl hj=>ZfK m1 λy p hy hk=>Zlz (show mtv F.nm j iter=true from m6) λyj pj hyj d1 d2=>?_
 obtain⟨g1,g2,g3,g4,g5,g6⟩:=Zho m11
 obtain⟨hlen,hget⟩:=Zhm hrs
 refine wpAny_Assign_Name (wpAny_Call_method (T := "str") (id := "str.join") (ZaQ mb) rfl m5 PySem.F.plainAttrs_str PySem.F.slot_str_join PySem.F.type_str_join (Zbo m2 ⟨rfl,Zbw,?_⟩)) rfl
 have gt:Gw s { s with toks:=s.toks+1 }:=.tok ..
 have ft:=f.grow gt ⟨f.ok.gd,Nat.le_succ_of_le f.ok.tk⟩
 erw[rwl (Zab (show Zai (ZcY elt (.Name yj pj) x px scope gpos)=true from rfl) ..) (rwl (Zam ..) (rwl (Zah ..) (rwl (Zay ..) ?_)))]
 refine Calls.callWith_builtin rfl (Calls.evalArgs_plain (Calls.spliced_cons (wpAny_mono (Zoi (t:=s.toks) (sep:=sep) (txs:=ls) G H O L ft hj hyj d1 d2 (let ⟨pq,h1,h2,h3,h4⟩:=hq gl gc hg;⟨pq,h1,h2.trans (eq_of_beq m9).symm,h3.trans (eq_of_beq m10).symm,h4⟩) g6
  ((ZbM λz hz=>absurd hz (g2 z)).trans (by erw[rwl (ZcO g2 ..) ?_])) g1 g3 g4 g5 (of_decide_eq_true m3) hlim.1 hlim.2.2 ((Znv hls).trans hlen) (λC code vs h hra=>⟨λA' E' i' v s₂ m₂ hA hD hU hv ht hns hm₂=>?_⟩) λv s' gw ok r=>?_) (λv s' q=>Calls.spliced_nil q) λ_ _ q=>q)))
 ·obtain⟨d,hdi,rv⟩:=hra.Zu0 ((List.getElem?_toArray ..).symm.trans hv)
  obtain⟨r,hr,hri⟩:=hget i' d hdi
  obtain⟨lr,e1,T2⟩:=Zuh (env:=genEnv scope [] C code builtinsNs F.env) (h:=s₂.heap) m7 m12 hr (eq_of_beq e8) g5 g4 hns λl e=>let ⟨_,tk,q⟩:=(e▸rv:Rd _ _ v (.str l)).str_inv;⟨tk,hm₂.trans (congrArg some q)⟩
  rw[Zcr hls,e1] at hri
  exact T2 A' E' s₂ _ rfl ht λt tk _=>⟨⟨_,t,Ziu hri,rfl⟩,s₂.heap,tk,rfl,λ_ _ e=>e⟩
 ·exact(ft.grow gw ok).Zc0 G H hy hk r λs₃ f₃ t₃=>k ad s₃ f₃ ((gt.stp.trans gw.stp).trans t₃)
end
end
section
open PySem.Sre
noncomputable def Zcc:Array Nat:=#[14,14,4,1,1,9,0,64,0,1342177280,0,0,0,0,0,17,0,13,11,9,0,64,0,1342177280,0,0,0,0,0,17,1,1]
noncomputable def Zfz(c:Nat):Bool:=c==38||c==126||c==124
theorem Zm8(c:Nat):(decide (c < 256)&&((#[0,64,0,1342177280,0,0,0,0]:Array Nat).getD (c / 32) 0).testBit (c % 32))=Zfz c:=by
 rcases Nat.lt_or_ge c 256 with h | h
 ·revert c
  decide +kernel
 ·have h1:decide (c < 256)=false:=by simp;lia
  have h2:Zfz c=false:=by unfold Zfz;simp;lia
  erw[rwl (h1 ..) (rwl (h2 ..) ?_)];rfl
theorem Zoh(i k:Nat)(hi:i=5∨i=19)(hk:k < 8):Zcc.getD (i+(1+k)) 0=(#[0,64,0,1342177280,0,0,0,0]:Array Nat).getD k 0:=by
 rcases hi with rfl | rfl
 ·revert k;decide +kernel
 ·revert k;decide +kernel
theorem Zvo(i c:Nat)(hi:i=5∨i=19)(seen:Sre.Seen):∃seen',inSet Zcc c 32 i true seen=.ok (Zfz c,seen'):=by
 have hb:(decide (c < 256)&&(Zcc.getD (i+(1+c / 32)) 0).testBit (c % 32))=Zfz c:=by
  erw[rwr (Zm8 c ..) ?_]
  rcases Nat.lt_or_ge c 256 with h | h
  ·rw[Zoh i (c / 32) hi (by lia)]
  ·have:decide (c < 256)=false:=by simp;lia
   erw[rwl (this ..) ?_];rfl
 have e:∃s1 s2,inSet Zcc c 32 i true seen=if(decide (c < 256)&&(Zcc.getD (i+(1+c / 32)) 0).testBit (c % 32))=true then .ok (true,s1) else .ok (false,s2):=by
  rcases hi with rfl | rfl<;>exact⟨_,_,rfl⟩
 obtain⟨s1,s2,e⟩:=e
 rw[hb] at e
 cases h:Zfz c with
 | true=>rw[h] at e;exact⟨s1,e⟩
 | false=>rw[h] at e;exact⟨s2,e⟩
noncomputable def mk0(text:Array Nat)(p lim last:Nat):M:={ code:=Zcc,text,lim,start:=p,lastStart:=last,pc:=15,pos:=p,handed:=p,marks:=#[none,none],seen:=({}:Sre.Seen).add 14 }
theorem Zlb(text:Array Nat)(p lim:Nat)(h:p<=lim):forSearch Zcc text 1 p lim false=if lim - p < 1 then(mk0 text p lim 0).say false else(mk0 text p lim lim).attemptFrom p true:=by
 have e:forSearch Zcc text 1 p lim false=if(decide (p > lim)||decide (lim - p < 1))=true then(mk0 text p lim 0).say false else(mk0 text p lim lim).attemptFrom p true:=rfl
 erw[rwl (e ..) (rwl (show decide (p > lim)=false from decide_eq_false (Nat.not_lt.mpr h) ..) (rwl (Bool.false_or ..) ?_))]
 simp only[decide_eq_true_eq]
theorem Ze4(m:M)(hc:m.code=Zcc):∀(fuel s:Nat) (seen:Sre.Seen),m.lim - s < fuel->∃seen',M.admitted m fuel s seen=.ok ((List.range' s (m.lim - s)).find? (λi=>Zfz (m.text.getD i 0)),seen')
 | 0,s,seen,h=>absurd h (Nat.not_lt_zero _)
 | fuel+1,s,seen,h=>by
  unfold M.admitted
  by_cases hs:s≥m.lim
  ·erw[rwl (if_pos hs ..) (rwl (Nat.sub_eq_zero_of_le hs ..) ?_)];exact⟨seen,rfl⟩
  ·erw[rwl (if_neg hs ..) (rwl (hc ..) ?_)]
   obtain⟨seen1,e1⟩:=Zvo 5 (m.text.getD s 0) (.inl rfl) seen
   have e2:inSet Zcc (m.text.getD s 0) Zcc.size 5 true seen=.ok (Zfz (m.text.getD s 0),seen1):=e1
   erw[rwl (e2 ..) (rwl (ZhA (Nat.lt_of_not_le hs) ..) (rwl (List.range'_succ ..) (rwl (List.find?_cons ..) ?_)))]
   cases Zfz (m.text.getD s 0) with
   | true=>exact⟨seen1,rfl⟩
   | false=>exact Ze4 m hc fuel (s+1) seen1 (Nat.lt_of_succ_lt_succ (Nat.lt_of_le_of_lt (Nat.le_of_eq (ZhA (Nat.lt_of_not_le hs)).symm) h))
noncomputable def mk1(text:Array Nat)(p lim s:Nat)(seen:Sre.Seen):M:={ mk0 text p lim lim with mustAdvance:=false,seen,start:=s,pos:=s,handed:=s,lastmark:=-1,lastindex:=-1,frames:=[{ wait:=.nextStart,pc:=15,pos:=s,outermost:=true }],weight:=1,pc:=15,outermost:=true }
theorem Zkd(text:Array Nat)(p lim:Nat)(h:p<=lim):∃seen,(mk0 text p lim lim).attemptFrom p true=match (List.range' p (lim - p)).find? (λi=>Zfz (text.getD i 0)) with
  | some s=>mk1 text p lim s seen
  | none=>({ mk0 text p lim lim with seen }:M).say false:=by
 obtain⟨seen,e⟩:=Ze4 (mk0 text p lim lim) rfl (lim+1 - p) p (mk0 text p lim lim).seen (by show lim - p < _;erw[rwl (Nat.succ_sub h ..) ?_];exact Nat.lt_succ_self _)
 refine⟨seen,?_⟩
 unfold M.attemptFrom
 have hf:(mk0 text p lim lim).hasFirstSet=true:=rfl
 erw[rwl (hf ..) ?_]
 simp only[Bool.not_true,Bool.false_eq_true,if_false]
 show(match M.admitted (mk0 text p lim lim) (lim+1 - p) p (mk0 text p lim lim).seen with
  | .ok (some s,seen)=>({ mk0 text p lim lim with mustAdvance:=false,seen }:M).attemptAt s true
  | .ok (none,seen)=>({ mk0 text p lim lim with seen }:M).say false
  | .error why=>(mk0 text p lim lim).stick why)=_
 have e':M.admitted (mk0 text p lim lim) (lim+1 - p) p (mk0 text p lim lim).seen=.ok ((List.range' p (lim - p)).find? (λi=>Zfz (text.getD i 0)),seen):=e
 cases hq:(List.range' p (lim - p)).find? (λi=>Zfz (text.getD i 0)) with
 | none=>rw[hq] at e';erw[rwl (e' ..) ?_]
 | some s=>rw[hq] at e';erw[rwl (e' ..) ?_];rfl
theorem Zju(text:Array Nat)(p lim last:Nat)(seen:Sre.Seen):∃m,M.runFor 4 (({ mk0 text p lim last with seen }:M).say false)=m∧m.outcome=some .failed:=⟨_,rfl,rfl⟩
theorem ZnN(text:Array Nat)(p lim s:Nat)(seen:Sre.Seen)(hs:s < lim)(ho:Zfz (text.getD s 0)=true):∃m,M.runFor 4 (M.runFor 4 (mk1 text p lim s seen))=m∧(M.runFor 4 (mk1 text p lim s seen)).outcome=none∧m.outcome=some .matched∧m.start=s∧m.handed=s+1∧m.lastmark=1∧m.lastindex=1∧m.marks = #[some s,some (s+1)]:=by
 obtain⟨seen2,e2⟩:=Zvo 19 (text.getD s 0) (.inr rfl) ((seen.add 17).add 13)
 rw[ho] at e2
 let m2:M:={ mk1 text p lim s (seen.add 17) with marks:=#[some s,none],lastmark:=0,pc:=17 }
 let m3:M:={ m2 with seen:=seen2,pc:=29,pos:=s+1 }
 let m4:M:={ m3 with seen:=seen2.add 17,marks:=#[some s,some (s+1)],lastmark:=1,lastindex:=1,pc:=31 }
 let m5:M:=({ m4 with seen:=(seen2.add 17).add 1,handed:=s+1 }:M).say true
 have h1:(mk1 text p lim s seen).step=m2:=rfl
 have h2:m2.step=m3:=by
  have hr:m2.step=m2.exec:=rfl
  have ha:accepts Zcc 17 (text.getD s 0) ((seen.add 17).add 13)=.ok (true,seen2):=e2
  have hx:m2.exec=if s≥lim then({ m2 with seen:=(seen.add 17).add 13 }:M).say false else match accepts Zcc 17 (text.getD s 0) ((seen.add 17).add 13) with
   | .error why=>({ m2 with seen:=(seen.add 17).add 13 }:M).stick why
   | .ok (false,seen)=>({ m2 with seen }:M).say false
   | .ok (true,seen)=>{ m2 with seen,pc:=17+itemWidth Zcc 17,pos:=s+1 }:=rfl
  rw[hr,hx,if_neg (by lia),ha]
  rfl
 have h3:m3.step=m4:=by
  have a1:m3.step=m3.exec:=rfl
  have a2:m3.exec=M.mark { m3 with seen:=seen2.add 17 } 1:=rfl
  rw[a1,a2]
  unfold M.mark
  rfl
 have h4:m4.step=m5:=rfl
 have r1:M.runFor 4 (mk1 text p lim s seen)=m5:=by
  show M.runFor 3 ((mk1 text p lim s seen).step)=m5
  rw[h1]
  show M.runFor 2 (m2.step)=m5
  rw[h2]
  show M.runFor 1 (m3.step)=m5
  rw[h3]
  exact h4
 rw[r1]
 exact⟨_,rfl,rfl,rfl,rfl,rfl,rfl,rfl,rfl⟩
end
section
open PySem.Sre PySem.Builtin.Re
section
variable {M':Model}{A:Around}{E:Value->Shared->Prop}{s:Shared}
theorem Zl5{m:M}{Q:Option M->Shared->Prop}{m1 m2:M}(h1:M.runFor 4 m=m1)(h2:m1.outcome.isSome=true∨(m1.outcome.isSome=false∧M.runFor 4 m1=m2∧m2.outcome.isSome=true))
  (k:∀m3,(m3=m1∧m1.outcome.isSome=true)∨(m3=m2∧m1.outcome.isSome=false)->(m3.outcome=some .matched∧Q (some m3) s)∨(m3.outcome=some .failed∧Q none s)):wpAny M' A (reRunToEnd m) Q E s:=by
 unfold reRunToEnd
 have tail:∀m3:M,((m3.outcome=some .matched∧Q (some m3) s)∨(m3.outcome=some .failed∧Q none s))->wpAny M' A (do
   for i in List.range Sre.names.size do
    if m3.seen.has i then rule (Sre.names.getD i "")
   match m3.outcome with
   | some .matched=>pure (some m3)
   | some .failed=>pure none
   | some (.stuck why)=>unsupported s!"_sre:{why}"
   | none=>unsupported "internal:sre:no-outcome") Q E s:=by
  intro m3 h
  refine wpAny_bind (wpAny_forIn_list _ (λ_ _ s'=>s'=s) _ (λi r b s' hs'=>?_) (λb s' hs'=>?_) _ _ rfl)
  ·subst hs'
   split
   ·exact wpAny_bind (wpAny_rule (wpAny_pure rfl))
   ·exact wpAny_pure rfl
  ·subst hs'
   rcases h with⟨e,q⟩ | ⟨e,q⟩
   ·erw[rwl (e ..) ?_];exact wpAny_pure q
   ·erw[rwl (e ..) ?_];exact wpAny_pure q
 have e64:(2:Nat) ^ 64=(2 ^ 64 - 2)+1+1:=by decide
 have ed:∀(t:Nat) (m:M),reDrive (t+1) m=(if(m.runFor 4).outcome.isSome=true then pure (m.runFor 4) else do rule "sre.turn";reDrive t (m.runFor 4)):=λ_ _=>rfl
 refine wpAny_bind ?_
 erw[rwl (e64 ..) (rwl (ed ..) (rwl (h1 ..) ?_))]
 rcases h2 with h2 | ⟨h2,h3,h4⟩
 ·erw[rwl (if_pos h2 ..) ?_]
  exact wpAny_pure (tail _ (k _ (.inl ⟨rfl,h2⟩)))
 ·rw[if_neg (by erw[rwl (h2 ..) ?_];decide)]
  refine wpAny_bind (wpAny_rule ?_)
  erw[rwl (ed ..) (rwl (h3 ..) (rwl (if_pos h4 ..) ?_))]
  exact wpAny_pure (tail _ (k _ (.inr ⟨rfl,h2⟩)))
noncomputable abbrev ZbK(m:M)(i:Nat):Prop:=(m.start=i)∧(m.handed=i+1)∧(m.lastmark=1)∧(m.lastindex=1)∧(m.marks = #[some i,some (i+1)])
theorem ZbK.st{m:M}{i:Nat}(slf:ZbK m i):m.start=i:=slf.1
theorem ZbK.hd{m:M}{i:Nat}(slf:ZbK m i):m.handed=i+1:=slf.2.1
theorem ZbK.lm{m:M}{i:Nat}(slf:ZbK m i):m.lastmark=1:=slf.2.2.1
theorem ZbK.li{m:M}{i:Nat}(slf:ZbK m i):m.lastindex=1:=slf.2.2.2.1
theorem ZbK.mks{m:M}{i:Nat}(slf:ZbK m i):m.marks = #[some i,some (i+1)]:=slf.2.2.2.2
set_option tactic.hygienic true in
theorem ZfS{t:ReTarget}{p:Nat}{Q:Option M->Shared->Prop}(hc:t.code=Zcc)(hg:t.groups=1)(hp:p<=t.lim)
  (h0:(List.range' p (t.lim - p)).find? (λi=>Zfz (t.text.getD i 0))=none->Q none s)
  (h1:∀i,(List.range' p (t.lim - p)).find? (λi=>Zfz (t.text.getD i 0))=some i->∀m,ZbK m i->Q (some m) s):wpAny M' A (reNextFound t p false) Q E s:=by
 unfold reNextFound
 erw[rwl (hc ..) (rwl (hg ..) (rwl (Zlb t.text p t.lim hp ..) ?_))]
 split
 ·rename_i hl
  have hz:t.lim - p=0:=Nat.lt_one_iff.mp hl
  obtain⟨m,e1,e2⟩:=Zju t.text p t.lim 0 (mk0 t.text p t.lim 0).seen
  refine Zl5 (m1:=m) (m2:=m) e1 (.inl (by erw[rwl (e2 ..) ?_];rfl)) λm3 h=>?_
  rcases h with⟨rfl,_⟩ | ⟨rfl,_⟩<;>exact .inr ⟨e2,h0 (by erw[rwl (hz ..) ?_];rfl)⟩
 ·obtain⟨seen,e⟩:=Zkd t.text p t.lim hp
  erw[rwl (e ..) ?_]
  cases hf:(List.range' p (t.lim - p)).find? (λi=>Zfz (t.text.getD i 0)) with
  | none=>
   obtain⟨m,e1,e2⟩:=Zju t.text p t.lim t.lim seen
   refine Zl5 (m1:=m) (m2:=m) e1 (.inl (by erw[rwl (e2 ..) ?_];rfl)) λm3 h=>?_
   rcases h with⟨rfl,_⟩ | ⟨rfl,_⟩<;>exact .inr ⟨e2,h0 hf⟩
  | some i=>
   have hi:=List.find?_some hf
   have hm:=List.mem_range'_1.mp (List.mem_of_find?_eq_some hf)
   obtain⟨m,e1,e2,e3,f1,f2,f3,f4,f5⟩:=ZnN t.text p t.lim i seen (ZvO hm) hi
   refine Zl5 (m1:=M.runFor 4 (mk1 t.text p t.lim i seen)) (m2:=m) rfl (.inr ⟨by erw[rwl (e2 ..) ?_];rfl,e1,by erw[rwl (e3 ..) ?_];rfl⟩) λm3 h=>?_
   rcases h with⟨rfl,h⟩ | ⟨rfl,_⟩
   ·rw[e2] at h;cases h
   ·exact .inl ⟨e3,h1 i hf m3 ⟨f1,f2,f3,f4,f5⟩⟩
end
end
section
theorem ZdS(c:Nat)(r:List Nat):Zd9 (c::r)=(if Zfz c=true then [92,c] else [c])++Zd9 r:=by
 unfold Zd9
 erw[rwl (List.flatMap_cons ..) ?_]
 congr 1
 unfold Zfz
 simp only[Bool.or_eq_true,beq_iff_eq,or_assoc]
theorem find_none(l:List Nat):∀(k p:Nat),l.length - p=k->(List.range' p (l.length - p)).find? (λi=>Zfz (l.toArray.getD i 0))=none->Zd9 (l.drop p)=l.drop p
 | 0,p,h,_=>by erw[rwl (List.drop_of_length_le (Nat.le_of_sub_eq_zero h) ..) ?_];rfl
 | k+1,p,h,e=>by
  have hp:p < l.length:=Nat.lt_of_sub_eq_succ h
  rw[h,List.range'_succ,List.find?_cons] at e
  have hd:=List.drop_eq_getElem_cons hp
  have hg:l.toArray.getD p 0=l[p]:=by simp[hp]
  rw[hg] at e
  cases ho:Zfz l[p] with
  | true=>rw[ho] at e;cases e
  | false=>
   rw[ho] at e
   have ih:=find_none l k (p+1) (congrArg Nat.pred h) (by erw[rwl (show l.length - (p+1)=k from congrArg Nat.pred h ..) ?_];exact e)
   erw[rwl (hd ..) (rwl (ZdS ..) (rwl (ho ..) (rwl (ih ..) ?_)))]
   rfl
theorem find_some(l:List Nat):∀(k p i:Nat),l.length - p=k->(List.range' p (l.length - p)).find? (λi=>Zfz (l.toArray.getD i 0))=some i->
  p<=i∧∃h:i < l.length,Zfz l[i]=true∧Zd9 (l.drop p)=(l.drop p).take (i - p)++([92,l[i]]++Zd9 (l.drop (i+1)))
 | 0,p,i,h,e=>by rw[h] at e;cases e
 | k+1,p,i,h,e=>by
  have hp:p < l.length:=Nat.lt_of_sub_eq_succ h
  rw[h,List.range'_succ,List.find?_cons] at e
  have hd:=List.drop_eq_getElem_cons hp
  have hg:l.toArray.getD p 0=l[p]:=by simp[hp]
  rw[hg] at e
  cases ho:Zfz l[p] with
  | true=>
   rw[ho] at e
   cases e
   refine⟨Nat.le_refl _,hp,ho,?_⟩
   erw[rwl (Nat.sub_self ..) (rwl (List.take_zero ..) (rwl (hd ..) (rwl (ZdS ..) (rwl (ho ..) ?_))))]
   rfl
  | false=>
   rw[ho] at e
   obtain⟨h1,h2,h3,h4⟩:=find_some l k (p+1) i (congrArg Nat.pred h) (by erw[rwl (show l.length - (p+1)=k from congrArg Nat.pred h ..) ?_];exact e)
   refine⟨Nat.le_of_succ_le h1,h2,h3,?_⟩
   erw[rwl (hd ..) (rwl (ZdS ..) (rwl (ho ..) (rwl (h4 ..) (rwl (ZhA h1 ..) (rwl (List.take_succ_cons ..) ?_)))))]
   rfl
end
section
open PySem.Sre PySem.Builtin.Re
noncomputable def Zef(h:Heap)(a:Addr):Prop:=∃o b fs,h.get? a=some o∧o.cls=.type "re.Pattern" ∧ o.data=.fields fs∧fs.getD 5 .none=.ref b∧fs.getD 2 .none=.int 1 0∧fs.getD 6 .none=.int 0 0∧Zm1 h b (Zcc.map λ(k:Nat)=>Value.int (k:Int) 0)
noncomputable def ZlI(a:Addr)(l:List Nat)(t:Tok):ReTarget:={ pattern:=.ref a,string:=.str ⟨l.toArray⟩ t,code:=Zcc,text:=l.toArray,kind:=0,groups:=1,pos:=0,lim:=l.length }
section
variable {M':Model}{A:Around}{E:Value->Shared->Prop}{s:Shared}
theorem ZcH{a:Addr}{l:List Nat}{t:Tok}{Q:ReTarget->Shared->Prop}(hp:Zef s.heap a)(k:Q (ZlI a l t) s):wpAny M' A (reWholeTarget (.ref a) (.str ⟨l.toArray⟩ t)) Q E s:=by
 obtain⟨o,b,fs,e1,e2,e3,e4,e5,e6,n,e7⟩:=hp
 unfold reWholeTarget
 refine wpAny_bind (wpAny_fieldsOf e1 e3 ?_)
 refine wpAny_bind (wpAny_of_eq (a:=(l.toArray,0)) rfl ?_)
 dsimp only
 erw[rwl (e4 ..) (rwl (e5 ..) (rwl (e6 ..) ?_))]
 refine wpAny_bind (wpAny_of_eq (a:=()) rfl ?_)
 unfold reRawItems
 refine wpAny_bind (wpAny_bind (wpAny_seqItems e7 rfl (wpAny_pure ?_)))
 refine wpAny_pure ?_
 have:(((some (Zcc.map λ(k:Nat)=>Value.int (k:Int) 0)).getD #[]).map reRawOf).map (·.toNat)=Zcc:=by decide +kernel
 erw[rwl (this ..) ?_]
 exact k
end
end
section
open PySem.Sre PySem.Builtin.Re
noncomputable def Zd8(i:Nat):Obj:={ cls:=.type "tuple",data:=.seq #[rawInt i,rawInt (i+1:Nat),rawInt i,rawInt (i+1:Nat)] }
noncomputable def Zc3(a b:Addr)(l:List Nat)(t:Tok):Obj:={ cls:=.type "re.Match",data:=.fields #[.str ⟨l.toArray⟩ t,.ref a,rawInt 0,rawInt l.length,rawInt 1,.ref b] }
section
variable {M':Model}{A:Around}{E:Value->Shared->Prop}{s:Shared}
theorem Zms{a:Addr}{l:List Nat}{t:Tok}{i:Nat}{m:M}(hm:ZbK m i){Q:Value->Shared->Prop}
  (k:Q (.ref (s.heap.push (Zd8 i)).objs.size) { s with heap:=(s.heap.push (Zd8 i)).push (Zc3 a s.heap.objs.size l t) }):wpAny M' A (reNewMatch (.ref a) (.str ⟨l.toArray⟩ t) 1 0 l.length m) Q E s:=by
 obtain⟨h1,h2,h3,h4,h5⟩:=hm
 unfold reNewMatch
 erw[rwl (h1 ..) (rwl (h2 ..) (rwl (h3 ..) (rwl (h4 ..) (rwl (h5 ..) ?_))))]
 dsimp only
 rw[if_neg (by
  show ¬((true&&decide (i+1 < i))||false)=true
  simp)]
 refine wpAny_bind (wpAny_newTuple ?_ (by show 4<=_;erw[rwl (szv ..) ?_];lia))
 unfold newFields
 refine wpAny_newObj_type ?_ (by size_fits)
 exact k
end
end
section
set_option maxRecDepth 100000
open PySem.Sre PySem.Builtin.Re
theorem Zdh:entryFor table "re.Pattern.sub.loop" = some Builtin.«re.Pattern.sub.loop» := entryFor_of_tree (by kernel_rfl)
theorem Zdf{as:Args}:(Code.builtin "re.Pattern.sub.loop" as).quiet=true:=Code.quiet_builtin _ (by decide +kernel)
theorem Zgr:PySem.Slot "re.Pattern" "sub" "re.Pattern.sub" :=
 .of (owner := "re.Pattern") (n := "sub") (by erw[rwl (typeLookup_type ..) (rwl (builtinLookup_eq_fast ..) ?_)];kernel_rfl) (by decide +kernel) (by decide +kernel) (by decide +kernel)
  (by first | exact .inl (by decide +kernel) | exact .inr (by decide +kernel)) (by erw[rwl (isSubtype_type ..) ?_];kernel_rfl)
theorem ZlB:entryFor table "re.Pattern.sub" = some Builtin.«re.Pattern.sub» := entryFor_of_tree (by kernel_rfl)
theorem Znl(a b c:Value):argsOk "re.Pattern.sub" ⟨[a,b,c],[]⟩:=by unfold argsOk;kernel_rfl
theorem Zn4:typeOf (.builtin "re.Pattern.sub")=pure (.type "method_descriptor"):=by show builtinType _=_;erw[rwl (builtinType_eq_fast ..) ?_];kernel_rfl
theorem Zd7:PySem.Slot "re.Match" "group" "re.Match.group" :=
 .of (owner := "re.Match") (n := "group") (by erw[rwl (typeLookup_type ..) (rwl (builtinLookup_eq_fast ..) ?_)];kernel_rfl) (by decide +kernel) (by decide +kernel) (by decide +kernel)
  (by first | exact .inl (by decide +kernel) | exact .inr (by decide +kernel)) (by erw[rwl (isSubtype_type ..) ?_];kernel_rfl)
theorem Ziv:entryFor table "re.Match.group" = some Builtin.«re.Match.group» := entryFor_of_tree (by kernel_rfl)
theorem Zj2(a b:Value):argsOk "re.Match.group" ⟨[a,b],[]⟩:=by unfold argsOk;kernel_rfl
theorem Zj3:typeOf (.builtin "re.Match.group")=pure (.type "method_descriptor"):=by show builtinType _=_;erw[rwl (builtinType_eq_fast ..) ?_];kernel_rfl
theorem Zgt:PlainAttrs "re.Pattern" :=
 ⟨⟨"object.__getattribute__",by erw[rwl (typeLookup_type ..) (rwl (builtinLookup_eq_fast ..) ?_)];kernel_rfl,by decide +kernel⟩,by erw[rwl (typeLookup_type ..) (rwl (builtinLookup_eq_fast ..) ?_)];kernel_rfl⟩
theorem Ziw:PlainAttrs "re.Match" :=
 ⟨⟨"object.__getattribute__",by erw[rwl (typeLookup_type ..) (rwl (builtinLookup_eq_fast ..) ?_)];kernel_rfl,by decide +kernel⟩,by erw[rwl (typeLookup_type ..) (rwl (builtinLookup_eq_fast ..) ?_)];kernel_rfl⟩
end
section
open PySem.Sre PySem.Builtin.Re
section
variable {prog:Program}{w:World}{base:Addr->Prop}{mg mb:Str->Option Value}{Gd:Heap->Prop}
noncomputable def ZjJ(prog:Program)(w:World)(Gd:Heap->Prop)(a:Addr)(l:List Nat)(t:Tok)(fv:Value)(n:Nat):Prop:=∀(A:Around) (E:Value->Shared->Prop) (s:Shared) (Q:Value->Shared->Prop) (i:Nat) (b f:Addr),Lv A n->Ok Gd s->i < l.length->
 s.heap.get? b=some (Zd8 i)->s.heap.get? f=some (Zc3 a b l t)->Zef s.heap a->(∀v s',Gw s s'->Ok Gd s'->(∃u,v=.str ⟨[92,l.toArray.getD i 0].toArray⟩ u)->Q v s')->wpAny (model prog w) A (call fv [.ref f]) Q E s
theorem ZmR{h h':Heap}{a:Addr}(x:Zef h a)(k:Kp h h'):Zef h' a:=by
 obtain⟨o,b,fs,e1,e2,e3,e4,e5,e6,e7⟩:=x
 exact⟨o,b,fs,k _ _ (.ZaD e2) e1,e2,e3,e4,e5,e6,Znp e7 k⟩
noncomputable abbrev ZdK(a:Addr)(l:List Nat)(t:Tok)(fv:Value)(nn p:Nat)(D:Addr):Args:=⟨[.ref a,.str ⟨l.toArray⟩ t,fv,rawInt 1,rawInt 0,rawInt nn,rawInt p,rawInt p,.bool false,.ref D,.bool false],[]⟩
theorem ZgV(a:Addr)(l:List Nat)(t:Tok)(fv:Value)(nn p:Nat)(D:Addr):Builtin.«re.Pattern.sub.loop» (ZdK a l t fv nn p D)=(do
  let t' ←reWholeTarget (.ref a) (.str ⟨l.toArray⟩ t)
  match ←reNextFound t' p false with
  | some m=>
   if p < m.start then updateSeq D (·.push (←reSlice t'.text t'.kind p m.start))
   let found ←reNewMatch (.ref a) (.str ⟨l.toArray⟩ t) t'.groups 0 t'.lim m
   let item ←holding [found] (call fv [found])
   if item != .none then updateSeq D (·.push item)
   again (.builtin "re.Pattern.sub.loop" ⟨[.ref a,.str ⟨l.toArray⟩ t,fv,rawInt 1,rawInt 0,rawInt ((nn:Int)+1),rawInt m.handed,rawInt m.handed,.bool (m.handed==m.start),.ref D,.bool false],[]⟩)
  | none=>
   if p < t'.lim then updateSeq D (·.push (←reSlice t'.text t'.kind p t'.lim))
   let joiner ←reSlice t'.text t'.kind 0 0
   let text ←if((←seqItems? (.ref D)).getD #[]).isEmpty then pure joiner
    else call (.builtin (if t'.kind==0 then "str.join" else "bytes.join")) [joiner,.ref D]
   ret text):=by
 rfl
end
end
section
open PySem.Sre PySem.Builtin.Re
section
variable {prog:Program}{w:World}{base:Addr->Prop}{mg mb:Str->Option Value}{Gd:Heap->Prop}
noncomputable def ZrL:Addr->Prop:=λ_=>True
theorem Zeh(G:Gr base mg mb Gd){A:Around}{E:Value->Shared->Prop}{s:Shared}{D:Addr}{vs:List Value}{v:Value}{Q:Unit->Shared->Prop}(hb : ¬base D)(ok:Ok Gd s)(hD:s.heap.PlainList D vs.toArray)(hz:vs.length<=16777216)
  (k:∀h',GwB (λb=>b=D) s { s with heap:=h' }->Ok Gd { s with heap:=h' }->h'.PlainList D (vs++[v]).toArray->Heap.SameBut D s.heap h'->Q () { s with heap:=h' }):wpAny (model prog w) A (updateSeq D (·.push v)) Q E s:=by
 obtain⟨n,ho⟩:=id hD
 have e:s.heap.update D (Obj.mapSeq (·.push v))=s.heap.update D (Obj.mapSeq (·.push v)):=rfl
 refine wpAny_updateSeq ho rfl (k _ (.of_same (tk:=s.toks) (Heap.SameBut.update ..).extBut rfl) ⟨?_,ok.tk⟩ ⟨n+1,?_⟩ (Heap.SameBut.update ..)) (by simp;erw[rwl (szv ..) ?_];omega) (by simp;erw[rwl (szv ..) ?_];omega)
 ·obtain⟨o,e,m,_⟩:=Mut.plain hD
  exact G.same ok.gd hb e m (Heap.SameBut.update ..).extBut
 ·rw[Heap.get?_update_self _ ho (by erw[rwl (Obj.mapSeq_push_plain ..) ?_];rfl),Obj.mapSeq_push_plain]
  simp
end
end
section
open PySem.Sre PySem.Builtin.Re
theorem ZeP{P P':Addr->Prop}{h h':Heap}:∀{vs:List Value} {txs:List (List Nat)},Zad P h vs (txs.map .str)->Zad P' h' vs (txs.map .str)
 | [],[],_=>.nil
 | v::vs,x::xs,.cons r rs=>by
  obtain⟨hl,t,rfl⟩:=r.str_inv
  exact .cons (.str _ _ hl) (ZeP rs)
theorem Zmw{h h':Heap}{a D:Addr}{its:Array Value}(x:Zef h a)(hD:h.PlainList D its)(hs:Heap.ExtBut D h h'):Zef h' a:=by
 obtain⟨o,b,fs,e1,e2,e3,e4,e5,e6,n,e7⟩:=x
 obtain⟨m,e8⟩:=hD
 refine⟨o,b,fs,hs a o (λq=>?_) e1,e2,e3,e4,e5,e6,n,hs b _ (λq=>?_) e7⟩
 ·rw[q,e8] at e1;cases e1;simp at e2
 ·rw[q,e8] at e7;simp at e7
theorem Zg9:∀ls:List (List Nat),ZbX [] ls=ls.flatten
 | []=>rfl
 | [x]=>by simp[Zl6,Zle,Zim]
 | x::y::r=>by
  have:=Zg9 (y::r)
  simp only[Zl6,Zle,Zim,List.append_nil,this,List.flatten_cons]
end
section
open PySem.Sre PySem.Builtin.Re
section
variable {prog:Program}{w:World}{base:Addr->Prop}{mg mb:Str->Option Value}{Gd:Heap->Prop}
theorem ldp{l:List Nat}(hl:l.length<=1000)(p:Nat):(l.drop p).length<=16777216:=Nat.le_trans (List.length_drop▸Nat.sub_le _ _) (Nat.le_trans hl (by decide))
theorem ltd{l:List Nat}(hl:l.length<=1000)(p k:Nat):((l.drop p).take k).length<=16777216:=Nat.le_trans (List.length_take_le' _ _) (ldp hl p)
theorem Zcl{M':Model}{A:Around}{E:Value->Shared->Prop}{s:Shared}{l:List Nat}{b e:Nat}{Q:Value->Shared->Prop}(hl:l.length<=1000)(k:Q (.str ⟨((l.drop b).take (e - b)).toArray⟩ s.toks) { s with toks:=s.toks+1 }):wpAny M' A (reSlice l.toArray 0 b e) Q E s:=by
 have e1:(⟨l.toArray.extract b e⟩:Str)=⟨((l.drop b).take (e - b)).toArray⟩:=by simp
 show wpAny M' A (mkStr ⟨l.toArray.extract b e⟩) Q E s
 erw[rwl (e1 ..) ?_]
 refine wpAny_mkStr k ?_
 erw[rwl (str_len ..) (rwl (szv ..) ?_)]
 exact ltd hl b _
end
end
section
open PySem.Sre PySem.Builtin.Re
section
variable {prog:Program}{w:World}{base:Addr->Prop}{mg mb:Str->Option Value}{Gd:Heap->Prop}
theorem ZmS(G:Gr base mg mb Gd){A:Around}{E:Value->Shared->Prop}{s:Shared}{D:Addr}{txs:List (List Nat)}{vs:List Value}{jt:Tok}{n:Nat}{Q:Value->Shared->Prop}(L:Lv A n)(ok:Ok Gd s)(hD:s.heap.PlainList D vs.toArray)(hr:Zad ZrL s.heap vs (txs.map .str))(h1:txs.length<=4000)(h2:(txs.map (·.length)).sum<=4000)
  (k:∀u s',Gw s s'->Ok Gd s'->Q (.str ⟨(txs.flatten).toArray⟩ u) s') :
  wpAny (model prog w) A (call (.builtin "str.join") [.str ⟨([]:List Nat).toArray⟩ jt,.ref D]) Q E s:=by
 refine ZoX (P:=ZrL) (sep:=[]) ok (.of (.str [] jt (by erw[rwl (szv ..) ?_];simp))) hD.isList hr (by lia) (by simp) (by lia) λv s' g o r=>?_
 rw[Zg9] at r
 obtain⟨_,u,rfl⟩:=r.str_inv
 exact k u s' g o
end
end
section
open PySem.Sre PySem.Builtin.Re
section
variable {prog:Program}{w:World}{base:Addr->Prop}{mg mb:Str->Option Value}{Gd:Heap->Prop}
theorem Zi6{A:Around}{n:Nat}{args:Args}(L:Lv A (n+1)):Lv (A.under (.builtin "re.Pattern.sub.loop" args)) n:=by
 have e:A.under (.builtin "re.Pattern.sub.loop" args)=A.in1:=Around.under_plain rfl rfl
 erw[rwl (e ..) ?_]
 exact⟨L.hd,by have:=L.dp;show A.depth+n<=900;lia,by have:=L.un;show A.units+1+3 * n<=9000;lia⟩
end
end
section
open PySem.Sre PySem.Builtin.Re
section
variable {prog:Program}{w:World}{base:Addr->Prop}{mg mb:Str->Option Value}{Gd:Heap->Prop}
theorem Ze5(G:Gr base mg mb Gd){A:Around}{E:Value->Shared->Prop}{D:Addr}{l:List Nat}{n:Nat}{s:Shared}{txs:List (List Nat)}{vs:List Value}{Q:PySem.Fin->Shared->Prop}(hl:l.length<=1000)(L:Lv A n)(ok:Ok Gd s)
  (hD:s.heap.PlainList D vs.toArray) (hr:Zad ZrL s.heap vs (txs.map .str)) (h1:txs.length<=4000) (h2:(txs.map (·.length)).sum<=4000)
  (k:∀u s',Gw s s'->Ok Gd s'->Q (.done (.ret (.str ⟨txs.flatten.toArray⟩ u))) s') :
  wpAny (model prog w) A (do
   let joiner ←reSlice l.toArray 0 0 0
   let text ←if((←seqItems? (.ref D)).getD #[]).isEmpty then pure joiner
    else call (.builtin (if(0:Nat)==0 then "str.join" else "bytes.join")) [joiner,.ref D]
   ret text) Q E s:=by
 refine wpAny_bind (Zcl hl ?_)
 have e0:((l.drop 0).take (0 - 0))=[]:=by simp
 erw[rwl (e0 ..) ?_]
 have g₁:Gw s { s with toks:=s.toks+1 }:=.tok ..
 have ok₁:Ok Gd { s with toks:=s.toks+1 }:=⟨ok.gd,Nat.le_succ_of_le ok.tk⟩
 obtain⟨n0,hD0⟩:=id hD
 refine wpAny_bind (wpAny_seqItems hD0 rfl ?_)
 dsimp only[Option.getD_some]
 by_cases hv:vs.toArray.isEmpty=true
 ·erw[rwl (if_pos hv ..) ?_]
  have e1:vs=[]:=by simpa using hv
  subst e1
  have e2:txs=[]:=by
   have:=hr.length
   simpa using this.symm
  subst e2
  exact wpAny_bind (wpAny_pure (wpAny_pure (k _ _ g₁ ok₁)))
 ·erw[rwl (if_neg hv ..) ?_]
  refine wpAny_bind (ZmS (s:={ s with toks:=s.toks+1 }) G L ok₁ hD hr h1 h2 λu s' g o=>?_)
  exact wpAny_pure (k u s' (g₁.trans g) o)
end
end
section
open PySem.Sre PySem.Builtin.Re
section
variable {prog:Program}{w:World}{base:Addr->Prop}{mg mb:Str->Option Value}{Gd:Heap->Prop}
theorem Zi3:∀l:List Nat,(Zd9 l).length<=2 * l.length
 | []=>Nat.zero_le _
 | c::r=>by
  have:=Zi3 r
  erw[rwl (ZdS ..) (rwl (List.length_append ..) (rwl (List.length_cons ..) ?_))]
  split<;>simp<;>lia
theorem Zoq(G:Gr base mg mb Gd){a D:Addr}{l:List Nat}{t:Tok}{fv:Value}{n:Nat}(hf:ZjJ prog w Gd a l t fv n)(hl:l.length<=1000)(hb : ¬base D) :
  ∀(k:Nat) (A:Around) (R:Result->Shared->Prop) (s:Shared) (vs:List Value) (txs:List (List Nat)) (nn p:Nat),l.length - p<=k->p<=l.length->Lv A (n+1)->Ok Gd s->Zef s.heap a->
   s.heap.PlainList D vs.toArray->Zad ZrL s.heap vs (txs.map .str)->txs.length<=2 * p->(txs.map (·.length)).sum<=2 * p->
   (∀u s',GwB (λb=>b=D) s s'->Ok Gd s'->R (.ok (.ret (.str ⟨(txs.flatten++Zd9 (l.drop p)).toArray⟩ u))) s')->
   codeAny (model prog w) A (.builtin "re.Pattern.sub.loop" (ZdK a l t fv nn p D)) R s:=by
 intro k
 induction k with
 | zero=>
  intro A R s vs txs nn p hk hp L ok hpa hD hr h1 h2 kont
  refine codeAny_builtin Zdh ?_
  erw[rwl (ZgV ..) ?_]
  have L1:=Zi6 (args:=ZdK a l t fv nn p D) L
  refine wpAny_bind (ZcH hpa ?_)
  refine wpAny_bind (ZfS rfl rfl hp (λhnone=>?_) (λi hi m hm=>?_))
  ·dsimp only[ZlI]
   refine wpAny_ite_split (λhc=>absurd (show p < l.length from hc) (by lia)) λ_=>?_
   refine Ze5 (txs:=txs) G hl L1 ok hD hr (by lia) (by lia) λu s' g o=>?_
   have e:Zd9 (l.drop p)=[]:=by rw[List.drop_of_length_le (by lia)];rfl
   rw[e,List.append_nil] at kont
   exact kont u s' g.toB o
  ·have e:(ZlI a l t).lim - p=0:=by show l.length - p=0;lia
   rw[e] at hi
   cases hi
 | succ k ih=>
  intro A R s vs txs nn p hk hp L ok hpa hD hr h1 h2 kont
  refine codeAny_builtin Zdh ?_
  erw[rwl (ZgV ..) ?_]
  have L1:=Zi6 (args:=ZdK a l t fv nn p D) L
  refine wpAny_bind (ZcH hpa ?_)
  have hvl:vs.length=txs.length:=by simpa using hr.length
  refine wpAny_bind (ZfS rfl rfl hp (λhnone=>?_) (λi hi m hm=>?_))
  ·have e:Zd9 (l.drop p)=l.drop p:=find_none l _ p rfl hnone
   dsimp only[ZlI]
   rw[e] at kont
   refine wpAny_ite_split (λhpl=>?_) (λhpl=>?_)
   ·replace hpl:p < l.length:=hpl
    refine wpAny_bind (Zcl hl ?_)
    have e1:(l.drop p).take (l.length - p)=l.drop p:=List.take_of_length_le (by simp)
    erw[rwl (e1 ..) ?_]
    have g₁:Gw s { s with toks:=s.toks+1 }:=.tok ..
    have ok₁:Ok Gd { s with toks:=s.toks+1 }:=⟨ok.gd,Nat.le_succ_of_le ok.tk⟩
    refine wpAny_bind (Zeh (s:={ s with toks:=s.toks+1 }) G hb ok₁ hD (by lia) λh' g₂ ok₂ hD₂ _=>?_)
    refine Ze5 (txs:=txs++[l.drop p]) G hl L1 ok₂ hD₂ (by
     erw[rwl (List.map_append ..) ?_]
     exact(ZeP hr).append (.cons (.str _ _ (by erw[rwl (szv ..) ?_];exact ldp hl p)) .nil)) (by simp;lia) (by simp;lia) λu s' g o=>?_
    have e2:(txs++[l.drop p]).flatten=txs.flatten++l.drop p:=by simp
    erw[rwl (e2 ..) ?_]
    exact kont u s' ((g₁.toB.trans g₂).trans g.toB) o
   ·replace hpl : ¬p < l.length:=hpl
    refine Ze5 (txs:=txs) G hl L1 ok hD hr (by lia) (by lia) λu s' g o=>?_
    have e2:l.drop p=[]:=List.drop_of_length_le (by lia)
    rw[e2,List.append_nil] at kont
    exact kont u s' g.toB o
  ·obtain⟨hpi,hil,hop,hsub⟩:=find_some l _ p i rfl hi
   dsimp only[ZlI]
   erw[rwl (hm.st ..) (rwl (hm.hd ..) ?_)]
   have main:∀(s₁:Shared) (vs₁:List Value) (txs₁:List (List Nat)),GwB (λb=>b=D) s s₁->Ok Gd s₁->Zef s₁.heap a->s₁.heap.PlainList D vs₁.toArray->Zad ZrL s₁.heap vs₁ (txs₁.map .str)->txs₁.length<=2 * p+1->(txs₁.map (·.length)).sum<=p+i->txs₁.flatten=txs.flatten++(l.drop p).take (i - p)->
     wpAny (model prog w) (A.under (.builtin "re.Pattern.sub.loop" (ZdK a l t fv nn p D))) (do
      let found ←reNewMatch (.ref a) (.str ⟨l.toArray⟩ t) 1 0 l.length m
      let item ←holding [found] (call fv [found])
      if item != .none then updateSeq D (·.push item)
      again (.builtin "re.Pattern.sub.loop" ⟨[.ref a,.str ⟨l.toArray⟩ t,fv,rawInt 1,rawInt 0,rawInt ((nn:Int)+1),rawInt ((i+1:Nat):Int),rawInt ((i+1:Nat):Int),.bool (i+1==i),.ref D,.bool false],[]⟩))
      (λfin s'=>match fin with | .done f=>R (.ok f) s' | .again c'=>c'.quiet=true∧codeAny (model prog w) A c' R s') (λe s'=>R (.error e) s') s₁:=by
    intro s₁ vs₁ txs₁ g₁ ok₁ hpa₁ hD₁ hr₁ t1 t2 t3
    refine wpAny_bind (Zms hm ?_)
    have g₂:Gw s₁ { s₁ with heap:=(s₁.heap.push (Zd8 i)).push (Zc3 a s₁.heap.objs.size l t) }:=.of_keep (tk:=s₁.toks) λ_ _ e=>Heap.get?_push_of_some _ (Heap.get?_push_of_some _ e)
    have ok₂:Ok Gd { s₁ with heap:=(s₁.heap.push (Zd8 i)).push (Zc3 a s₁.heap.objs.size l t) }:=⟨G.keeps ok₁.gd λ_ _ e=>Heap.get?_push_of_some _ (Heap.get?_push_of_some _ e),ok₁.tk⟩
    refine wpAny_bind (wpAny_holding (hf _ _ _ _ i s₁.heap.objs.size _ L1 ok₂ hil (Heap.get?_push_of_some _ (Heap.get?_push_size _ rfl)) (Heap.get?_push_size _ rfl) (ZmR hpa₁ g₂.kp) λv s₃ g₃ ok₃ hv=>?_))
    obtain⟨u,rfl⟩:=hv
    have e1:((Value.str ⟨[92,l.toArray.getD i 0].toArray⟩ u) != .none)=true:=rfl
    erw[rwl (if_pos e1 ..) ?_]
    have g₂₃:=g₂.trans g₃
    refine wpAny_bind (Zeh G hb ok₃ (Zbp hD₁ g₂₃.kp) (by have:=hr₁.length;simp at this;lia) λh' g₄ ok₄ hD₄ hs₄=>?_)
    have e2:((nn:Int)+1)=((nn+1:Nat):Int):=by lia
    have e3:(i+1==i)=false:=by simp
    erw[rwl (e2 ..) (rwl (e3 ..) ?_)]
    refine wpAny_pure ⟨Zdf,?_⟩
    have gi:l.toArray.getD i 0=l[i]:=by simp[hil]
    rw[gi] at hD₄
    refine ih A R _ _ (txs₁++[[92,l[i]]]) (nn+1) (i+1) (Zsv hk hpi) hil L ok₄ (Zmw (ZmR hpa₁ g₂₃.kp) (Zbp hD₁ g₂₃.kp) hs₄.extBut) hD₄ (by
     erw[rwl (List.map_append ..) ?_]
     exact(ZeP hr₁).append (.cons (.str _ _ (by erw[rwl (szv ..) ?_];simp)) .nil)) (by simp;lia) (by simp;lia) λu' s' g₅ ok₅=>?_
    have e4:(txs₁++[[92,l[i]]]).flatten++Zd9 (l.drop (i+1))=txs.flatten++Zd9 (l.drop p):=by
     erw[rwl (hsub ..) (rwl (List.flatten_append ..) (rwl (t3 ..) ?_))];simp
    erw[rwl (e4 ..) ?_]
    exact kont u' s' (((g₁.trans g₂₃.toB).trans g₄).trans g₅) ok₅
   refine wpAny_ite_split (λhpi'=>?_) (λhpi'=>?_)
   ·refine wpAny_bind (Zcl hl ?_)
    have ok₁:Ok Gd { s with toks:=s.toks+1 }:=⟨ok.gd,Nat.le_succ_of_le ok.tk⟩
    have g₁:Gw s { s with toks:=s.toks+1 }:=.tok ..
    refine wpAny_bind (Zeh (s:={ s with toks:=s.toks+1 }) G hb ok₁ hD (by lia) λh' g₂ ok₂ hD₂ hs₂=>?_)
    refine main _ _ (txs++[(l.drop p).take (i - p)]) (g₁.toB.trans g₂) ok₂ (Zmw hpa hD hs₂.extBut) hD₂ (by
     erw[rwl (List.map_append ..) ?_]
     exact(ZeP hr).append (.cons (.str _ _ (by erw[rwl (szv ..) ?_];exact ltd hl p _)) .nil)) (by simp;lia) (by simp only[List.map_append,List.map_cons,List.map_nil,List.sum_append,List.sum_cons,List.sum_nil,List.length_take,List.length_drop,Nat.add_zero];exact ZuB h2 hpi) (by simp)
   ·have e0:i=p:=Nat.le_antisymm (Nat.not_lt.mp hpi') hpi
    exact main s vs txs (.refl _ _) ok hpa hD hr (by lia) (by lia) (by erw[rwl (e0 ..) ?_];simp)
end
end
section
open PySem.Sre PySem.Builtin.Re
section
variable {prog:Program}{w:World}{base:Addr->Prop}{mg mb:Str->Option Value}{Gd:Heap->Prop}{A:Around}{E:Value->Shared->Prop}{s:Shared}
theorem Zrc{a b f:Addr}{l:List Nat}{t ti:Tok}{i:Nat}{Q:Value->Shared->Prop}(hl:l.length<=1000)(hi:i < l.length)(hb:s.heap.get? b=some (Zd8 i))(hf:s.heap.get? f=some (Zc3 a b l t))
  (k:Q (.str ⟨[l.toArray.getD i 0].toArray⟩ s.toks) { s with toks:=s.toks+1 }):wpAny (model prog w) A (call (.builtin "re.Match.group") [.ref f,.int 1 ti]) Q E s:=by
 refine wpAny_call (codeAny_call_builtin Zd7.plain Ziv (Zd7.check _ _ _ _ _ _ _ _ ⟨_,hf,rfl⟩ (Zj2 _ _) ?_))
 show wpAny _ _ (do
  let x ←reFound (.ref f)
  ret (←reGroupText x (←reGroupNumber x (.int 1 ti)) .none)) _ _ s
 unfold reFound
 refine wpAny_bind (wpAny_bind (wpAny_fieldsOf hf rfl ?_))
 unfold reRawItems
 refine wpAny_bind (wpAny_bind (wpAny_seqItems (a:=b) hb rfl (wpAny_pure ?_)))
 refine wpAny_pure ?_
 unfold reGroupNumber
 refine wpAny_bind (wpAny_bind (wpAny_of_eq (a:=some 1) rfl ?_))
 dsimp only[Option.isSome]
 erw[rwl (if_pos rfl ..) ?_]
 refine wpAny_bind (wpAny_of_eq (a:=1) rfl ?_)
 refine wpAny_ite_split (λh=>by simp[reRawOf] at h) λ_=>?_
 refine wpAny_pure ?_
 unfold reGroupText
 dsimp only
 have e1:((((some (#[rawInt i,rawInt (i+1:Nat),rawInt i,rawInt (i+1:Nat)]:Array Value)).getD #[]).map reRawOf).getD (2 * Int.toNat 1) (-1))=(i:Int):=by simp[reRawOf,rawInt,Array.getD]
 have e2:((((some (#[rawInt i,rawInt (i+1:Nat),rawInt i,rawInt (i+1:Nat)]:Array Value)).getD #[]).map reRawOf).getD (2 * Int.toNat 1+1) (-1))=((i+1:Nat):Int):=by simp[reRawOf,rawInt,Array.getD]
 rw[e1,e2,if_neg (by simp;lia)]
 refine wpAny_bind (wpAny_bind (wpAny_of_eq (a:=(l.toArray,0)) rfl ?_))
 dsimp only
 refine Zcl hl ?_
 have e3:((l.drop (i:Int).toNat).take (((i+1:Nat):Int).toNat - (i:Int).toNat))=[l.toArray.getD i 0]:=by
  have a1:(i:Int).toNat=i:=by lia
  have a2:((i+1:Nat):Int).toNat=i+1:=by lia
  rw[a1,a2,show i+1 - i=1 by lia,List.drop_eq_getElem_cons hi,List.take_succ_cons,List.take_zero]
  simp[hi]
 erw[rwl (e3 ..) ?_]
 exact wpAny_pure k
theorem ZtY(G:Gr base mg mb Gd){a:Addr}{l:List Nat}{t:Tok}{fv:Value}{n:Nat}{Q:Value->Shared->Prop}(hf:ZjJ prog w Gd a l t fv n)(hfv:s.TypeIs fv "function")(hl:l.length<=1000)(L:Lv A (n+2))(ok:Ok Gd s)(hp:Zef s.heap a)
  (k:∀u s',Gw s s'->Ok Gd s'->Q (.str ⟨(Zd9 l).toArray⟩ u) s'):wpAny (model prog w) A (call (.builtin "re.Pattern.sub") [.ref a,fv,.str ⟨l.toArray⟩ t]) Q E s:=by
 obtain⟨op,bp,fp,e1,e2,_⟩:=id hp
 refine wpAny_call (codeAny_call_builtin Zgr.plain ZlB (Zgr.check _ _ _ _ _ _ _ _ ⟨_,e1,e2⟩ (Znl _ _ _) ?_))
 show wpAny _ _ (reSubstitute "re.Pattern.sub" "sub" false ⟨[.ref a,fv,.str ⟨l.toArray⟩ t],[]⟩) _ _ s
 unfold reSubstitute
 dsimp only
 refine wpAny_bind (wpAny_of_eq (a:=[some fv,some (.str ⟨l.toArray⟩ t),none]) rfl ?_)
 dsimp only
 refine wpAny_bind (wpAny_pure ?_)
 refine wpAny_bind (wpAny_specialOf (r:=some (.builtin "function.__call__")) hfv (by erw[rwl (typeLookup_type ..) (rwl (builtinLookup_eq_fast ..) ?_)];kernel_rfl) ?_)
 dsimp only[Option.isSome]
 erw[rwl (if_pos rfl ..) ?_]
 refine wpAny_bind (wpAny_pure ?_)
 erw[rwl (if_pos rfl ..) ?_]
 refine wpAny_bind (wpAny_pure ?_)
 dsimp only
 refine wpAny_bind (wpAny_holding (ZcH hp ?_))
 refine wpAny_ite_split (λ_=>?_) (λh=>absurd rfl h)
 unfold reNotHeld
 refine wpAny_bind (wpAny_bind (wpAny_isInstance_val (T := "str") (b:=false) rfl (by erw[rwl (isSubtype_type ..) ?_];kernel_rfl) ?_))
 rw[if_neg (by decide)]
 refine wpAny_bind (wpAny_pure ?_)
 refine wpAny_pure ?_
 refine wpAny_bind (wpAny_newList ?_ (by size_fits))
 refine wpAny_pure ⟨Zdf,?_⟩
 have sD:=Zau s.heap
 have hk:∀b o,s.heap.get? b=some o->(s.heap.push { cls:=.type "list",data:=.seq #[] }).get? b=some o:=λ_ _ e=>Heap.get?_push_of_some _ e
 have g₁:Gw s { s with heap:=s.heap.push { cls:=.type "list",data:=.seq #[] } }:=.of_keep (tk:=s.toks) hk
 have ok₁:Ok Gd { s with heap:=s.heap.push { cls:=.type "list",data:=.seq #[] } }:=⟨G.keeps ok.gd hk,ok.tk⟩
 refine Zoq G hf hl (G.fresh ok.gd sD) l.length A _ _ [] [] 0 0 (by lia) (by lia) (L.le (by lia)) ok₁ (ZmR hp g₁.kp) ⟨0,Heap.get?_push_size _ rfl⟩ .nil (by simp) (by simp) λu s' g o=>?_
 rw[List.flatten_nil,List.nil_append,List.drop_zero] at *
 exact k u s' (GwB.Zvv g₁ g λb hb=>by erw[rwl (hb ..) ?_];exact sD) o
end
end
section
theorem Zfs{ps:List Str}:∀{vs:List Value},vs.length=ps.length->∀n∈ps,((ps.zip vs).lookup n).isNone=false:=by
 induction ps with
 | nil=>intro vs _ n h;cases h
 | cons p ps ih=>
  intro vs hl n h
  cases vs with
  | nil=>cases hl
  | cons v vs=>
   erw[rwl (List.zip_cons_cons ..) (rwl (List.lookup_cons ..) ?_)]
   by_cases q:n==p
   ·erw[rwl (q ..) ?_];rfl
   ·have q':(n==p)=false:=by simpa using q
    erw[rwl (q' ..) ?_]
    refine ih (by simpa using hl) n ?_
    rcases List.mem_cons.mp h with rfl | h
    ·simp at q
    ·exact h
theorem Zf7{α β:Type}{f g:α->Option β}:∀{l:List α},(∀x∈l,f x=g x)->l.filterMap f=l.filterMap g
 | [],_=>rfl
 | x::l,h=>by erw[rwl (List.filterMap_cons ..) (rwl (List.filterMap_cons ..) (rwl (h x List.mem_cons_self ..) (rwl (Zf7 λy hy=>h y (List.mem_cons_of_mem _ hy) ..) ?_)))]
theorem ZfX:∀{ps:List Str} {vs:List Value},ps.Nodup->vs.length=ps.length->ps.filterMap (λn=>((ps.zip vs).lookup n).map (n,·))=ps.zip vs
 | [],[],_,_=>rfl
 | [],_::_,_,h=>by cases h
 | _::_,[],_,h=>by cases h
 | p::ps,v::vs,hn,hl=>by
  obtain⟨h1,h2⟩:=List.nodup_cons.mp hn
  have ih:=ZfX h2 (vs:=vs) (by simpa using hl)
  rw[List.zip_cons_cons,List.filterMap_cons]
  simp only[List.lookup_cons,beq_self_eq_true,Option.map_some]
  congr 1
  conv=>rhs;rw[←ih]
  refine Zf7 λn hm=>?_
  have q:(n==p)=false:=beq_eq_false_iff_ne.mpr λe=>h1 (e▸hm)
  rw[q]
theorem Zq3{fd:FuncData}{as:List Arg}{vals:List Value}(hp:fd.params=⟨[],as,none,[],[],none,[]⟩)(hd:fd.defaults=.none)(hk:fd.kwdefaults=.none)(hn:(as.map (·.arg)).Nodup)(hl:vals.length=as.length):bindArgs fd ⟨vals,[]⟩=pure ((as.map (·.arg)).zip vals):=by
 have e1:seqItems? Value.none=pure none:=rfl
 have e2:((as.map (·.arg)).filter λn=>(((as.map (·.arg)).zip vals).lookup n).isNone)=[]:=by
  erw[rwl (propext (List.filter_eq_nil_iff ..)) ?_]
  intro n hn
  rw[Zfs (by simpa using hl) n hn]
  decide
 have e3:List.take as.length (as.map (·.arg))=as.map (·.arg):=List.take_of_length_le (by simp)
 have e4:=ZfX hn (vs:=vals) (by simpa using hl)
 obtain⟨nm,qu,pr,bo,sc,gl,cl,de,kd,dc,pm,an,cd,ct,bi⟩:=fd
 dsimp only at hp hd hk
 subst hp hd hk
 unfold bindArgs
 simp only[e1]
 simp[e2,e3,hl]
 simp at e4
 erw[rwl (e4 ..) ?_]
end
section
open PySem.Sre PySem.Builtin.Re
noncomputable abbrev Zh7(scope:Scope)(m:Str):Prop:=(∀z∈scope.names,z.2≠.cell)∧(∀z,(z,NameKind.free) ∉ scope.names)∧(scope.names.lookup m=some .local)∧(scope.kind=.function)∧(scope.isCoroutine=false)∧(scope.isGenerator=false)∧(m≠("__debug__" : Str))
theorem Zh7.nc{scope:Scope}{m:Str}(slf:Zh7 scope m):∀z∈scope.names,z.2≠.cell:=slf.1
theorem Zh7.nf{scope:Scope}{m:Str}(slf:Zh7 scope m):∀z,(z,NameKind.free) ∉ scope.names:=slf.2.1
theorem Zh7.l{scope:Scope}{m:Str}(slf:Zh7 scope m):scope.names.lookup m=some .local:=slf.2.2.1
theorem Zh7.k{scope:Scope}{m:Str}(slf:Zh7 scope m):scope.kind=.function:=slf.2.2.2.1
theorem Zh7.c{scope:Scope}{m:Str}(slf:Zh7 scope m):scope.isCoroutine=false:=slf.2.2.2.2.1
theorem Zh7.g{scope:Scope}{m:Str}(slf:Zh7 scope m):scope.isGenerator=false:=slf.2.2.2.2.2.1
theorem Zh7.d{scope:Scope}{m:Str}(slf:Zh7 scope m):m≠("__debug__" : Str):=slf.2.2.2.2.2.2
@[elab_as_elim] theorem Zl3{α:Type}{o:Option α}{G:Option α->Prop}(h:o.isNone=true)(k:G none):G o:=by
 cases o with
 | none=>exact k
 | some=>exact nf h
@[elab_as_elim] theorem Zmi{params:Arguments}{scope:Scope}{m:Str}{G:Arguments->Prop}(h:Zsd params scope m=true)(k:∀yp,Zh7 scope m->G ⟨[],[⟨m,none,yp⟩],none,[],[],none,[]⟩):G params:=by
 obtain⟨a,b,c,d,e,f,g⟩:=params
 refine ZuQ h λh1 h2 h3 h4 h5 h6 h7 h8 h9=>ZcB (show a.isEmpty=true from h1) (ZfO (show b1 _ b=true from h2) λy h2=>Zl3 (show c.isNone=true from h3) (ZcB (show d.isEmpty=true from h4) (ZcB (show e.isEmpty=true from h5) (Zl3 (show f.isNone=true from h6) (ZcB (show g.isEmpty=true from h7) ?_)))))
 obtain⟨z,an,yp⟩:=y
 have S:Zh7 scope m:=Zm4 h9 λa b c d e=>⟨λz hz=>bne_iff_ne.mp (Zbv (List.all_eq_true.mp h8 z hz)),λ_ hz=>bne_iff_ne.mp (Za7 (List.all_eq_true.mp h8 _ hz)) rfl,eq_of_beq a,eq_of_beq b,ZfN c,ZfN d,bne_iff_ne.mp e⟩
 exact Zbg h2 λx y=>eqb (show(z==m)=true from x) (Zl3 (show an.isNone=true from y) (k yp S))
section
variable {prog:Program}{w:World}{base:Addr->Prop}{mg mb:Str->Option Value}{Gd:Heap->Prop}{A:Around}{E:Value->Shared->Prop}{s:Shared}
theorem bind1{nm0 qual y:Str}{yp:Pos}{body:Expr}{scope:Scope}{pm cv ctv v:Value}:bindArgs (kla_fn nm0 qual ⟨[],[⟨y,none,yp⟩],none,[],[],none,[]⟩ body scope [] pm cv ctv) ⟨[v],[]⟩=pure [(y,v)]:=
 Zq3 (as:=[⟨y,none,yp⟩]) rfl rfl rfl (List.nodup_cons.mpr ⟨List.not_mem_nil,List.nodup_nil⟩) rfl
theorem Zkm{i:Int}{e:Expr}(h:mtc (.int i) e=true):Zai e=true:=or2 (show(qC _ e||Zlm _ _ e)=true from h) (λh=>Zom h λ_ _=>rfl) λh=>Zfx h λ_ _ _=>rfl
theorem Zn6{A:Around}{n:Nat}(L:Lv A n):A.depth < recursionLimit:=Nat.lt_of_lt_of_le (Nat.lt_succ_of_le (Nat.le_trans (Nat.le_add_right _ _) L.dp)) (Nat.le_of_ble_eq_true rfl)
theorem Znz(G:Gr base mg mb Gd){a fa:Addr}{l:List Nat}{t:Tok}(hl:l.length<=1000){nm0 qual:Str}{params:Arguments}{body:Expr}{scope:Scope}{pm cv ctv:Value}(hB:ZtJ params scope body=true)
  (hfo:∀h,Gd h->h.get? fa=some { cls:=.type "function",data:=.func (kla_fn nm0 qual params body scope [] pm cv ctv) }) (hcr:∀h,Gd h->h.CodeRec cv qual):ZjJ prog w Gd a l t (.ref fa) 3:=by
 intro A E s Q i b f L ok hi hb hf _ k
 have hfo:=hfo _ ok.gd
 revert hfo
 refine Zly (show Zrt _ body=true from hB) λlb op r pB hB=>Zd3 hB λh0 hlb hB=>eqb h0 (Zf8 hB λes pb hB=>ZkK hB λc emp hB=>Zbg hB λhemp hB=>Zbz hB λmo p2 as p3 mc hln hB=>ZfO hB λone hB=>Zbg hB λhone hB=>Zby hB λm p1 hlam=>Zmi hlam λyp S hfo=>?_)
 refine wpAny_call (kla_callFunE (Zn6 L) hfo rfl S.c S.g rfl (hcr _ ok.gd) (wpAny_of_eq (a:=[(m,.ref f)]) bind1 ?_))
 refine wpAny_newFunctionEnv S.nc (λz hz=>List.mem_singleton.mp hz▸S.l) (λh₁ hns hsb=>?_) S.k
 have hk₁:∀b o,s.heap.get? b=some o->h₁.get? b=some o:=λb o e=>hsb.extBut b o (Nat.ne_of_lt (Heap.lt_size e)) (Heap.get?_push_of_some _ e)
 have Gd₁:Gd h₁:=G.keeps ok.gd hk₁
 refine⟨G.lim _ Gd₁,kla_codeExpr (wpAny_BinOp (Zbo hlb ?_))⟩
 erw[rwl (arm_eval_BoolOp ..) ?_]
 have p1':=Zkm hone
 have g₁:Gw s { s with heap:=h₁,toks:=s.toks+1 }:=.of_keep hk₁
 have okT:Ok Gd { s with heap:=h₁,toks:=s.toks+1+1 }:=⟨Gd₁,Nat.le_succ_of_le (Nat.le_succ_of_le ok.tk)⟩
 refine wpAny_bind (wpAny_Call_method (T := "re.Match") (id := "re.Match.group") (ZaQ rfl) (by erw[rwl (Zab p1' ..) (rwl (Zam ..) ?_)];rfl) hln Ziw Zd7 Zj3 (wpAny_Name (wpAny_loadName_local S.k S.l hns (v:=.ref f) List.lookup_cons_self ⟨⟨_,hk₁ _ _ hf,rfl⟩,λa' e=>⟨Zc3 a b l t,(congrArg h₁.get? (Value.ref.inj e)).symm.trans (hk₁ _ _ hf),rfl⟩,?_⟩) (beq_eq_false_iff_ne.mpr S.d)))
 erw[rwl (Zab p1' ..) (rwl (Zam ..) (rwl (Zah ..) (rwl (Zay ..) ?_)))]
 refine Calls.callWith_builtin rfl (Calls.evalArgs_plain (Calls.spliced_cons ?_))
 refine ZjV (Γ:=λ_ _=>none) (nm:=[]) (fn:=λ_ => "") (n:=0) (prog:=prog) (w:=w) G (.int 1) scope true one _ [] _ (λ_=>True) _ _ _ (.int 1) hone ?_ ?_ okT (λa h=>absurd trivial h) rfl λv s₂ g₂ o₂ r₂=>(RdX.str rfl r₂).Za0 λti=>?_
 ·exact⟨rfl,S.k,rfl,rfl,λn h=>absurd rfl (S.nc _ (mem_lookup h)),λi d h=>(by cases i<;>cases h),λi d h=>(by cases i<;>cases h)⟩
 ·exact⟨L.hd,by have:=L.dp;show A.depth+1+0<=900;lia,by have:=L.un;show A.units+3+3 * 0<=9000;lia⟩
 refine Calls.spliced_nil (Zrc hl hi (g₂.kp _ _ (.ZaD rfl) (hk₁ _ _ hb)) (g₂.kp _ _ (.ZaD rfl) (hk₁ _ _ hf)) ?_)
 have okT₂:Ok Gd { s₂ with toks:=s₂.toks+1 }:=⟨o₂.gd,Nat.le_succ_of_le o₂.tk⟩
 refine wpAny_bind (wpAny_standAt (wpAny_bind (wpAny_holding ?_)))
 refine Zn8 (Gd:=Gd) (P:=λ_=>True) (a:=.str [l.toArray.getD i 0]) (b:=true) (.of (.str _ _ (Nat.le_of_ble_eq_true rfl))) okT₂ rfl λs₃ g₃ o₃ he=>wpAny_pure ?_
 refine wrap o₃.tk (add_str (λt' tk ht=>?_) (Nat.le_of_ble_eq_true rfl))
 exact k _ _ ((((g₁.trans (.tok _ _)).trans g₂).trans (.tok _ _)).trans (g₃.trans (.tok _ _))) ⟨o₃.gd,ht⟩ ⟨_,rfl⟩
end
end
section
set_option backward.match.sparseCases false
open PySem.Sre PySem.Builtin.Re
section
variable {prog:Program}{w:World}{F:Fp}{K:Addr->Prop}{ad:Nat->Bool->Addr}{σ:Sg}{s:Shared}{mg mb:Str->Option Value}{Γ:ZaC}{fn:Nat->Str}{fa:Nat->Addr}{n N:Nat}{A:Around}{E:Value->Shared->Prop}{c P:Addr}{xs:List (Pos×Str)}
theorem Zo7{base:Addr->Prop}{Gd:Heap->Prop}(G:Gr base mg mb Gd){I:Heap->Prop}(hI:∀h h',I h->(∀b o,¬Mut o->h.get? b=some o->h'.get? b=some o)->I h'):Gr base mg mb (λh=>Gd h∧I h):=⟨(λ_ _ x k=>⟨G.keep _ _ x.1 k,hI _ _ x.2 λb o m e=>k b o (.inr m) e⟩),
(λh b x=>G.there h b x.1),
(λh x=>G.g h x.1),
(λh x=>G.b h x.1),
(λh x=>G.lim h x.1),
G.bi⟩
theorem Zj6{o:Obj}(hc:o.cls=.type "function" ∨ o.cls=.type "code")(hd:(∃x,o.data=.func x)∨∃x,o.data=.fields x) : ¬Mut o:=by
 have dd:∀{x:Data},o.data=x->(match x with | .func _=>True | .fields _=>True | _=>False):=λe=>by
  rcases hd with⟨_,h⟩ | ⟨_,h⟩
  ·exact(h.symm.trans e)▸trivial
  ·exact(h.symm.trans e)▸trivial
 have cc:∀{x:String},o.cls=.type x->x = "function" ∨ x = "code" := λe=>hc.elim (λh=>.inl (Value.type.inj (e.symm.trans h))) λh=>.inr (Value.type.inj (e.symm.trans h))
 rintro(⟨_,_,h⟩ | ⟨_,_,h⟩ | ⟨_,h⟩ | h | h)
 ·exact dd h
 ·exact dd h
 ·exact dd h
 ·exact absurd (cc h) (by decide)
 ·exact absurd (cc h) (by decide)
theorem ZnV{params:Arguments}{scope:Scope}{body:Expr}(h:ZtJ params scope body=true):(∀z,(z,NameKind.free) ∉ scope.names)∧∀{env:Env},defaultsOf params env=([],[]):=
 Zly (show Zrt _ body=true from h) λlb op r pB hB=>Zd3 hB λh0 hlb hB=>Zf8 hB λes pb hB=>ZkK hB λc emp hB=>Zbg hB λhemp hB=>Zbz hB λmo p2 as p3 mc hln hB=>ZfO hB λone hB=>Zbg hB λhone hB=>Zby hB λm p1 hlam=>Zmi hlam λyp S=>⟨S.nf,rfl⟩
theorem Zkc{base:Addr->Prop}{Gd:Heap->Prop}(G:Gr base mg mb Gd){h:Heap}{pa v0:Addr}{l:List Nat}{t:Tok}(hl:l.length<=1000){nm0 qual:Str}{params:Arguments}{body:Expr}{scope:Scope}{pm cv ctv:Value}(hB:ZtJ params scope body=true)
  (hv:h.get? v0=some { cls:=.type "function",data:=.func (kla_fn nm0 qual params body scope [] pm cv ctv) }) (rc:ZiY h cv qual):∃I:Heap->Prop,I h∧Gr base mg mb (λh=>Gd h∧I h)∧ZjJ prog w (λh=>Gd h∧I h) pa l t (.ref v0) 3:=by
 obtain⟨cc,oc,vsc,tc,c1,c2,c3,c4,c5⟩:=rc
 have G':=Zo7 G (I:=λh=>h.get? v0=some { cls:=.type "function",data:=.func (kla_fn nm0 qual params body scope [] pm cv ctv) }∧h.get? cc=some oc) λ_ _ x k=>⟨k _ _ (Zj6 (.inl rfl) (.inl ⟨_,rfl⟩)) x.1,k _ _ (Zj6 (.inr c3) (.inr ⟨_,c4⟩)) x.2⟩
 exact⟨_,⟨hv,c2⟩,G',Znz G' hl hB (λh x=>x.2.1) λh x=>⟨cc,oc,vsc,tc,c1,x.2.2,c4,c5⟩⟩
theorem Zrl(G:Gr F.base mg mb F.Gd)(H:Fs F){x:X}(ax:All prog w F.base F.Gd Γ F.nm fn n x)(O:Odd F c P xs mg)(hn:6<=n){ys:List (Nat×Nat×Bool)}(hq:∀gl gc,(gl,gc,false)∈ys->∃pq∈xs,pq.1.line=gl∧pq.1.col=gc∧pq.2=F.env.qual++("<lambda>" : Str))
  {pa:Addr} (hpg:mg ("_twin_re_1" : Str)=some (.ref pa)) (hpa:∀h,F.Gd h->Zef h pa∧∃o,h.get? pa=some o∧o.dict=none)
  {i gl gc:Nat} (hg:(gl,gc,false)∈ys):S1 prog w F Γ fn n N (.asgR i x gl gc):=by
 intro st K ad σ A s E Q fl σ' hm L f hv k
 revert k
 refine ZoN (show(ev Γ σ (.resub x)).map _=_ from hv) λd hd=>Zac (show(ev Γ σ x).bind _=some d from hd) λdl hdl hd=>?_
 revert hdl
 refine ZbG hd λls hd=>ifS hd λhlen hd=>eqs hd λhdl k=>?_
 refine ZbU (show ZbZ _ st=true from hm) λt' v p hm=>Zd3 hm λm1 m2 hm=>Zbz hm λo ap as pos mc m6 hm=>ZkK hm λlm a hm=>ZjH hm λm3 m9 m10 hm=>ZfK m1 λy p hy hk=>?_
 refine Zby m3 λo op m3=>Zbg m3 λm3 m4=>?_
 revert m4
 refine eqb m3 λm4=>ZsB hm λparams body scope lpos hm=>Zd3 hm λm7 m8 hB=>?_
 obtain⟨hpat0,opat,hopat,hopd⟩:=hpa _ f.ok.gd
 obtain⟨_,_,_,q1,q2,_⟩:=id hpat0
 refine wpAny_Assign_Name (wpAny_Call_method (T := "re.Pattern") (id := "re.Pattern.sub") (ZaQ rfl) (by erw[rwl (Zab (show Zai (.Lambda params body scope lpos)=true from rfl) ..) (rwl (Zab m9 ..) (rwl (Zam ..) ?_))];rfl) m6 Zgt Zgr Zn4
  (ZcR G f.ok.gd (f.ZcE H) m4 hpg (by decide) ⟨⟨_,q1,q2⟩,λa' e=>⟨opat,(congrArg s.heap.get? (Value.ref.inj e)).symm.trans hopat,hopd⟩,?_⟩)) rfl
 erw[rwl (Zab (show Zai (.Lambda params body scope lpos)=true from rfl) ..) (rwl (Zab m9 ..) (rwl (Zam ..) (rwl (Zah ..) (rwl (Zah ..) (rwl (Zay ..) ?_)))))]
 refine Calls.callWith_builtin rfl (Calls.evalArgs_plain (Calls.spliced_cons ?_))
 obtain⟨nf,sk⟩:=ZnV hB
 have hcl:closureFor scope F.env=pure []:=(ZbM λz hz=>absurd hz (nf z)).trans (by erw[rwl (ZcO nf ..) ?_])
 obtain⟨pq,h1,h2,h3,h4⟩:=hq gl gc hg
 have h2:=h2.trans (eq_of_beq m7).symm
 have h3:=h3.trans (eq_of_beq m8).symm
 refine kla_eval sk (ZoM (c:=c) (P:=P) (xs:=xs) (mg:=mg) (O.tab _ f.ok.gd) ⟨pq,h1,h2,h3,h4⟩ (λpq' hp' a1 a2=>(O.hu pq' hp' pq h1 (a1.trans h2.symm) (a2.trans h3.symm)).trans h4) hcl (.inl rfl) H.gl (G.g _ f.ok.gd) O.code O.nP (O.bi _ f.ok.gd) f.ok.tk λcv ctv h' tk Md T2 htk=>?_)
 have Gd2:F.Gd h':=O.set _ _ f.ok.gd Md.kp Md.bt T2
 have kF:∀b o,h'.get? b=some o->(h'.push { cls:=.type "function",data:=.func (kla_fn "<lambda>" (F.env.qual ++ "<lambda>") params body scope [] ((mg "__name__").getD .none) cv ctv) }).get? b=some o:=λ_ _ e=>Heap.get?_push_of_some _ e
 have gw:Gw s { s with heap:=h'.push { cls:=.type "function",data:=.func (kla_fn "<lambda>" (F.env.qual ++ "<lambda>") params body scope [] ((mg "__name__").getD .none) cv ctv) },toks:=tk }:=⟨Md.kp.trans (.of kF),λb o e=>let ⟨o',e'⟩:=Md.ex b o e;⟨o',kF _ _ e'⟩,rfl,id⟩
 refine Calls.spliced_cons (ZdF H ax m10 m2 L (f.grow gw ⟨G.keeps Gd2 kF,htk⟩) hdl λv s₂ f₂ g₂ r₂=>r₂.Zba λt hl=>Calls.spliced_nil ?_)
 have hv₂:=g₂.kp _ _ (.ZaD rfl) (Heap.get?_push_size h' rfl)
 obtain⟨I,hI,G',RO⟩:=Zkc (prog:=prog) (w:=w) G (pa:=pa) (t:=t) hlen hB hv₂ (Md.rc.kp ((Kp.of kF).trans g₂.kp))
 refine ZtY G' RO ⟨_,hv₂,rfl⟩ hlen (L.le (Nat.le_trans (Nat.le_of_ble_eq_true rfl) hn)) ⟨⟨f₂.ok.gd,hI⟩,f₂.ok.tk⟩ (hpa _ f₂.ok.gd).1 λu s₃ g₃ o₃=>?_
 exact(f₂.grow g₃ ⟨o₃.gd.1,o₃.tk⟩).Zc0 G H hy hk (d:=.str (Zd9 ls)) (.str _ _ (Nat.le_trans (Zi3 ls) (Nat.le_trans (Nat.mul_le_mul_left 2 hlen) (Nat.le_of_ble_eq_true rfl)))) λs₄ f₄ t₄=>k ad s₄ f₄ (((gw.trans g₂).trans g₃).stp.trans t₄)
end
end
section
noncomputable def ZhB(prog:Program)(w:World)(Gd:Heap->Prop)(fv:Value)(n:Nat)(href:Heap)(W P1:Addr->Prop)(sem:D->D->Option D):Prop:=
 ∀a b d,sem a b=some d->∀(A:Around) (P:Addr->Prop) (s:Shared) (va vb:Value) (E Q:Value->Shared->Prop),Lv A n->Ok Gd s->KpB W href s.heap->Pf P s.heap->(∀x,P1 x->P x)->Rd P s.heap va a->Rd P s.heap vb b->
  (∀v s',Gw s s'->Ok Gd s'->Rd P s'.heap v d->Q v s')->wpAny (model prog w) A (call fv [va,vb]) Q E s
noncomputable abbrev Za9(env:Env):Prop:=(env.scope.kind=.function)∧(env.globals=mainGlobals)∧(env.builtins=builtinsNs)∧(env.kindOf "function" = some .local)∧(env.kindOf "sequence" = some .local)∧(env.kindOf "initial" = some .local)∧(env.kindOf "it" = some .local)∧(env.kindOf "value" = some .local)∧(env.kindOf "element" = some .local)
theorem Za9.kd{env:Env}(slf:Za9 env):env.scope.kind=.function:=slf.1
theorem Za9.gl{env:Env}(slf:Za9 env):env.globals=mainGlobals:=slf.2.1
theorem Za9.bu{env:Env}(slf:Za9 env):env.builtins=builtinsNs:=slf.2.2.1
theorem Za9.k1{env:Env}(slf:Za9 env):env.kindOf "function" = some .local:=slf.2.2.2.1
theorem Za9.k2{env:Env}(slf:Za9 env):env.kindOf "sequence" = some .local:=slf.2.2.2.2.1
theorem Za9.k3{env:Env}(slf:Za9 env):env.kindOf "initial" = some .local:=slf.2.2.2.2.2.1
theorem Za9.k4{env:Env}(slf:Za9 env):env.kindOf "it" = some .local:=slf.2.2.2.2.2.2.1
theorem Za9.k5{env:Env}(slf:Za9 env):env.kindOf "value" = some .local:=slf.2.2.2.2.2.2.2.1
theorem Za9.k6{env:Env}(slf:Za9 env):env.kindOf "element" = some .local:=slf.2.2.2.2.2.2.2.2
section
variable {prog:Program}{w:World}{base:Addr->Prop}{mg mb:Str->Option Value}{Gd:Heap->Prop}{A:Around}{s:Shared}
theorem Zb1{env:Env}{n:Str}{v:Value}{p:Pos}{m:Str->Option Value}{E:Value->Shared->Prop}{Q:Value->Shared->Prop}(hk:env.scope.kind=.function)(hl:env.kindOf n=some .local)(hn:s.heap.Ns env.locals m)(e:m n=some v)(hd:n≠("__debug__" : Str))(h:Q v s):wpAny (model prog w) A (eval (.Name n p) env) Q E s:=
 wpAny_Name (wpAny_loadName_local hk hl hn e h) (beq_eq_false_iff_ne.mpr hd)
noncomputable abbrev RS(P S base W:Addr->Prop)(href:Heap)(C I:Addr):Prop:=(¬P C)∧(¬P I)∧(¬S C)∧(C≠I)∧(¬base C)∧(¬base I)∧(∀b,(b=C∨b=I)->W b∨href.get? b=none)
theorem RS.pC{P S base W:Addr->Prop}{href:Heap}{C I:Addr}(slf:RS P S base W href C I) : ¬P C:=slf.1
theorem RS.pI{P S base W:Addr->Prop}{href:Heap}{C I:Addr}(slf:RS P S base W href C I) : ¬P I:=slf.2.1
theorem RS.sC{P S base W:Addr->Prop}{href:Heap}{C I:Addr}(slf:RS P S base W href C I) : ¬S C:=slf.2.2.1
theorem RS.cI{P S base W:Addr->Prop}{href:Heap}{C I:Addr}(slf:RS P S base W href C I):C≠I:=slf.2.2.2.1
theorem RS.bC{P S base W:Addr->Prop}{href:Heap}{C I:Addr}(slf:RS P S base W href C I) : ¬base C:=slf.2.2.2.2.1
theorem RS.bI{P S base W:Addr->Prop}{href:Heap}{C I:Addr}(slf:RS P S base W href C I) : ¬base I:=slf.2.2.2.2.2.1
theorem RS.hW{P S base W:Addr->Prop}{href:Heap}{C I:Addr}(slf:RS P S base W href C I):∀b,(b=C∨b=I)->W b∨href.get? b=none:=slf.2.2.2.2.2.2
noncomputable abbrev RB(P S W:Addr->Prop)(Gd:Heap->Prop)(href:Heap)(C I:Addr)(s:Shared)(m:Str->Option Value)(v:Value)(acc:D)(rem:List D)(s₂:Shared):Prop:=(s₂.heap.Ns C m)∧(Rd P s₂.heap v acc)∧(It P S s₂.heap I rem)∧(Ok Gd s₂)∧(Pf P s₂.heap)∧(KpB W href s₂.heap)∧(GwB (λb=>b=C∨b=I) s s₂)
theorem RB.ns{P S W:Addr->Prop}{Gd:Heap->Prop}{href:Heap}{C I:Addr}{s:Shared}{m:Str->Option Value}{v:Value}{acc:D}{rem:List D}{s₂:Shared}(slf:RB P S W Gd href C I s m v acc rem s₂):s₂.heap.Ns C m:=slf.1
theorem RB.rv{P S W:Addr->Prop}{Gd:Heap->Prop}{href:Heap}{C I:Addr}{s:Shared}{m:Str->Option Value}{v:Value}{acc:D}{rem:List D}{s₂:Shared}(slf:RB P S W Gd href C I s m v acc rem s₂):Rd P s₂.heap v acc:=slf.2.1
theorem RB.it{P S W:Addr->Prop}{Gd:Heap->Prop}{href:Heap}{C I:Addr}{s:Shared}{m:Str->Option Value}{v:Value}{acc:D}{rem:List D}{s₂:Shared}(slf:RB P S W Gd href C I s m v acc rem s₂):It P S s₂.heap I rem:=slf.2.2.1
theorem RB.ok{P S W:Addr->Prop}{Gd:Heap->Prop}{href:Heap}{C I:Addr}{s:Shared}{m:Str->Option Value}{v:Value}{acc:D}{rem:List D}{s₂:Shared}(slf:RB P S W Gd href C I s m v acc rem s₂):Ok Gd s₂:=slf.2.2.2.1
theorem RB.hP{P S W:Addr->Prop}{Gd:Heap->Prop}{href:Heap}{C I:Addr}{s:Shared}{m:Str->Option Value}{v:Value}{acc:D}{rem:List D}{s₂:Shared}(slf:RB P S W Gd href C I s m v acc rem s₂):Pf P s₂.heap:=slf.2.2.2.2.1
theorem RB.hk{P S W:Addr->Prop}{Gd:Heap->Prop}{href:Heap}{C I:Addr}{s:Shared}{m:Str->Option Value}{v:Value}{acc:D}{rem:List D}{s₂:Shared}(slf:RB P S W Gd href C I s m v acc rem s₂):KpB W href s₂.heap:=slf.2.2.2.2.2.1
theorem RB.hg{P S W:Addr->Prop}{Gd:Heap->Prop}{href:Heap}{C I:Addr}{s:Shared}{m:Str->Option Value}{v:Value}{acc:D}{rem:List D}{s₂:Shared}(slf:RB P S W Gd href C I s m v acc rem s₂):GwB (λb=>b=C∨b=I) s s₂:=slf.2.2.2.2.2.2
section
variable {P S W:Addr->Prop}{href:Heap}{C I:Addr}{m m':Str->Option Value}{v v':Value}{acc acc':D}{rem:List D}{s₂ s₃:Shared}
theorem RS.kT(X:RS P S base W href C I){a b:Heap}(y:KpB W href a)(x:KpB (λb=>b=C∨b=I) a b):KpB W href b:=λb o n z e=>x b o n (λz'=>(X.hW b z').elim z λq=>nn (q.symm.trans e)) (y b o n z e)
theorem RB.gw(B:RB P S W Gd href C I s m v acc rem s₂)(g:Gw s₂ s₃)(o:Ok Gd s₃)(r:Rd P s₃.heap v' acc'):RB P S W Gd href C I s m v' acc' rem s₃:=
 ⟨Zkk B.ns g.kp,r,B.it.mono λb ob n _ e=>g.kp b ob n e,o,B.hP.kp g.kp,B.hk.trans g.kp.toB,B.hg.trans g.toB⟩
theorem RB.set(G:Gr base mg mb Gd)(X:RS P S base W href C I)(B:RB P S W Gd href C I s m v acc rem s₂){h:Heap}{tk:Tok}(hs:Heap.ExtBut C s₂.heap h)(hn:h.Ns C m')(ht:1<=tk):RB P S W Gd href C I s m' v acc rem { s₂ with heap:=h,toks:=tk }:=
 have g:GwB (λb=>b=C∨b=I) s₂ { s₂ with heap:=h,toks:=tk }:=.of_same hs (.inl rfl)
 ⟨hn,B.rv.but X.pC hs,B.it.mono λb ob _ q e=>hs b ob (λx=>q.elim (λq=>X.pC (x▸q)) λq=>q.elim (λq=>X.sC (x▸q)) λq=>X.cI (x.symm.trans q)) e,
  ⟨let ⟨_,e,m,_⟩:=Mut.ns B.ns;G.same B.ok.gd X.bC e m hs,ht⟩,B.hP.same hs (let ⟨o,e,_,n⟩:=Mut.ns hn;⟨o,n,e⟩),X.kT B.hk g.kp,B.hg.trans g⟩
theorem RB.next(G:Gr base mg mb Gd)(X:RS P S base W href C I){d:List D}(B:RB P S W Gd href C I s m v acc d s₂){h:Heap}{tk:Tok}(hs:Heap.ExtBut I s₂.heap h)(hi:It P S h I rem)(ht:1<=tk):RB P S W Gd href C I s m v acc rem { s₂ with heap:=h,toks:=tk }:=
 have g:GwB (λb=>b=C∨b=I) s₂ { s₂ with heap:=h,toks:=tk }:=.of_same hs (.inr rfl)
 ⟨B.ns.extBut hs X.cI,B.rv.but X.pI hs,hi,⟨let ⟨_,e,m,_⟩:=B.it.mut;G.same B.ok.gd X.bI e m hs,ht⟩,B.hP.same hs (let ⟨o,e,_,n⟩:=hi.mut;⟨o,n,e⟩),X.kT B.hk g.kp,B.hg.trans g⟩
end
theorem ZiQ(G:Gr base mg mb Gd){env:Env}(X:Za9 env){I fa:Addr}{n:Nat}{fo:Obj}{fd:FuncData}{href:Heap}{W P1 P S:Addr->Prop}{sem:D->D->Option D}(hst:ZhB prog w Gd (.ref fa) n href W P1 sem)
  (hfd:fo.data=.func fd) (hfn:NT fo) (hWfa : ¬W fa) (hfo:href.get? fa=some fo) (Y:RS P S base W href env.locals I) (hP1:∀x,P1 x->P x)
  {p1 p2 p3 p4 p5 p6 p7:Pos} {R:Result->Shared->Prop} (L:Lv A n) {ds:List D} {acc d:D} (hd:ZbN sem ds acc=some d) {m:Str->Option Value} {v:Value} (hm:m "function" = some (.ref fa)) (hmv:m "value" = some v) {s₀:Shared} (B:RB P S W Gd href env.locals I s m v acc ds s₀)
  (k:∀v' s' m',GwB (λb=>b=env.locals∨b=I) s s'->Ok Gd s'->s'.heap.Ns env.locals m'->m' "value" = some v'->Rd P s'.heap v' d->R (.ok .next) s') :
  codeAny (model prog w) A (.forLoop (.Name "element" p1) (.ref I) [.Assign [.Name "value" p2] (.Call (.Name "function" p3) [.Name "value" p4,.Name "element" p5] [] p6) p7] [] env) R s₀:=by
 refine codeAny_forLoop_any (λc s₂=>∃rem acc m v,RB P S W Gd href env.locals I s m v acc rem s₂∧c=rem.length∧ZbN sem rem acc=some d∧m "function" = some (.ref fa)∧m "value" = some v)
  (λc s₂ h=>?_) ds.length ⟨ds,acc,m,v,B,rfl,hd,hm,hmv⟩
 obtain⟨rem,acc,m,v,B,e0,hd,hm,hmv⟩:=h
 refine wrap B.ok.tk ?_
 cases rem with
 | nil=>
  rw[←Option.some.inj (show some acc=some d from hd)] at k
  exact B.it.done L.hd λh' hs ht=>wpAny_execs_nil (k v _ m (B.hg.trans (.of_same (tk:=s₂.toks) hs (.inr rfl))) ⟨let ⟨_,e,m,_⟩:=B.it.mut;G.same B.ok.gd Y.bI e m hs,ht⟩ (B.ns.extBut hs Y.cI) hmv (B.rv.but Y.pI hs))
 | cons x rem=>
  obtain⟨acc',h1,hd⟩:=bind_some hd
  refine B.it.next Y.pI λvx h' tk rx hit hs ht=>?_
  have B₃:=B.next (tk:=tk) G Y hs.extBut hit ht
  refine wpAny_pure (wpAny_assign_Name (wpAny_storeName_local X.k6 B₃.ns (λh₄ hn₄ hs₄=>?_) (by erw[rwl (X.kd ..) ?_];rfl)))
  have B₄:=B₃.set (tk:=tk+1) G Y hs₄.extBut hn₄ (Nat.le_succ_of_le ht)
  have mf:(if("function" : Str) = "element" then some vx else m "function")=some (.ref fa):=(if_neg (by decide)).trans hm
  refine wpAny_execs_cons (wpAny_Assign_Name (wpAny_Call_NameR (Zb1 X.kd X.k1 B₄.ns mf (by decide) ?_)) rfl)
  erw[rwl (Zab (show Zai (.Name "value" p4)=true from rfl) ..) (rwl (Zab (show Zai (.Name "element" p5)=true from rfl) ..) (rwl (Zam ..) (rwl (Zah ..) (rwl (Zah ..) (rwl (Zay ..) ?_)))))]
  refine Calls.callWith_function (o:=fo) (fd:=fd) (Calls.evalArgs_plain (Calls.spliced_cons (Zb1 X.kd X.k5 B₄.ns ((if_neg (by decide)).trans hmv) (by decide) (Calls.spliced_cons (Zb1 (s:={ s₂ with heap:=h₄,toks:=tk+1 }) X.kd X.k6 B₄.ns (if_pos rfl) (by decide) (Calls.spliced_nil ⟨⟨B₄.hk _ _ hfn hWfa hfo,hfd⟩,?_⟩))))))
  refine hst acc x acc' h1 A P _ v vx _ _ L B₄.ok B₄.hk B₄.hP hP1 B₄.rv ((rx.but Y.pI hs.extBut).but Y.pC hs₄.extBut) λv₅ s₅ g₅ o₅ r₅=>?_
  have B₅:=B₄.gw g₅ o₅ r₅
  exact wpAny_storeName_local X.k5 B₅.ns (λh₆ hn₆ hs₆=>wpAny_execs_nil ⟨rem.length,e0▸Nat.lt_succ_self _,rem,acc',_,v₅,B₅.set G Y hs₆.extBut hn₆ (Nat.le_succ_of_le o₅.tk),rfl,hd,(if_neg (by decide)).trans mf,if_pos rfl⟩) (by erw[rwl (X.kd ..) ?_];rfl)
end
end
section
section
variable {prog:Program}{w:World}{base:Addr->Prop}{mg mb:Str->Option Value}{Gd:Heap->Prop}{A:Around}{s:Shared}
theorem Zih(G:Gr base mg mb Gd){env:Env}(X:Za9 env){I fa im:Addr}{n:Nat}{fo:Obj}{fd:FuncData}{href:Heap}{W P1 P S:Addr->Prop}{sem:D->D->Option D}(hst:ZhB prog w Gd (.ref fa) n href W P1 sem)
  (hfd:fo.data=.func fd) (hfn:NT fo) (hWfa : ¬W fa) (hfo:href.get? fa=some fo) (Y:RS P S base W href env.locals I) (hP1:∀x,P1 x->P x)
  (him:mg ("_initial_missing" : Str)=some (.ref im)) (himb:base im) (kim:env.kindOf "_initial_missing" = some .globalImplicit)
  {q1 q2 q3 q4 q5 q6 q7 q8 q9 p1 p2 p3 p4 p5 p6 p7:Pos} {tryS:List Stmt} {E:Value->Shared->Prop} {Q:Flow->Shared->Prop} (L:Lv A n) {ds l0:List D} {d:D} (hd:ZbN sem ds (.list l0)=some d) {m:Str->Option Value} {v:Value} (hm:m "function" = some (.ref fa)) (hmi:m "initial" = some v) (hmt:m "it" = some (.ref I)) (hvi:v≠.ref im) {s₀:Shared} (B:RB P S W Gd href env.locals I s m v (.list l0) ds s₀)
  (k:∀v' s',GwB (λb=>b=env.locals∨b=I) s s'->Ok Gd s'->Rd P s'.heap v' d->Q (.ret v') s') :
  wpAny (model prog w) A (execs [.If (.Compare (.Name "initial" q1) [.Is] [.Name "_initial_missing" q2] q3) tryS [.Assign [.Name "value" q4] (.Name "initial" q5) q6] q7,
   .For (.Name "element" p1) (.Name "it" q8) [.Assign [.Name "value" p2] (.Call (.Name "function" p3) [.Name "value" p4,.Name "element" p5] [] p6) p7] [] q9,
   .Return (some (.Name "value" q1')) q2'] env) Q E s₀:=by
 obtain⟨il,vs0,ev,_,⟨nil,eil⟩,_,_⟩:=B.rv.Zbq
 obtain⟨oim,eim⟩:=G.there _ _ B.ok.gd himb
 refine wpAny_execs_cons (wpAny_If (wpAny_isTrue_Compare1 (Zb1 X.kd X.k3 B.ns hmi (by decide) (Calls.Name_function_global X.kd kim (Calls.loadGlobal_global (X.gl▸G.g _ B.ok.gd) him ?_) (by decide))) rfl))
 erw[rwl (ev ..) ?_]
 refine wpAny_is_ref_other (λq=>hvi (ev.trans (congrArg Value.ref q))) eil eim (by simp) (wpAny_truthy_bool ?_)
 refine wpAny_execs_cons (wpAny_Assign_Name (Zb1 X.kd X.k3 B.ns hmi (by decide) ?_) rfl)
 refine wpAny_storeName_local X.k5 B.ns (λh₁ hn₁ hs₁=>wpAny_execs_nil ?_) (by erw[rwl (X.kd ..) ?_];rfl)
 have B₁:=B.set (tk:=s₀.toks+1) G Y hs₁.extBut hn₁ (Nat.le_succ_of_le B.ok.tk)
 refine wpAny_execs_cons (wpAny_For (Zb1 (s:={ s₀ with heap:=h₁,toks:=s₀.toks+1 }) X.kd X.k4 B₁.ns ((if_neg (by decide)).trans hmt) (by decide) (It.self B₁.it ?_)) (λ_=>rfl))
 exact ZiQ G X hst hfd hfn hWfa hfo Y hP1 L hd ((if_neg (by decide)).trans hm) (if_pos rfl) B₁ λv' s' m' g' o' hn' hmv' r'=>wpAny_execs_cons (wpAny_Return_some (Zb1 X.kd X.k5 hn' hmv' (by decide) (k v' s' g' o' r')))
noncomputable abbrev ZaE(Gd:Heap->Prop)(base:Addr->Prop)(mg:Str->Option Value)(fd:FuncData)(o:Obj)(a im:Addr):Prop:=(∀h,Gd h->h.get? a=some o)∧(o.data=.func fd)∧(∀h,Gd h->h.CodeRec fd.code fd.qualname)∧(fd.closure=[])∧(fd.globals=mainGlobals)∧(fd.builtins=builtinsNs)∧(∀(M:Model) (A:Around) (s:Shared) (x y z:Value) (E:Value->Shared->Prop) (Q:List (Str×Value)->Shared->Prop),Gd s.heap->Q [("function",x),("sequence",y),("initial",z)] s->wpAny M A (bindArgs fd ⟨[x,y,z],[]⟩) Q E s)∧(fd.scope.isCoroutine=false)∧(fd.scope.isGenerator=false)∧(fd.scope.kind=.function)∧(∀y∈fd.scope.names,y.2≠.cell)∧(fd.scope.names.lookup ("function" : Str)=some .local)∧(fd.scope.names.lookup ("sequence" : Str)=some .local)∧(fd.scope.names.lookup ("initial" : Str)=some .local)∧(fd.scope.names.lookup ("it" : Str)=some .local)∧(fd.scope.names.lookup ("value" : Str)=some .local)∧(fd.scope.names.lookup ("element" : Str)=some .local)∧(fd.scope.names.lookup ("iter" : Str)=some .globalImplicit)∧(fd.scope.names.lookup ("_initial_missing" : Str)=some .globalImplicit)∧(mg ("_initial_missing" : Str)=some (.ref im))∧(base im)
theorem ZaE.ob{Gd:Heap->Prop}{base:Addr->Prop}{mg:Str->Option Value}{fd:FuncData}{o:Obj}{a im:Addr}(slf:ZaE Gd base mg fd o a im):∀h,Gd h->h.get? a=some o:=slf.1
theorem ZaE.da{Gd:Heap->Prop}{base:Addr->Prop}{mg:Str->Option Value}{fd:FuncData}{o:Obj}{a im:Addr}(slf:ZaE Gd base mg fd o a im):o.data=.func fd:=slf.2.1
theorem ZaE.cr{Gd:Heap->Prop}{base:Addr->Prop}{mg:Str->Option Value}{fd:FuncData}{o:Obj}{a im:Addr}(slf:ZaE Gd base mg fd o a im):∀h,Gd h->h.CodeRec fd.code fd.qualname:=slf.2.2.1
theorem ZaE.cl{Gd:Heap->Prop}{base:Addr->Prop}{mg:Str->Option Value}{fd:FuncData}{o:Obj}{a im:Addr}(slf:ZaE Gd base mg fd o a im):fd.closure=[]:=slf.2.2.2.1
theorem ZaE.gl{Gd:Heap->Prop}{base:Addr->Prop}{mg:Str->Option Value}{fd:FuncData}{o:Obj}{a im:Addr}(slf:ZaE Gd base mg fd o a im):fd.globals=mainGlobals:=slf.2.2.2.2.1
theorem ZaE.bu{Gd:Heap->Prop}{base:Addr->Prop}{mg:Str->Option Value}{fd:FuncData}{o:Obj}{a im:Addr}(slf:ZaE Gd base mg fd o a im):fd.builtins=builtinsNs:=slf.2.2.2.2.2.1
theorem ZaE.bi{Gd:Heap->Prop}{base:Addr->Prop}{mg:Str->Option Value}{fd:FuncData}{o:Obj}{a im:Addr}(slf:ZaE Gd base mg fd o a im):∀(M:Model) (A:Around) (s:Shared) (x y z:Value) (E:Value->Shared->Prop) (Q:List (Str×Value)->Shared->Prop),Gd s.heap->Q [("function",x),("sequence",y),("initial",z)] s->wpAny M A (bindArgs fd ⟨[x,y,z],[]⟩) Q E s:=slf.2.2.2.2.2.2.1
theorem ZaE.co{Gd:Heap->Prop}{base:Addr->Prop}{mg:Str->Option Value}{fd:FuncData}{o:Obj}{a im:Addr}(slf:ZaE Gd base mg fd o a im):fd.scope.isCoroutine=false:=slf.2.2.2.2.2.2.2.1
theorem ZaE.gen{Gd:Heap->Prop}{base:Addr->Prop}{mg:Str->Option Value}{fd:FuncData}{o:Obj}{a im:Addr}(slf:ZaE Gd base mg fd o a im):fd.scope.isGenerator=false:=slf.2.2.2.2.2.2.2.2.1
theorem ZaE.kd{Gd:Heap->Prop}{base:Addr->Prop}{mg:Str->Option Value}{fd:FuncData}{o:Obj}{a im:Addr}(slf:ZaE Gd base mg fd o a im):fd.scope.kind=.function:=slf.2.2.2.2.2.2.2.2.2.1
theorem ZaE.nc{Gd:Heap->Prop}{base:Addr->Prop}{mg:Str->Option Value}{fd:FuncData}{o:Obj}{a im:Addr}(slf:ZaE Gd base mg fd o a im):∀y∈fd.scope.names,y.2≠.cell:=slf.2.2.2.2.2.2.2.2.2.2.1
theorem ZaE.k1{Gd:Heap->Prop}{base:Addr->Prop}{mg:Str->Option Value}{fd:FuncData}{o:Obj}{a im:Addr}(slf:ZaE Gd base mg fd o a im):fd.scope.names.lookup ("function" : Str)=some .local:=slf.2.2.2.2.2.2.2.2.2.2.2.1
theorem ZaE.k2{Gd:Heap->Prop}{base:Addr->Prop}{mg:Str->Option Value}{fd:FuncData}{o:Obj}{a im:Addr}(slf:ZaE Gd base mg fd o a im):fd.scope.names.lookup ("sequence" : Str)=some .local:=slf.2.2.2.2.2.2.2.2.2.2.2.2.1
theorem ZaE.k3{Gd:Heap->Prop}{base:Addr->Prop}{mg:Str->Option Value}{fd:FuncData}{o:Obj}{a im:Addr}(slf:ZaE Gd base mg fd o a im):fd.scope.names.lookup ("initial" : Str)=some .local:=slf.2.2.2.2.2.2.2.2.2.2.2.2.2.1
theorem ZaE.k4{Gd:Heap->Prop}{base:Addr->Prop}{mg:Str->Option Value}{fd:FuncData}{o:Obj}{a im:Addr}(slf:ZaE Gd base mg fd o a im):fd.scope.names.lookup ("it" : Str)=some .local:=slf.2.2.2.2.2.2.2.2.2.2.2.2.2.2.1
theorem ZaE.k5{Gd:Heap->Prop}{base:Addr->Prop}{mg:Str->Option Value}{fd:FuncData}{o:Obj}{a im:Addr}(slf:ZaE Gd base mg fd o a im):fd.scope.names.lookup ("value" : Str)=some .local:=slf.2.2.2.2.2.2.2.2.2.2.2.2.2.2.2.1
theorem ZaE.k6{Gd:Heap->Prop}{base:Addr->Prop}{mg:Str->Option Value}{fd:FuncData}{o:Obj}{a im:Addr}(slf:ZaE Gd base mg fd o a im):fd.scope.names.lookup ("element" : Str)=some .local:=slf.2.2.2.2.2.2.2.2.2.2.2.2.2.2.2.2.1
theorem ZaE.k7{Gd:Heap->Prop}{base:Addr->Prop}{mg:Str->Option Value}{fd:FuncData}{o:Obj}{a im:Addr}(slf:ZaE Gd base mg fd o a im):fd.scope.names.lookup ("iter" : Str)=some .globalImplicit:=slf.2.2.2.2.2.2.2.2.2.2.2.2.2.2.2.2.2.1
theorem ZaE.k8{Gd:Heap->Prop}{base:Addr->Prop}{mg:Str->Option Value}{fd:FuncData}{o:Obj}{a im:Addr}(slf:ZaE Gd base mg fd o a im):fd.scope.names.lookup ("_initial_missing" : Str)=some .globalImplicit:=slf.2.2.2.2.2.2.2.2.2.2.2.2.2.2.2.2.2.2.1
theorem ZaE.mi{Gd:Heap->Prop}{base:Addr->Prop}{mg:Str->Option Value}{fd:FuncData}{o:Obj}{a im:Addr}(slf:ZaE Gd base mg fd o a im):mg ("_initial_missing" : Str)=some (.ref im):=slf.2.2.2.2.2.2.2.2.2.2.2.2.2.2.2.2.2.2.2.1
theorem ZaE.mbs{Gd:Heap->Prop}{base:Addr->Prop}{mg:Str->Option Value}{fd:FuncData}{o:Obj}{a im:Addr}(slf:ZaE Gd base mg fd o a im):base im:=slf.2.2.2.2.2.2.2.2.2.2.2.2.2.2.2.2.2.2.2.2
inductive Zd1 (P:Addr->Prop) (h:Heap) (ds:List D):(Addr->Prop)->Value->Prop
 | list {v:Value}:Rd P h v (.list ds)->Zd1 P h ds (λ_=>False) v
 | iter {I:Addr} {S:Addr->Prop}:It P S h I ds->(∀b,S b->∃o,h.get? b=some o)->¬P I->Zd1 P h ds (λb=>b=I) (.ref I)
theorem Zd1.mono{P P':Addr->Prop}{h h':Heap}{ds:List D}{W:Addr->Prop}{v:Value}(x:Zd1 P h ds W v)(hP:∀a o,h.get? a=some o->P a->P' a)(hI:∀a,P' a->P a)(k:∀b o,h.get? b=some o->h'.get? b=some o):Zd1 P' h' ds W v:=by
 cases x with
 | list r=>exact .list (r.mono λa o _ e p=>⟨hP a o e p,k a o e⟩)
 | iter hit hS hn=>exact .iter ((hit.excl hP).mono λb o _ _ e=>k b o e) (λb hb=>let ⟨o,e⟩:=hS b hb;⟨o,k b o e⟩) λp=>hn (hI _ p)
set_option tactic.hygienic true in
theorem Zok(G:Gr base mg mb Gd){P W:Addr->Prop}{ds:List D}{v:Value}{E Q:Value->Shared->Prop}(x:Zd1 P s.heap ds W v)(o:Ok Gd s)(hb:∀b,W b->¬base b){N:Addr->Prop}(hN:∀b,N b->¬P b)
  (hSN:∀I S,v=.ref I->It P S s.heap I ds->(∀b,S b->∃o,s.heap.get? b=some o)->It P (λb=>S b∧¬N b) s.heap I ds)
  (k:∀I S s',Gw s s'->Ok Gd s'->It (λa=>P a∧a≠I) S s'.heap I ds->(W I∨s.heap.get? I=none)->¬base I->(∀b,S b->¬N b)->Q (.ref I) s'):wpAny (model prog w) A (pyIter v) Q E s:=by
 cases x with
 | list r=>
  refine Zfq (fz:=true) (P:=P) G (.refl s) o r λI s₁ g₁ o₁ hit hI hbI=>?_
  exact k I _ s₁ g₁ o₁ hit (.inr hI) hbI λb hb n=>hN b n (hb.2.2 rfl)
 | iter hit hS hn=>
  rename_i I S
  refine It.self hit (k I _ s (.refl s) o ((hSN I S rfl hit hS).excl λa _ _ p=>⟨p,λq=>hn (q▸p)⟩) (.inl rfl) (hb I rfl) λb hb=>hb.2)
theorem Zio(G:Gr base mg mb Gd){env:Env}(XE:Za9 env){im:Addr}{q1 q2 q3 q4 q5 q6 q7 q8 q9 p1 p2 p3 p4 p5 p6 p7 r1 r2 r3 r4 r5 r6 r7:Pos}{tryS:List Stmt}
  (kit:env.kindOf "iter" = some .globalImplicit) (kim:env.kindOf "_initial_missing" = some .globalImplicit) (him:mg "_initial_missing" = some (.ref im)) (himb:base im)
  {fa:Addr} {n:Nat} {fo:Obj} {ffd:FuncData} {href:Heap} {W P1 P:Addr->Prop} {sem:D->D->Option D} (hst:ZhB prog w Gd (.ref fa) n href W P1 sem)
  (hfd:fo.data=.func ffd) (hfn:NT fo) (hWfa : ¬W fa) (hfo:href.get? fa=some fo) {ds l0:List D} {sv iv:Value} (hsq:Zd1 P s.heap ds W sv) (hb:∀b,W b->¬base b) (hLb : ¬base env.locals) (hLr:href.get? env.locals=none) (hWL : ¬W env.locals) (hPL : ¬P env.locals)
  (hPi:∀x,P1 x->P x) (hPW:∀x,P1 x->¬W x) (hPe:∀x,P1 x->∃o,href.get? x=some o) (hr0:∀b,s.heap.get? b=none->href.get? b=none)
  (hSL:∀I S,sv=.ref I->It P S s.heap I ds->(∀b,S b->∃o,s.heap.get? b=some o)->It P (λb=>S b∧¬b=env.locals) s.heap I ds)
  {d:D} (hd:ZbN sem ds (.list l0)=some d) {E:Value->Shared->Prop} {Q:Flow->Shared->Prop} (L:Lv A n) (ok:Ok Gd s) (hP:Pf P s.heap) (hk:KpB W href s.heap) {m:Str->Option Value} (hn:s.heap.Ns env.locals m)
  (m1:m "function" = some (.ref fa)) (m2:m "sequence" = some sv) (m3:m "initial" = some iv) (hv:Rd P s.heap iv (.list l0)) (hne:iv≠.ref im)
  (k:∀v' s',GwB (λb=>b=env.locals∨W b) s s'->Ok Gd s'->Rd P s'.heap v' d->Q (.ret v') s') :
  wpAny (model prog w) A (execs [.Assign [.Name "it" r1] (.Call (.Name "iter" r2) [.Name "sequence" r3] [] r4) r5,.If (.Compare (.Name "initial" q1) [.Is] [.Name "_initial_missing" q2] q3) tryS [.Assign [.Name "value" q4] (.Name "initial" q5) q6] q7,
   .For (.Name "element" p1) (.Name "it" q8) [.Assign [.Name "value" p2] (.Call (.Name "function" p3) [.Name "value" p4,.Name "element" p5] [] p6) p7] [] q9,
   .Return (some (.Name "value" r6)) r7] env) Q E s:=by
 obtain⟨b1,b2⟩:=G.bi ("iter" : Str) (.builtin "iter") (by simp)
 refine wpAny_execs_cons (wpAny_Assign_Name (wpAny_Call_NameR (Calls.Name_function_global XE.kd kit (Calls.loadGlobal_builtin (XE.gl▸G.g _ ok.gd) b1 (XE.bu▸G.b _ ok.gd) b2 ?_) (by decide))) rfl)
 erw[rwl (Zab (show Zai (.Name "sequence" r3)=true from rfl) ..) (rwl (Zam ..) (rwl (Zah ..) (rwl (Zay ..) ?_)))]
 refine Calls.callWith_builtin rfl (Calls.evalArgs_plain (Calls.spliced_cons (Zb1 XE.kd XE.k2 hn m2 (by decide) (Calls.spliced_nil ?_))))
 refine Calls.call_function_entry (by decide +kernel) (by decide +kernel) kdk_entry_iter (kdk_args_iter _) ?_
 unfold Builtin.«iter»
 refine wpAny_bind (m:=someArgs "iter" 1 2 _) (wpAny_of_eq (a:=[sv]) rfl ?_)
 show wpAny _ _ (pyIter sv >>= _) _ _ _
 refine wpAny_bind (Zok G hsq ok hb (N:=λb=>b=env.locals) (λb e=>by erw[rwl (e ..) ?_];exact hPL) hSL λI S s₁ g₁ o₁ hit hI hbI hSN=>?_)
 refine wpAny_pure ⟨_,rfl,?_⟩
 have hn₁:=Zkk hn g₁.kp
 refine wpAny_storeName_local XE.k4 hn₁ (λh₂ hn₂ hs₂=>?_) (by erw[rwl (XE.kd ..) ?_];rfl)
 have hLI:env.locals≠I:=λq=>hI.elim (λh=>hWL (q▸h)) λh=>let ⟨_,_,_,e,_⟩:=hn;nn (h.symm.trans (q▸e))
 have nV:∀b o,¬(b=env.locals∨W b)->s.heap.get? b=some o->¬(b=env.locals∨b=I):=λb o z e q=>q.elim (λq=>z (.inl q)) λq=>hI.elim (λh=>z (.inr (q▸h))) λh=>nn (h.symm.trans (q▸e))
 have Y:RS (λa=>P a∧a≠I) S base W href env.locals I:=⟨λp=>hPL p.1,λp=>p.2 rfl,λz=>hSN _ z rfl,hLI,hLb,hbI,λb hb=>hb.elim (λq=>.inr (q▸hLr)) λq=>q▸hI.imp id λq=>hr0 _ q⟩
 suffices B₁:RB (λa=>P a∧a≠I) S W Gd href env.locals I s₁ m iv (.list l0) ds s₁ by
  have B₂:=B₁.set (tk:=s₁.toks+1) G Y hs₂.extBut hn₂ (Nat.le_succ_of_le o₁.tk)
  refine Zih G XE hst hfd hfn hWfa hfo Y (λx hx=>⟨hPi x hx,λq=>?_⟩) him himb kim L hd ((if_neg (by decide)).trans m1) ((if_neg (by decide)).trans m3) (if_pos rfl) hne B₂ λv' s' g' o' r'=>?_
  ·exact hI.elim (λh=>hPW x hx (q▸h)) λh=>let ⟨_,e⟩:=hPe x hx;nn ((hr0 _ h).symm.trans (q▸e))
  ·exact k v' s' ⟨λb o n z e=>g'.kp b o n (nV b o z e) (g₁.kp b o n e),λb o z e=>let ⟨o1,e1⟩:=g₁.ex b o e;g'.ex b o1 (nV b o z e) e1,g'.os.trans g₁.os,λq=>g'.gens (g₁.gens q)⟩ o' (r'.mono λa o _ e p=>⟨p.1,e⟩)
 refine⟨hn₁,hv.mono λa o n e p=>⟨⟨p,λq=>?_⟩,g₁.kp a o n e⟩,hit,o₁,λa na=>?_,hk.trans g₁.kp.toB,.refl _ _⟩
 ·by_cases p:P a
  ·have:a=I:=Classical.byContradiction λq=>na ⟨p,q⟩
   obtain⟨o,e,_,n⟩:=hit.mut
   exact⟨o,n,this▸e⟩
  ·exact(hP.kp g₁.kp) a p
 ·rcases hI with hI | hI
  ·cases hsq with
   | list=>exact hI
   | iter _ _ hn'=>exact hn' (by have:a=_:=q.trans (show I=_ from hI);exact this▸p)
  ·exact nn (hI.symm.trans (q▸e))
end
end
section
section
variable {prog:Program}{w:World}{base:Addr->Prop}{mg mb:Str->Option Value}{Gd:Heap->Prop}{A:Around}{s:Shared}
theorem ZiK(G:Gr base mg mb Gd){fd:FuncData}{o:Obj}{a im:Addr}(X:ZaE Gd base mg fd o a im){q1 q2 q3 q4 q5 q6 q7 q8 q9 p1 p2 p3 p4 p5 p6 p7 r1 r2 r3 r4 r5 r6 r7:Pos}{tryS:List Stmt}
  (hbo:fd.body=.stmts [.Assign [.Name "it" r1] (.Call (.Name "iter" r2) [.Name "sequence" r3] [] r4) r5,.If (.Compare (.Name "initial" q1) [.Is] [.Name "_initial_missing" q2] q3) tryS [.Assign [.Name "value" q4] (.Name "initial" q5) q6] q7,
   .For (.Name "element" p1) (.Name "it" q8) [.Assign [.Name "value" p2] (.Call (.Name "function" p3) [.Name "value" p4,.Name "element" p5] [] p6) p7] [] q9,
   .Return (some (.Name "value" r6)) r7])
  {fa:Addr} {n:Nat} {fo:Obj} {ffd:FuncData} {href:Heap} {W P1 P:Addr->Prop} {sem:D->D->Option D} (hst:ZhB prog w Gd (.ref fa) n href W P1 sem)
  (hfd:fo.data=.func ffd) (hfn:NT fo) (hWfa : ¬W fa) (hfo:href.get? fa=some fo) {ds l0:List D} {sv iv:Value} (hsq:Zd1 P s.heap ds W sv) (hb:∀b,W b->¬base b) (hWs:∀b,W b->∃o,s.heap.get? b=some o)
  (hPi:∀x,P1 x->P x) (hPW:∀x,P1 x->¬W x) (hPe:∀x,P1 x->∃o,href.get? x=some o) (hr0:∀b,s.heap.get? b=none->href.get? b=none)
  {d:D} (hd:ZbN sem ds (.list l0)=some d) {R:Result->Shared->Prop} (L:Lv A (n+1)) (ok:Ok Gd s) (hP:Pf P s.heap) (hk:KpB W href s.heap) (hv:Rd P s.heap iv (.list l0)) (hne:iv≠.ref im)
  (k:∀v' s',GwB W s s'->Ok Gd s'->Rd P s'.heap v' d->R (.ok (.ret v')) s') :
  codeAny (model prog w) A (.call (.ref a) ⟨[.ref fa,sv,iv],[]⟩) R s:=by
 refine codeAny_call_function (by have:=L.dp;have e:recursionLimit=1000:=rfl;lia) (X.ob _ ok.gd) X.da X.co X.gen hbo (X.cr _ ok.gd) ?_
 refine X.bi _ _ _ _ _ _ _ _ ok.gd ?_
 erw[rwl (X.cl ..) ?_]
 refine wpAny_newFunctionEnv X.nc (λz hz=>by
  simp only[List.mem_cons,List.not_mem_nil,or_false] at hz
  rcases hz with rfl | rfl | rfl
  ·exact X.k1
  ·exact X.k2
  ·exact X.k3) (λh₁ hns hsb=>?_) X.kd
 have sL:=Zau s.heap
 have hk₁:∀b o,s.heap.get? b=some o->h₁.get? b=some o:=λb o e=>hsb.extBut b o (Nat.ne_of_lt (Heap.lt_size e)) (Heap.get?_push_of_some _ e)
 have g₁:Gw s { s with heap:=h₁,toks:=s.toks+3 }:=.of_keep hk₁
 have o₁:Ok Gd { s with heap:=h₁,toks:=s.toks+3 }:=⟨G.keeps ok.gd hk₁,Nat.le_trans ok.tk (Nat.le_add_right _ _)⟩
 refine⟨G.lim _ o₁.gd,codeAny_func ?_⟩
 have hLb : ¬base s.heap.objs.size:=G.fresh ok.gd sL
 have hWL : ¬W s.heap.objs.size:=λh=>by obtain⟨o,e⟩:=hWs _ h;rw[sL] at e;cases e
 let env:Env:=newEnv fd.scope s.heap.objs.size fd.globals [] (fd.qualname ++ ".<locals>.") (some a) fd.code none fd.builtins
 have hloc:env.locals=s.heap.objs.size:=rfl
 have XE:Za9 env:=⟨X.kd,X.gl,X.bu,X.k1,X.k2,X.k3,X.k4,X.k5,X.k6⟩
 have kit:env.kindOf "iter" = some .globalImplicit:=X.k7
 have kim:env.kindOf "_initial_missing" = some .globalImplicit:=X.k8
 let P':Addr->Prop:=λb=>P b∧b≠s.heap.objs.size
 have nl:∀{b o},s.heap.get? b=some o->b≠s.heap.objs.size:=λ{b o} e q=>by rw[q,sL] at e;cases e
 have up:∀a o,NT o->s.heap.get? a=some o->P a->P' a∧h₁.get? a=some o:=λa o _ e p=>⟨⟨p,nl e⟩,hk₁ a o e⟩
 have nh:∀b,h₁.get? b=none->s.heap.get? b=none:=λb e=>by
  cases q:s.heap.get? b with
  | none=>rfl
  | some o=>rw[hk₁ b o q] at e;cases e
 refine Zio (env:=env) (s:={ s with heap:=h₁,toks:=s.toks+3 }) (P:=P') (W:=W) (P1:=P1) (href:=href) (im:=im) (sv:=sv) (iv:=iv) (l0:=l0) (ds:=ds) (d:=d) G XE kit kim X.mi X.mbs hst hfd hfn hWfa hfo
  (hsq.mono (λa o e p=>⟨p,nl e⟩) (λ_ p=>p.1) hk₁) hb hLb (hr0 _ sL) hWL (λp=>p.2 rfl) (λx hx=>⟨hPi x hx,λq=>by obtain⟨o,e⟩:=hPe x hx;rw[q,hr0 _ sL] at e;cases e⟩) hPW hPe (λb e=>hr0 b (nh b e)) ?_ hd ⟨L.hd,by have:=L.dp;show A.depth+1+n<=900;lia,by have:=L.un;show A.units+3+3 * n<=9000;lia⟩ o₁ ?_ (λb o n z e=>hk₁ b o (hk b o n z e)) hns ?_ ?_ ?_ (hv.mono up) hne λv' s' g' o' r'=>?_
 ·rintro I S rfl hit hS
  cases hit with
  | list hi hl hne hs hr=>exact .list hi hl hne ⟨hs,λq=>Zbx hns (q▸hl) rfl⟩ hr
  | range hi=>exact .range hi
 ·intro b nb
  by_cases p:P b
  ·have:b=s.heap.objs.size:=Classical.byContradiction λq=>nb ⟨p,q⟩
   subst this
   obtain⟨o,e,_,n⟩:=Mut.ns hns
   exact⟨o,n,e⟩
  ·obtain⟨o,n,e⟩:=hP b p
   exact⟨o,n,hk₁ _ _ e⟩
 ·rfl
 ·rfl
 ·rfl
 ·refine k v' s' ⟨λb o n z e=>g'.kp b o n (λq=>q.elim (λq=>nl e q) z) (hk₁ b o e),λb o z e=>g'.ex b o (λq=>q.elim (λq=>nl e q) z) (hk₁ b o e),g'.os,g'.gens⟩ o' (r'.mono λa o _ e p=>⟨p.1,e⟩)
end
end
section
section
variable {prog:Program}{w:World}{base:Addr->Prop}{mg mb:Str->Option Value}{Gd:Heap->Prop}{Γ:ZaC}{fn:Nat->Str}{fa:Nat->Addr}{n:Nat}
theorem Zui{nm0 qual y z:Str}{yp zp:Pos}{body:Expr}{scope:Scope}{cl:List (Str×Addr)}{pm cv ctv v u:Value}(h:y≠z):bindArgs (kla_fn nm0 qual ⟨[],[⟨y,none,yp⟩,⟨z,none,zp⟩],none,[],[],none,[]⟩ body scope cl pm cv ctv) ⟨[v,u],[]⟩=pure [(y,v),(z,u)]:=
 Zq3 (as:=[⟨y,none,yp⟩,⟨z,none,zp⟩]) rfl rfl rfl (List.nodup_cons.mpr ⟨λm=>h (List.mem_singleton.mp m),List.nodup_cons.mpr ⟨List.not_mem_nil,List.nodup_nil⟩⟩) rfl
theorem Znd(G:Gr base mg mb Gd)(C:Zak prog w Gd mg Γ fn fa n){x:X}{y z u nm0 qual:Str}{yp zp:Pos}{body:Expr}{scope:Scope}{c:Addr}{f cc:Addr}{oc:Obj}{vsc:Array Value}{tc:Tok}{pm ctv nv:Value}{dn:D}{href:Heap}{W P1:Addr->Prop}
  (hyz:y≠z) (hx:x.fz=true) (hm:mt [u,y,z] fn scope true x body=true) (hco:scope.isCoroutine=false) (hge:scope.isGenerator=false) (hkd:scope.kind=.function) (hnc:∀p∈scope.names,p.2≠.cell) (ky:scope.names.lookup y=some .local) (kz:scope.names.lookup z=some .local) (ku:scope.names.lookup u=some .free)
  (hfo:href.get? f=some { cls:=.type "function",data:=.func (kla_fn nm0 qual ⟨[],[⟨y,none,yp⟩,⟨z,none,zp⟩],none,[],[],none,[]⟩ body scope [(u,c)] pm (.ref cc) ctv) }) (hoc:href.get? cc=some oc) (hcc:oc.cls=.type "code") (hcd:oc.data=.fields vsc) (hcq:vsc[1]? = some (.str qual tc))
  (hcell:href.IsCell c (some nv)) (hnv:Rd P1 href nv dn) (hW : ¬W f∧¬W cc∧¬W c) (hPW:∀a,P1 a->¬W a):ZhB prog w Gd (.ref f) (n+1) href W P1 (λa b=>ev Γ [.fz dn,.fz a,.fz b] x):=by
 intro a b d hd A P s va vb E Q L ok hk hP hP1 ra rb k
 have ntf:NT ({ cls:=.type "function",data:=.func (kla_fn nm0 qual ⟨[],[⟨y,none,yp⟩,⟨z,none,zp⟩],none,[],[],none,[]⟩ body scope [(u,c)] pm (.ref cc) ctv) }:Obj):=.ZaD rfl
 have hf:=hk _ _ ntf hW.1 hfo
 have hcs:=hk _ _ (.ZaD hcc) hW.2.1 hoc
 have hcell':s.heap.IsCell c (some nv):=let ⟨o,e,hd⟩:=hcell;⟨o,hk _ _ (.ZgP hd) hW.2.2 e,hd⟩
 have hnv':Rd P s.heap nv dn:=hnv.mono λa o n e p=>⟨hP1 a p,hk a o n (hPW a p) e⟩
 refine wpAny_call (kla_callFunE (by have:=L.dp;have e:recursionLimit=1000:=rfl;lia) hf rfl hco hge rfl ⟨cc,oc,vsc,tc,rfl,hcs,hcd,hcq⟩ ?_)
 refine wpAny_of_eq (Zui hyz) ?_
 refine wpAny_newFunctionEnv hnc (λp hp=>?_) (λh₁ hns hsb=>?_) hkd
 ·simp only[List.mem_cons,List.not_mem_nil,or_false] at hp
  rcases hp with rfl | rfl
  ·exact ky
  ·exact kz
 have sL:=Zau s.heap
 have nl:∀{b o},s.heap.get? b=some o->b≠s.heap.objs.size:=λ{b o} e q=>by rw[q,sL] at e;cases e
 have hk₁:∀b o,s.heap.get? b=some o->h₁.get? b=some o:=λb o e=>hsb.extBut b o (nl e) (Heap.get?_push_of_some _ e)
 have g₁:Gw s { s with heap:=h₁,toks:=s.toks+2 }:=.of_keep hk₁
 have ok₁:Ok Gd { s with heap:=h₁,toks:=s.toks+2 }:=⟨G.keeps ok.gd hk₁,Nat.le_trans ok.tk (Nat.le_add_right _ _)⟩
 refine⟨G.lim _ ok₁.gd,kla_codeExpr ?_⟩
 let P':Addr->Prop:=λb=>P b∧b≠s.heap.objs.size
 have up:∀a o,NT o->s.heap.get? a=some o->P a->P' a∧h₁.get? a=some o:=λa o _ e p=>⟨⟨p,nl e⟩,hk₁ a o e⟩
 have hP':Pf P' h₁:=λb nb=>by
  by_cases p:P b
  ·have:b=s.heap.objs.size:=Classical.byContradiction λq=>nb ⟨p,q⟩
   subst this
   obtain⟨o,e,_,n⟩:=Mut.ns hns
   exact⟨o,n,e⟩
  ·obtain⟨o,n,e⟩:=hP b p
   exact⟨o,n,hk₁ _ _ e⟩
 have my:([(y,va),(z,vb)]:List (Str×Value)).reverse.lookup y=some va:=by simp[List.lookup,beq_eq_false_iff_ne.mpr hyz]
 have mz:([(y,va),(z,vb)]:List (Str×Value)).reverse.lookup z=some vb:=by simp[List.lookup]
 have e:ZaO (newEnv scope s.heap.objs.size mainGlobals [(u,c)] (qual ++ ".<locals>.") (some f) (.ref cc) none builtinsNs) scope [u,y,z] P' [.fz dn,.fz a,.fz b] h₁:=by
  have v0:Zb0 (newEnv scope s.heap.objs.size mainGlobals [(u,c)] (qual ++ ".<locals>.") (some f) (.ref cc) none builtinsNs) h₁ u nv:=.inr ⟨.inr ku,c,by simp[newEnv,List.lookup],let ⟨o,e,hd⟩:=hcell';⟨o,hk₁ _ _ e,hd⟩⟩
  have v1:Zb0 (newEnv scope s.heap.objs.size mainGlobals [(u,c)] (qual ++ ".<locals>.") (some f) (.ref cc) none builtinsNs) h₁ y va:=.inl ⟨ky,_,hns,my⟩
  have v2:Zb0 (newEnv scope s.heap.objs.size mainGlobals [(u,c)] (qual ++ ".<locals>.") (some f) (.ref cc) none builtinsNs) h₁ z vb:=.inl ⟨kz,_,hns,mz⟩
  refine⟨rfl,hkd,rfl,rfl,λn h=>absurd rfl (hnc _ (mem_lookup h)),λi d h=>?_,λi d h=>?_⟩
  ·match i,h with
   | 0,h=>cases h;exact⟨u,nv,rfl,v0,hnv'.mono up⟩
   | 1,h=>cases h;exact⟨y,va,rfl,v1,ra.mono up⟩
   | 2,h=>cases h;exact⟨z,vb,rfl,v2,rb.mono up⟩
   | i+3,h=>cases h
  ·match i,h with
   | 0,h=>cases h;exact⟨u,nv,rfl,v0,.of (hnv'.mono up)⟩
   | 1,h=>cases h;exact⟨y,va,rfl,v1,.of (ra.mono up)⟩
   | 2,h=>cases h;exact⟨z,vb,rfl,v2,.of (rb.mono up)⟩
   | i+3,h=>cases h
 refine(ZaI (base:=base) G C x).e scope true body _ _ _ P' _ _ _ d hm e ⟨L.hd,by have:=L.dp;show A.depth+1+n<=900;lia,by have:=L.un;show A.units+3+3 * n<=9000;lia⟩ ok₁ hP' hd λv s' g' o' r'=>?_
 exact k v s' (g₁.trans g') o' ((RdX.str hx r').mono λa o _ e p=>⟨p.1,e⟩)
end
end
section
section
variable {prog:Program}{w:World}{A:Around}{s:Shared}{P S:Addr->Prop}{base:Addr->Prop}{mg mb:Str->Option Value}{Gd:Heap->Prop}{Γ:ZaC}{fn:Nat->Str}{fa:Nat->Addr}{n:Nat}
theorem Zj1{f:D->D->Option D}{d:D}{r:Option D}(h:ZeG f d=some r):∃a b z,d=.tuple [a,b]∧f a b=some z∧r=some z:=
 Zo0 (show Zrr (two λa b=>(f a b).map some) d=some r from h) λl h=>Zt7 h λa b h=>Zdy h λz h e=>⟨a,b,z,rfl,h,e.symm⟩
set_option tactic.hygienic true in
theorem let_go{I T:Addr}{ds:List D}{elts:List Expr}{x1:Nat}{pos:Pos}{E:Value->Shared->Prop}{Q:Unit->Shared->Prop}(x:It P S s.heap I ds)(hQ:Q () s) :
  wpAny (model prog w) A (letOwnedTupleGo (.Tuple elts x1 pos) (.ref I) (.ref T)) Q E s:=by
 cases x with
 | list hi=>exact wpAny_letOwnedTupleGo_listiter hi hQ
 | range hi=>
  rename_i x n st
  unfold letOwnedTupleGo
  refine wpAny_bind (wpAny_load hi ?_)
  refine wpAny_ite_split (λh=>?_) λ_=>wpAny_pure hQ
  rw[show(["enumerate","zip","dict_itemiterator","dict_reverseitemiterator","odict_iterator","itertools.zip_longest","itertools.pairwise"].contains "range_iterator")=false from by decide,Bool.false_and] at h
  cases h
theorem Zku(G:Gr base mg mb Gd)(hh:A.handled=none){R:Result->Shared->Prop}{elt iter:Expr}{x y:Str}{px py pt:Pos}{kk:Nat}{scope:Scope}{pos:Pos}{I Dd:Addr}{cenv:Env}{f:D->D->Option D}{total:List D}{N:Nat}{s₀:Shared}
  (hN:N<=sizeLine) (W:CA P S base s.heap cenv.locals I Dd) (hxy:x≠y) (hx:cenv.kindOf x=some .local) (hy:cenv.kindOf y=some .local) (hk:cenv.scope.kind=.function)
  (hb:∀a b va vb s₁ m₁ r E' (Qs:Value->Shared->Prop),f a b=some r->Ok Gd s₁->Pf P s₁.heap->s₁.heap.Ns cenv.locals m₁->m₁ x=some va->m₁ y=some vb->Rd P s₁.heap va a->Rd P s₁.heap vb b->
   (∀vy s₂,Gw s₁ s₂->Ok Gd s₂->Rd P s₂.heap vy r->Qs vy s₂)->wpAny (model prog w) A (eval elt cenv) Qs E' s₁)
  (hR:∀s'' (acc:List Value) m,Gw s s''->Ok Gd s''->s''.heap.PlainList Dd acc.toArray->Zad P s''.heap acc total->s''.heap.Ns cenv.locals m->R (.ok .next) s'')
  {k:Nat} (V:CJ P S Gd (ZeG f) total N cenv.locals I Dd s k s₀) :
  codeAny (model prog w) A (.compLoop (.ListComp elt [⟨.Tuple [.Name x px,.Name y py] kk pt,iter,[],0⟩] scope pos) 0 (.ref I) (.ref Dd) cenv) R s₀:=by
 refine kcp_loop (CJ P S Gd (ZeG f) total N cenv.locals I Dd s) (λk s₀ V=>?_) k V
 obtain⟨ds,ys,dn,acc,m,V,e0⟩:=V
 cases ds with
 | nil=>exact wrap V.o.tk (V.it.done hh λh' he htk=>let ⟨g,o,a,b,c⟩:=V.done G W he htk;hR _ acc m g o a b c)
 | cons d ds=>
  refine wrap V.o.tk (V.it.next W.pI λv h₁ tk₁ rv hit hs₁ htk=>?_)
  obtain⟨da,db,r,ed,hf',er⟩:=Zj1 (show ZeG f d=some _ from(bind_some V.hc).choose_spec.1)
  have rv:=rv.but W.pI hs₁.extBut
  rw[ed] at rv
  revert rv
  refine λrv=>rv.Zc1 λT vs pT hT rvs _=>?_
  revert hT
  refine rvs.Zd0 λva rs ra rr=>rr.Zd0 λvb rn rb rn=>?_
  erw[rwl (rn.nil_inv ..) ?_]
  refine λhT=>let_go hit (wrap (show 1<=tk₁ from htk) (kcp_assign hh hT.isTuple hx hy (by erw[rwl (hk ..) ?_];rfl) (V.ns.extBut hs₁.extBut (Ne.symm W.iC)) λh₂ tk₂ hn₂ hs₂ htk₂=>?_))
  obtain⟨r',zs,hr',V₂⟩:=V.turn (tk:=tk₂) G W hit hs₁.extBut hn₂ hs₂ htk₂
  rw[ed,show ZeG f (.tuple [da,db])=some (some r) from ZgR hf' rfl] at hr'
  rw[←Option.some.inj hr'] at V₂
  refine hb da db va vb _ _ r _ _ hf' V₂.o V₂.hP hn₂ ((if_neg hxy).trans (if_pos rfl)) (if_pos rfl) (ra.but W.pC hs₂) (rb.but W.pC hs₂) λvy s₃ g₃ o₃ ry=>?_
  exact(V₂.gw g₃ o₃).app G W hN ry λdn acc s₁ V₃=>⟨_,e0▸Nat.lt_succ_self _,ds,_,_,_,_,V₃,rfl⟩
theorem Zks(G:Gr base mg mb Gd)(C':Zak prog w Gd mg Γ fn fa n)(L:Lv A n){use:Option (Value->Sem Unit)}{E:Value->Shared->Prop}{Q:Value->Shared->Prop}{env:Env}{sc:Scope}{nm:List Str}{σ:Sg}{scope:Scope}{elt iter:Expr}{y z:Str}{py pz pt pos:Pos}{kk:Nat}{ex:X}{ds ys:List D}
  (x:ZaO env sc nm P σ s.heap) (hP:Pf P s.heap) (ok:ZbT sc nm [] scope=true) (hyz:y≠z) (hy:scope.names.lookup y=some .local) (hz:scope.names.lookup z=some .local) (hset:∀v,foldedSetIterable iter env v=pure v) (hlen:ds.length<=sizeLine)
  (hsrc:∀Q':Value->Shared->Prop,(∀I s₁ S,Gw s s₁->Ok Gd s₁->It (λa=>P a∧a≠I) S s₁.heap I ds->s.heap.get? I=none->¬base I->(∀b,S b->∃ob,s₁.heap.get? b=some ob)->Q' (.ref I) s₁)->
   wpAny (model prog w) A (eval iter env) (λxv s₁=>wpAny (model prog w) A (pyIter xv) Q' E s₁) E s)
  (hm:mt [y,z] fn (ZmM sc scope) false ex elt=true) (hfz:ex.fz=true)
  (hc:ZbQ (ZeG λa b=>ev Γ [.fz a,.fz b] ex) ds=some ys)
  (hU:∀Dd C s' m,Gw s s'->Ok Gd s'->Rd (λa=>P a∧a≠C) s'.heap (.ref Dd) (.list ys)->s.heap.get? Dd=none->s.heap.get? C=none->Dd≠C->¬base C->s'.heap.Ns C m->compPost (model prog w) A E use Q (.ref Dd) C (.ok .next) s') :
  wpAny (model prog w) A (comprehension (.ListComp elt [⟨.Tuple [.Name y py,.Name z pz] kk pt,iter,[],0⟩] scope pos) scope env (firstIterPos [⟨.Tuple [.Name y py,.Name z pz] kk pt,iter,[],0⟩] pos) (newList []) false (eval iter env) use) Q E s:=by
 have sk:=ZaW ok
 refine Zf1 G x hP ok hset hlen hsrc hc hU λP₁ S I Dd C s₁ R W x₁ V hR=>
  Zku (cenv:=compEnvC scope (Zb9 env.cells scope.names []) C env) G L.hd hlen W hyz (lookup_relabel_local hy) (lookup_relabel_local hz) sk.2.2.2.1 (λa b va vb s₂ m₁ r E' Qs hf o₂ hP₂ hn₂ hma hmb ra rb k'=>?_) hR V
 refine(ZaI (base:=base) G C' ex).e (ZmM sc scope) false elt _ [.fz a,.fz b] _ P₁ _ _ _ r hm ⟨ZbP x.scp,sk.2.2.2.1,x.gl,x.bi,λn hn=>?_,λi d e=>?_,λi d e=>?_⟩ L o₂ hP₂ hf λv s' g' o' r'=>k' v s' g' o' (RdX.str hfz r')
 ·obtain⟨h1,h2⟩:=Zfu sk.1 hn
  obtain⟨c,hc⟩:=x.cells n h2
  exact⟨c,(Zbk hc scope.names [] (λ_ e=>nn e)).2 (.inl h1)⟩
 ·match i,e with
  | 0,e=>exact⟨y,va,rfl,.inl ⟨lookup_relabel_local hy,m₁,hn₂,hma⟩,Option.some.inj e▸ra⟩
  | 1,e=>exact⟨z,vb,rfl,.inl ⟨lookup_relabel_local hz,m₁,hn₂,hmb⟩,Option.some.inj e▸rb⟩
  | i+2,e=>exact nn e
 ·match i,e with
  | 0,e=>exact⟨y,va,rfl,.inl ⟨lookup_relabel_local hy,m₁,hn₂,hma⟩,Option.some.inj e▸.of ra⟩
  | 1,e=>exact⟨z,vb,rfl,.inl ⟨lookup_relabel_local hz,m₁,hn₂,hmb⟩,Option.some.inj e▸.of rb⟩
  | i+2,e=>exact nn e
end
end
section
noncomputable abbrev Zcy(Gd:Heap->Prop)(dm:Addr):Prop:=(∀h,Gd h->∃f:Int->Option Value,h.IntMap dm f∧∀c:Nat,(c∈specials->∃t,f c=some (.str ⟨[92,c].toArray⟩ t))∧(c ∉ specials->f c=none))∧((dm==sysModules)=false)∧(∀h,Gd h->∀o,h.get? dm=some o->o.dict=none∧o.slots = #[])
theorem Zcy.mp{Gd:Heap->Prop}{dm:Addr}(slf:Zcy Gd dm):∀h,Gd h->∃f:Int->Option Value,h.IntMap dm f∧∀c:Nat,(c∈specials->∃t,f c=some (.str ⟨[92,c].toArray⟩ t))∧(c ∉ specials->f c=none):=slf.1
theorem Zcy.ns{Gd:Heap->Prop}{dm:Addr}(slf:Zcy Gd dm):(dm==sysModules)=false:=slf.2.1
theorem Zcy.nd{Gd:Heap->Prop}{dm:Addr}(slf:Zcy Gd dm):∀h,Gd h->∀o,h.get? dm=some o->o.dict=none∧o.slots = #[]:=slf.2.2
section
variable {prog:Program}{w:World}{base:Addr->Prop}{mg mb:Str->Option Value}{Gd:Heap->Prop}{A:Around}{E:Value->Shared->Prop}{s:Shared}{n:Nat}
open PySem.Builtin.Str in
theorem Zun{dm:Addr}(T:Zcy Gd dm){c:Nat}{Q:Mapped->Shared->Prop}(ok:Ok Gd s)(hc:c∈specials)(k:Q (.text ⟨[92,c].toArray⟩) { s with toks:=s.toks+1+1 }):wpAny (model prog w) A (tableLookup (.ref dm) c) Q E s:=by
 obtain⟨f,hm,hf⟩:=T.mp _ ok.gd
 obtain⟨t,ht⟩:=(hf c).1 hc
 unfold tableLookup
 refine wpAny_bind (wpAny_attempt (wpAny_bind (wpAny_mkInt ?_)))
 exact wpAny_getItem_intMap (s:={ s with toks:=s.toks+1 }) hm ht (wpAny_bind (wpAny_of_eq (a:=none) rfl (wpAny_bind (wpAny_of_eq (a:=some ⟨[92,c].toArray⟩) rfl (wpAny_pure k)))))
open PySem.Builtin.Str in
theorem Zs9{dm:Addr}(T:Zcy Gd dm){c:Nat}{Q:Mapped->Shared->Prop}(hh:A.handled=none)(ok:Ok Gd s)(hc:c ∉ specials)
  (k:∀h',(∀b o,s.heap.get? b=some o->h'.get? b=some o)->Q .keep { s with heap:=h',toks:=s.toks+1+1 }):wpAny (model prog w) A (tableLookup (.ref dm) c) Q E s:=by
 obtain⟨f,hm,hf⟩:=T.mp _ ok.gd
 unfold tableLookup
 refine wpAny_bind (wpAny_attempt (wpAny_bind (wpAny_mkInt ?_)))
 refine wpAny_getItem_missing_of (knd:=intKind prog w) (k:=(c:Int)) (f:=f) (s:={ s with toks:=s.toks+1 }) (intKind_is _ _ _ _) T.ns hh (hm.mapOf (T.nd _ ok.gd)) ((hf c).2 hc) λh' e hE=>?_
 obtain⟨h1,h2,ob,t,h3,h4,_⟩:=hE
 refine wpAny_bind (wpAny_isInstance (T := "KeyError") (b:=true) ⟨ob,h3,h4⟩ (by erw[rwl (isSubtype_type ..) ?_];kernel_rfl) ?_)
 erw[rwl (if_pos rfl ..) ?_]
 exact wpAny_bind (wpAny_rule (wpAny_pure (k h' h1)))
theorem ZvB{β:Type}{c:Nat}{b:β}{f:Nat->β->Sem (ForInStep β)}:(forIn (#[c]:Array Nat) b f:Sem β)=f c b >>= λr=>match r with | .done b=>pure b | .yield b=>pure b:=rfl
theorem ZiO(G:Gr base mg mb Gd){dm:Addr}(T:Zcy Gd dm){c:Nat}{t:Tok}{Q:Value->Shared->Prop}(L:Lv A n)(ok:Ok Gd s)
  (k:∀u s',Gw s s'->Ok Gd s'->Q (.str ⟨(Ze6 c).toArray⟩ u) s'):wpAny (model prog w) A (call (.builtin "str.translate") [.str ⟨[c].toArray⟩ t,.ref dm]) Q E s:=by
 refine wpAny_call (codeAny_call_builtin PySem.F.slot_str_translate.plain PySem.F.entry_str_translate (PySem.F.slot_str_translate.check _ _ _ _ _ _ _ _ rfl (PySem.F.args_str_translate_2 _ _) ?_))
 unfold Builtin.«str.translate»
 refine wpAny_bind (wpAny_of_eq (a:=(.str ⟨[c].toArray⟩ t,⟨[c].toArray⟩,.ref dm)) rfl (wpAny_ite_split (λh=>by exact nf h) λ_=>?_))
 have tk:∀m,1<=s.toks+m:=λm=>Nat.le_trans ok.tk (Nat.le_add_right _ _)
 refine wpAny_bind (wpAny_mono (Q:=λb s'=>Gw s s'∧Ok Gd s'∧b.1=[⟨(Ze6 c).toArray⟩]∧b.2.1<=2) ?_ (λb s₁ h=>?_) λ_ _ e=>e)
 ·change wpAny _ _ (forIn (m:=Sem) #[c] _ _) _ _ _
  rw[ZvB]
  refine wpAny_bind (wpAny_ite_split (λh=>by exact nf h) λ_=>?_)
  by_cases hc:c∈specials
  ·have ee:[(⟨(Ze6 c).toArray⟩:Str)]=[⟨[92,c].toArray⟩]:=by rw[Ze6,if_pos hc]
   rw[ee]
   refine wpAny_ite_split (λhf=>wpAny_bind (Zun T ok hc ?_)) λhf=>wpAny_ite_split (λh=>by exact nf h) λ_=>wpAny_bind (Zun T ok hc (wpAny_pure (wpAny_pure ⟨.tok ..,⟨ok.gd,tk 2⟩,rfl,Nat.le_refl _⟩)))
   refine wpAny_bind (wpAny_pure ?_)
   refine wpAny_bind (wpAny_rule ?_)
   refine wpAny_bind (Zun T (s:={ s with toks:=s.toks+1+1 }) ⟨ok.gd,tk 2⟩ hc ?_)
   exact wpAny_pure (wpAny_pure ⟨.tok ..,⟨ok.gd,tk 4⟩,rfl,Nat.le_refl _⟩)
  ·have ee:[(⟨(Ze6 c).toArray⟩:Str)]=[⟨[c].toArray⟩]:=by rw[Ze6,if_neg hc]
   rw[ee]
   refine wpAny_ite_split (λhf=>wpAny_bind (Zs9 T L.hd ok hc λh' h1=>?_)) λhf=>wpAny_ite_split (λh=>by exact nf h) λ_=>wpAny_bind (Zs9 T L.hd ok hc λh' h1=>wpAny_pure (wpAny_pure ⟨.of_keep h1,⟨G.keeps ok.gd h1,tk 2⟩,rfl,Nat.le_succ _⟩))
   exact wpAny_bind (wpAny_pure (wpAny_pure (wpAny_pure ⟨.of_keep h1,⟨G.keeps ok.gd h1,tk 2⟩,rfl,Nat.le_succ _⟩)))
 ·obtain⟨g₁,o₁,h1,h2⟩:=h
  refine wpAny_ite_split (λh=>absurd (of_decide_eq_true h) (Nat.not_lt.mpr (Nat.le_trans h2 (Nat.le_of_ble_eq_true rfl)))) λ_=>?_
  rw[h1]
  refine wpAny_bind (wpAny_mkStr ?_ ?_)
  ·rw[show(⟨([⟨(Ze6 c).toArray⟩]:List Str).reverse.foldl (λacc p=>acc++p.cps) #[]⟩:Str)=⟨(Ze6 c).toArray⟩ from congrArg Str.mk Array.empty_append]
   exact wpAny_pure (k _ _ (g₁.trans (.tok ..)) ⟨o₁.gd,Nat.le_succ_of_le o₁.tk⟩)
  ·rw[show(⟨([⟨(Ze6 c).toArray⟩]:List Str).reverse.foldl (λacc p=>acc++p.cps) #[]⟩:Str)=⟨(Ze6 c).toArray⟩ from congrArg Str.mk Array.empty_append,str_len,Ze6]
   by_cases hc:c∈specials
   ·rw[if_pos hc];exact Nat.le_of_ble_eq_true rfl
   ·rw[if_neg hc];exact Nat.le_of_ble_eq_true rfl
end
end
section
section
variable {prog:Program}{w:World}{base:Addr->Prop}{mg mb:Str->Option Value}{Gd:Heap->Prop}{A:Around}{E:Value->Shared->Prop}{s:Shared}{n:Nat}
set_option tactic.hygienic true in
theorem Zr4(G:Gr base mg mb Gd){dm:Addr}(T:Zcy Gd dm)(hdm:mg "_special_chars_map" = some (.ref dm)){fd:FuncData}{o:Obj}{a:Addr}{q1 q2 q3 q4 q5 q6 q7 q8 q9 q10:Pos}{elseS:List Stmt}
  (Df:Zbi Gd fd o a [.If (.Call (.Name "isinstance" q1) [.Name "pattern" q2,.Name "str" q3] [] q4) [.Return (some (.Call (.Attribute (.Name "pattern" q5) "translate" q6) [.Name "_special_chars_map" q7] [] q8)) q9] elseS q10] ["pattern"])
  (hln:(q6.endLine==q8.line)=true) {sc:Scope} (hsc:fd.scope=sc) (k1:ZcC sc "isinstance" = true) (k2:ZcC sc "str" = true) (k3:ZcC sc "_special_chars_map" = true):Zan prog w Gd a (n+1) ZjN:=by
 subst hsc
 intro ds d hd A P s vs R L ok hP hr k
 unfold ZjN at hd
 split at hd
 ·rename_i c
  cases hd
  refine Zcj (nm:=["pattern"]) G Df ⟨[],rfl⟩ (by decide) rfl L ok.gd (.inl ok.tk) hP hr λA' F ad s₁ E e1 e2 e3 e4 e5 e6 H L' f _=>?_
  have Gf:Gr F.base mg mb F.Gd:=by rw[e1,e2];exact G
  have Tf:Zcy F.Gd dm:=by rw[e2];exact T
  obtain⟨y,v,hy,hv,hrv⟩:=(f.ZcE H).vars 0 (.str [c]) (by simp[ZeV];rfl)
  rw[e4] at hy
  cases hy
  obtain⟨hl,t,rfl⟩:=hrv.str_inv
  have x:=f.ZcE H
  rw[e3] at x
  refine wpAny_execs_cons (wpAny_If ?_)
  refine wpAny_isTrue_value (wpAny_Call_NameR (ZcL Gf f.ok.gd x k1 (v:=.builtin "isinstance") (by simp) (by decide) ?_)) rfl
  rw[Zab (show Zai (.Name "pattern" q2)=true from rfl),Zab (show Zai (.Name "str" q3)=true from rfl),Zam,Zah,Zah,Zay]
  refine Calls.callWith_builtin rfl (Calls.evalArgs_plain (Calls.spliced_cons (Zcu (by rw[H.scp];exact H.kf) hv (by decide) (by decide) (Calls.spliced_cons (ZcL Gf f.ok.gd x k2 (v:=.type "str") (by simp) (by decide) (Calls.spliced_nil ?_))))))
  refine PySem.IsiPair.str_str ?_
  refine wpAny_truthy_bool ?_
  refine wpAny_execs_cons (wpAny_Return_some (wpAny_Call_method (T := "str") (id := "str.translate") (ZaQ rfl) rfl hln PySem.F.plainAttrs_str PySem.F.slot_str_translate PySem.F.type_str_translate
   (Zcu (by rw[H.scp];exact H.kf) hv (by decide) (by decide) ⟨rfl,Zbw,?_⟩)))
  rw[Zab (show Zai (.Name "_special_chars_map" q7)=true from rfl),Zam,Zah,Zay]
  refine Calls.callWith_builtin rfl (Calls.evalArgs_plain (Calls.spliced_cons (ZcR Gf f.ok.gd x k3 hdm (by decide) (Calls.spliced_nil ?_))))
  refine ZiO Gf Tf L' f.ok λu s' g' o'=>?_
  have g:=f.gw.trans g'
  rw[e6] at g
  rw[e2] at o'
  exact k _ _ g o' (.str _ _ (by rw[szv,Ze6];split<;>simp))
 ·cases hd
end
end
section
set_option maxRecDepth 100000
theorem mro_object:mroOf (.type "object")=pure [.type "object"]:=by erw[rwl (mroOf_type ..) ?_];kernel_rfl
theorem Zgv:PySem.Slot "object" "__init__" "object.__init__" :=
 .of (owner := "object") (n := "__init__") (by erw[rwl (typeLookup_type ..) (rwl (builtinLookup_eq_fast ..) ?_)];kernel_rfl) (by decide +kernel) (by decide +kernel) (by decide +kernel)
  (by first | exact .inl (by decide +kernel) | exact .inr (by decide +kernel)) (by erw[rwl (isSubtype_type ..) ?_];kernel_rfl)
theorem ZfI:typeLookup (.type "object") "__new__" = pure (some (.builtin "object.__new__")):=by erw[rwl (typeLookup_type ..) (rwl (builtinLookup_eq_fast ..) ?_)];kernel_rfl
theorem Zj0:TypeCalled "object" "object.__new__" "object.__init__" :=
 ⟨by decide +kernel,by decide +kernel,⟨_,_,mro_object⟩,madeBy_type mro_object ZfI (by decide +kernel),by decide +kernel,by erw[rwl (isSubtype_type ..) ?_];kernel_rfl,Zgv⟩
theorem ZrD:checkTypeCall "object" ⟨[],[]⟩=pure ():=by kernel_rfl
theorem Zsi:checkBuiltinCall "object.__new__" ⟨[.type "object"],[]⟩=pure ():=by kernel_rfl
theorem ZgK:entryFor table "object.__new__" = some Builtin.«object.__new__» := entryFor_of_tree (by kernel_rfl)
theorem Zgl(v:Value):argsOk "object.__init__" ⟨[v],[]⟩:=by unfold argsOk;kernel_rfl
theorem Zng:Bind.madeHere "object.__new__" (.type "object")=pure ():=by kernel_rfl
theorem Zkz:(Manifest.find? "object").elim false (λt=>t.mro.any λt=>(Manifest.find? t).elim false (·.noNew))=false:=by decide +kernel
theorem Zn7:typeHasDict (.type "object")=false:=by decide +kernel
theorem Zrn:diesByItsTypesDel "object" = false:=by decide +kernel
theorem ZgF:Meets (Builtin.«object.__new__» ⟨[.type "object"],[]⟩) (λ_ R s=>R (.ok (.ret (.ref s.heap.objs.size))) { s with heap:=s.heap.push { cls:=.type "object" } }):=by
 refine Meets.of_wp λprog w A R s hs=>?_
 unfold Builtin.«object.__new__»
 dsimp only
 refine wpAny_bind (wpAny_of_eq (a:=true) rfl ?_)
 refine wpAny_ite_split (λh=>by cases h) λ_=>?_
 refine wpAny_ite_split (λh=>absurd h (by erw[rwl (Zkz ..) ?_];decide)) λ_=>?_
 refine wpAny_bind (wpAny_of_eq Zng ?_)
 refine wpAny_ite_split (λh=>by cases h) λ_=>?_
 refine wpAny_ite_split (λh=>absurd h (by erw[rwl (Zn7 ..) ?_];decide)) λ_=>?_
 refine wpAny_bind (wpAny_pure ?_)
 refine wpAny_bind (wpAny_newObj_type ?_)
 refine wpAny_ite_split (λh=>absurd h (by erw[rwl (Zrn ..) ?_];decide)) λ_=>?_
 exact wpAny_pure ⟨_,rfl,hs⟩
theorem ZfE(v:Value):Meets (Builtin.«object.__init__» ⟨[v],[]⟩) (λ_ R s=>R (.ok (.ret .none)) s):=by
 refine Meets.of_wp λprog w A R s hs=>?_
 exact wpAny_pure ⟨_,rfl,hs⟩
theorem ZiU{prog:Program}{w:World}{A:Around}{E Q:Value->Shared->Prop}{s:Shared}(k:Q (.ref s.heap.objs.size) { s with heap:=s.heap.push { cls:=.type "object" } }):wpAny (model prog w) A (call (.type "object") []) Q E s:=by
 refine callType_meets (Q₁:=λv s₁=>s₁.TypeIs v "object" ∧ Q v s₁) Zj0 ZrD Zsi ZgK F.entry_object_init ZgF ?_ λobj s₁ h=>⟨h.1,Zgl _,_,ZfE _,rfl,h.2⟩
 exact⟨⟨_,Heap.get?_push_size _ rfl,rfl⟩,k⟩
end
section
section
variable {prog:Program}{w:World}{base:Addr->Prop}{mg mb:Str->Option Value}{Gd:Heap->Prop}{Γ:ZaC}{fn:Nat->Str}{fa:Nat->Addr}{n N:Nat}{A:Around}{s:Shared}
theorem Zuy(G:Gr base mg mb Gd)(C:Zak prog w Gd mg Γ fn fa n){fd:FuncData}{o:Obj}{a:Addr}{q1 q2 q3 q4:Pos}{rest:List Stmt}{st:S}{sem:List D->Option D}{p0:Str}{nms:List Str}
  (Df:Zbi Gd fd o a (.Assign [.Name "STAR" q1] (.Call (.Name "object" q2) [] [] q3) q4::rest) [p0]) (hnd:(p0 :: "STAR" :: nms).Nodup) {sc:Scope} (hsc:fd.scope=sc) (k1:ZcC sc "object" = true) (ks:sc.names.lookup ("STAR" : Str)=some .local)
  (hm:ms (p0 :: "STAR" :: nms) fn sc st rest=true) (hst:st.Zcw []=true)
  (hsem:∀ds d,sem ds=some d->∃x,ds=[x]∧∀g:Addr,∃σ',ex Γ N st ((ZeV (nms.length+2) [x]).set 1 (.fz (.obj g)))=some (.ret d,σ')):Zan prog w Gd a (n+1) sem:=by
 subst hsc
 intro ds d hd A P s vs R L ok hP hr k
 obtain⟨x,rfl,hx⟩:=hsem ds d hd
 refine Zcj (nm:=p0 :: "STAR" :: nms) G Df ⟨"STAR" :: nms,rfl⟩ hnd rfl L ok.gd (.inl ok.tk) hP hr λA' F ad s₁ E e1 e2 e3 e4 e5 e6 H L' f _=>?_
 have Gf:Gr F.base mg mb F.Gd:=by erw[rwl (e1 ..) (rwl (e2 ..) ?_)];exact G
 have Cf:Zak prog w F.Gd mg Γ fn fa n:=by erw[rwl (e2 ..) ?_];exact C
 have xx:=f.ZcE H
 rw[e3] at xx
 refine wpAny_execs_cons (wpAny_Assign_Name (wpAny_Call_NameR (ZcL Gf f.ok.gd xx k1 (v:=.type "object") (by simp) (by decide) ?_)) rfl)
 erw[rwl (Zam ..) (rwl (Zay ..) ?_)]
 refine PySem.callWith_type rfl (wpAny_of_eq (a:=⟨[],[]⟩) rfl ?_)
 refine ZiU ?_
 have sg:=Zau s₁.heap
 have kk:∀b ob,s₁.heap.get? b=some ob->(s₁.heap.push { cls:=.type "object" }).get? b=some ob:=λ_ _ e=>Heap.get?_push_of_some _ e
 have g₁:Gw s₁ { s₁ with heap:=s₁.heap.push { cls:=.type "object" } }:=.of_keep (tk:=s₁.toks) kk
 have f₁:=f.grow g₁ ⟨G.keeps (e2▸f.ok.gd) kk |> λh=>by erw[rwl (e2 ..) ?_];exact h,f.ok.tk⟩
 have hg:(s₁.heap.push { cls:=.type "object" }).get? s₁.heap.objs.size=some { cls:=.type "object" }:=Heap.get?_push_size _ rfl
 generalize s₁.heap.objs.size=g at *
 refine f₁.Zc0 (i:=1) (y := "STAR") (d:=.obj g) Gf H (by erw[rwl (e4 ..) ?_];rfl) (by erw[rwl (e3 ..) ?_];exact .inl ks) (.obj ((f.pf H).fresh sg) hg (.ZaD rfl)) λs₂ f₂ t₂=>?_
 obtain⟨σ',hex⟩:=hx g
 refine(ZjF (xs:=[]) (N:=N) Gf H Cf (λ_ _ _ _ _ _ _ h=>nomatch h) (λ_ _ _ _ h=>nomatch h) st hst).2 rest _ ad _ A' s₂ E _ _ σ' (by erw[rwl (e3 ..) (rwl (e4 ..) ?_)];exact hm) L' f₂ hex λv s' g' o' r'=>?_
 rw[e6] at g'
 rw[e2] at o'
 rw[e5] at r'
 exact k v s' g' o' r'
end
end
section
noncomputable abbrev ZeB(Gd:Heap->Prop)(c P:Addr)(xs:List (Pos×Str))(mg:Str->Option Value):Prop:=(∀h,Gd h->Za5 c P xs h)∧(∀h h',Gd h->Kp h h'->(∀b o,b≠P->h.get? b=some o->h'.get? b=some o)->Za5 c P xs h'->Gd h')∧(mainGlobals≠P)∧(∀h,Gd h->h.BuiltinsAt mg P)∧(∀pq∈xs,∀pq'∈xs,pq.1.line=pq'.1.line->pq.1.col=pq'.1.col->pq.2=pq'.2)
theorem ZeB.tab{Gd:Heap->Prop}{c P:Addr}{xs:List (Pos×Str)}{mg:Str->Option Value}(slf:ZeB Gd c P xs mg):∀h,Gd h->Za5 c P xs h:=slf.1
theorem ZeB.set{Gd:Heap->Prop}{c P:Addr}{xs:List (Pos×Str)}{mg:Str->Option Value}(slf:ZeB Gd c P xs mg):∀h h',Gd h->Kp h h'->(∀b o,b≠P->h.get? b=some o->h'.get? b=some o)->Za5 c P xs h'->Gd h':=slf.2.1
theorem ZeB.nP{Gd:Heap->Prop}{c P:Addr}{xs:List (Pos×Str)}{mg:Str->Option Value}(slf:ZeB Gd c P xs mg):mainGlobals≠P:=slf.2.2.1
theorem ZeB.bi{Gd:Heap->Prop}{c P:Addr}{xs:List (Pos×Str)}{mg:Str->Option Value}(slf:ZeB Gd c P xs mg):∀h,Gd h->h.BuiltinsAt mg P:=slf.2.2.2.1
theorem ZeB.hu{Gd:Heap->Prop}{c P:Addr}{xs:List (Pos×Str)}{mg:Str->Option Value}(slf:ZeB Gd c P xs mg):∀pq∈xs,∀pq'∈xs,pq.1.line=pq'.1.line->pq.1.col=pq'.1.col->pq.2=pq'.2:=slf.2.2.2.2
section
variable {prog:Program}{w:World}{base:Addr->Prop}{mg mb:Str->Option Value}{Gd:Heap->Prop}{Γ:ZaC}{fn:Nat->Str}{fa:Nat->Addr}{n N:Nat}
theorem ZeB.odd{F:Fp}{c P:Addr}{xs:List (Pos×Str)}(x:ZeB Gd c P xs mg)(e:F.Gd=Gd)(hc:F.env.code=.ref c):Odd F c P xs mg:=by
 subst e
 exact⟨hc,x.tab,x.set,x.nP,x.bi,x.hu⟩
set_option tactic.hygienic true in
theorem Zpr(G:Gr base mg mb Gd)(C:Zak prog w Gd mg Γ fn fa n){c P:Addr}{xs:List (Pos×Str)}(O:ZeB Gd c P xs mg)(hn:6<=n){fd:FuncData}{o:Obj}{a:Addr}{body:List Stmt}{ps nm:List Str}{st:S}(Df:Zbi Gd fd o a body ps)(hc:fd.code=.ref c){ys:List (Nat×Nat×Bool)}
  (hqT:∀gl gc,(gl,gc,true)∈ys->∃pq∈xs,pq.1.line=gl∧pq.1.col=gc∧pq.2=(fd.qualname ++ ".<locals>.")++("<genexpr>" : Str)) (hqF:∀gl gc,(gl,gc,false)∈ys->∃pq∈xs,pq.1.line=gl∧pq.1.col=gc∧pq.2=(fd.qualname ++ ".<locals>.")++("<lambda>" : Str))
  {pa:Addr} (hpg:mg ("_twin_re_1" : Str)=some (.ref pa)) (hpa:∀h,Gd h->Zef h pa∧∃o,h.get? pa=some o∧o.dict=none)
  {sc:Scope} (hsc:fd.scope=sc) (hnm:∃rest,nm=ps++rest) (hnd:nm.Nodup)
  (hm:ms nm fn sc st body=true) (hst:st.Zcw ys=true):Zan prog w Gd a (n+1) (run Γ N ps.length nm.length st):=by
 subst hsc
 intro ds d hd A P' s vs R L ok hP hr k
 unfold run at hd
 split at hd
 ·rename_i hl
  split at hd
  ·rename_i d' σ' hx
   cases hd
   refine Zcj G Df hnm hnd hl L ok.gd (.inl ok.tk) hP hr λA' F ad s₁ E e1 e2 e3 e4 e5 e6 H L' f hcq=>?_
   have Gf:Gr F.base mg mb F.Gd:=by erw[rwl (e1 ..) (rwl (e2 ..) ?_)];exact G
   have Cf:Zak prog w F.Gd mg Γ fn fa n:=by erw[rwl (e2 ..) ?_];exact C
   have Of:Odd F c P xs mg:=O.odd e2 (hcq.1.trans hc)
   have hpa':∀h,F.Gd h->Zef h pa∧∃o,h.get? pa=some o∧o.dict=none:=by erw[rwl (e2 ..) ?_];exact hpa
   refine(ZjF (xs:=ys) Gf H Cf (λi sep t e it gl gc hg=>Zqa Gf H Of (by lia) (ys:=ys) (λgl gc h=>by erw[rwl (hcq.2 ..) ?_];exact hqT gl gc h) hg) (λi x gl gc hg=>Zrl Gf H (ZaI Gf Cf x) Of hn (ys:=ys) (λgl gc h=>by erw[rwl (hcq.2 ..) ?_];exact hqF gl gc h) hpg hpa' hg) st hst).2 body _ ad _ A' s₁ E _ _ σ' (by erw[rwl (e3 ..) (rwl (e4 ..) ?_)];exact hm) L' f hx λv s' g' o' r'=>?_
   rw[e6] at g'
   rw[e2] at o'
   rw[e5] at r'
   exact k v s' g' o' r'
  ·cases hd
 ·cases hd
end
end
section
set_option backward.match.sparseCases false
section
variable {prog:Program}{w:World}{F:Fp}{K:Addr->Prop}{ad:Nat->Bool->Addr}{σ:Sg}{s s':Shared}{mg mb:Str->Option Value}{Γ:ZaC}{fn:Nat->Str}{fa:Nat->Addr}{n N:Nat}{A:Around}
theorem Zr6(G:Gr F.base mg mb F.Gd)(H:Fs F)(C:Zak prog w F.Gd mg Γ fn fa n){tail:List Stmt}(st:S):∀(es:List Stmt) (K:Addr->Prop) (ad:Nat->Bool->Addr) (σ:Sg) (s:Shared) (E:Value->Shared->Prop) (Q:Flow->Shared->Prop) (fl:Fl) (σ':Sg),st.Zcw []=true->
  ms F.nm fn F.sc st es=true->Lv A n->Fm F K ad σ s->ex Γ N st σ=some (fl,σ')->ZoI F K ad σ s fl σ' (λf s'=>match f with | .next=>wpAny (model prog w) A (execs tail F.env) Q E s' | f=>Q f s')->wpAny (model prog w) A (execs (es++tail) F.env) Q E s:=by
 induction st with
 | skip=>
  intro es K ad σ s E Q fl σ' _ hm L f hv k
  revert k
  exact ZbI hv λk=>ZcB (show es.isEmpty=true from hm) (k ad s f (.refl _ _))
 | seq a b _ ihb=>
  intro es K ad σ s E Q fl σ' hst hm L f hv k
  have hst:=show(a.Zcw []&&b.Zcw [])=true from hst
  refine Zac (show(ex Γ N a σ).bind _=_ from hv) λr h1 hv=>?_
  obtain⟨f1,σ1⟩:=r
  refine Zrx (show bc _ es=true from hm) λe r hm=>Zbg hm λm1 m2=>wpAny_execs_cons ((ZjF (xs:=[]) G H C (λ_ _ _ _ _ _ _ h=>nomatch h) (λ_ _ _ _ h=>nomatch h) a (Zbv hst)).1 _ K ad σ A s E _ f1 σ1 m1 L f h1 ?_)
  revert k
  cases f1 with
  | next=>exact λk ad₁ s₁ f₁ t=>ihb _ K ad₁ σ1 s₁ E Q fl σ' (Za7 hst) m2 L f₁ hv (k.stp t)
  | brk=>exact ZbI hv λk=>k
  | ret d=>exact ZbI hv λk=>k
 | _=>
  intro es K ad σ s E Q fl σ' _ hm
  exact nf hm
theorem Fm.ZvY(H:Fs F)(x:Fm F K ad σ s){I:Addr}(hI:K I)(g:KpB (λb=>b=I) s.heap s'.heap):ZaO F.env F.sc F.nm (λa=>Pq F K ad σ a∨a=I) σ s'.heap:=by
 have hk:=x.kx I hI
 have hv:∀n v,Zb0 F.env s.heap n v->Zb0 F.env s'.heap n v:=λn v h=>by
  rcases h with⟨h1,m,h2,h3⟩ | ⟨h1,c,h2,h3⟩
  ·obtain⟨o,es,ep,e,hd,r⟩:=h2
   exact .inl ⟨h1,m,⟨o,es,ep,g _ _ (.Zeo hd) (λq=>hk.1 q.symm) e,hd,r⟩,h3⟩
  ·obtain⟨o,e,hd⟩:=h3
   exact .inr ⟨h1,c,h2,o,g _ _ (.ZgP hd) (λq=>hk.2.1 n c h2 q.symm) e,hd⟩
 have up:∀a o,NT o->s.heap.get? a=some o->Pq F K ad σ a->(Pq F K ad σ a∨a=I)∧s'.heap.get? a=some o:=λa o n e p=>⟨.inl p,g a o n (λq=>p.2.2 (q▸hI)) e⟩
 have e:=x.ZcE H
 refine⟨e.scp,e.kf,e.gl,e.bi,e.cells,λi d h=>?_,λi d h=>?_⟩
 ·obtain⟨n,v,h1,h2,h3⟩:=e.vars i d h
  exact⟨n,v,h1,hv n v h2,h3.mono up⟩
 ·unfold rdt at h
  revert h
  cases he:σ[i]? with
  | none=>exact λh=>nn h
  | some sl=>
   cases sl with
   | fz d'=>
    refine λh=>eqs h ?_
    obtain⟨n,v,h1,h2,h3⟩:=x.vs i _ he Slot.noConfusion
    exact⟨n,v,h1,hv n v h2,.of (Rd.mono up (show Rd _ _ _ _ from h3.view))⟩
   | own ds=>
    refine λh=>eqs h ?_
    obtain⟨n,v,h1,h2,h3⟩:=x.vs i _ he Slot.noConfusion
    obtain⟨ev,vs,e',r,l⟩:=h3.view
    obtain⟨k,e'⟩:=e'
    exact⟨n,v,h1,hv n v h2,ev▸.own ⟨k,g _ _ (.ZaD rfl) (λq=>(x.own i false ⟨_,he,rfl⟩).2.2.1 (q▸hI)) e'⟩ (r.mono up) l⟩
   | _=>exact λh=>nn h
end
end
section
section
variable {prog:Program}{w:World}{F:Fp}{K:Addr->Prop}{ad:Nat->Bool->Addr}{σ:Sg}{s s':Shared}{mg mb:Str->Option Value}{Γ:ZaC}{fn:Nat->Str}{fa:Nat->Addr}{n N:Nat}{A:Around}
theorem Zl9{Gd:Heap->Prop}{I:Heap->Prop}(C:Zak prog w Gd mg Γ fn fa n)(hI:∀h h',I h->Kp h h'->I h'):Zak prog w (λh=>Gd h∧I h) mg Γ fn fa n:=⟨C.nm,
(λf ds d h=>let ⟨o,fd,h1,h2⟩:=C.ob f ds d h;⟨o,fd,h1,λh x=>h2 h x.1⟩),
(λf ds d h A P s vs R L ok hP hr k=>C.ok f ds d h A P s vs R L ⟨ok.gd.1,ok.tk⟩ hP hr λv s' g o r=>k v s' g ⟨⟨o.gd,hI _ _ ok.gd.2 g.kp⟩,o.tk⟩ r)⟩
theorem Zak.le{Gd:Heap->Prop}{m:Nat}(C:Zak prog w Gd mg Γ fn fa n)(h:n<=m):Zak prog w Gd mg Γ fn fa m:=⟨C.nm,
C.ob,
(λf ds d hd A P s vs R L ok hP hr k=>C.ok f ds d hd A P s vs R (L.le h) ok hP hr k)⟩
theorem Znm(G:Gr F.base mg mb F.Gd)(H:Fs F)(C:Zak prog w F.Gd mg Γ fn fa n)(L:Lv A n)(f:Fm F K ad σ s){E:Value->Shared->Prop}{Q:Flow->Shared->Prop}{i j:Nat}{y a b:Str}{p pa pb pt pos sp:Pos}{kk:Nat}{elt iter:Expr}{scope:Scope}{xc:X}{ds ys:List D}
  (hy:F.nm[i]? = some y) (hk:F.sc.names.lookup y=some .local∨F.sc.names.lookup y=some .cell) (hsw:Zmv F.sc (.ListComp elt [⟨.Tuple [.Name a pa,.Name b pb] kk pt,iter,[],0⟩] scope pos) (.Name y p)=true)
  (ok:ZbT F.sc F.nm [] scope=true) (hab:a≠b) (ha:scope.names.lookup a=some .local) (hb:scope.names.lookup b=some .local) (hpl:Zai iter=true) (hi:mtI F.nm fn F.sc false (.tvar j) iter=true) (hj:rdt σ j=some (.list ds)) (hlen:ds.length<=16777216)
  (hm:mt [a,b] fn (ZmM F.sc scope) false xc elt=true) (hfz:xc.fz=true) (hc:ZbQ (ZeG λa b=>ev Γ [.fz a,.fz b] xc) ds=some ys)
  (k:∀s',Fm F K ad (σ.set i (.fz (.list ys))) s'->Q .next s') :
  wpAny (model prog w) A (exec (.Assign [.Name y p] (.ListComp elt [⟨.Tuple [.Name a pa,.Name b pb] kk pt,iter,[],0⟩] scope pos) sp) F.env) Q E s:=by
 erw[rwl (exec_Assign_Name_used _ _ _ _ (ZjE H hsw) ..) ?_]
 obtain⟨hlen',src⟩:=(ZaI (nm:=F.nm) (base:=F.base) G C (.tvar j)).i F.sc false iter F.env σ A _ s ds hi (f.ZcE H) L f.ok (f.pf H) (by
  show((ev Γ σ (.tvar j)).bind itemsOf)=some ds
  exact Zag hj (if_pos hlen))
 refine wpAny_bind (wpAny_standAt (wpAny_bind ?_))
 refine wpAny_mono (Q:=λ_ s'=>Q .next s') (E:=E) ?_ (λ_ _ q=>wpAny_pure q) λ_ _ e=>e
 show wpAny _ A (do let _ ←comprehension (.ListComp elt [⟨.Tuple [.Name a pa,.Name b pb] kk pt,iter,[],0⟩] scope pos) scope F.env _ (newList []) false (eval iter F.env) (some (assign (.Name y p) F.env))) _ _ s
 refine wpAny_bind (wpAny_mono (Q:=λ_ s'=>Q .next s') (E:=E) ?_ (λ_ _ q=>wpAny_pure q) λ_ _ e=>e)
 refine Zks (use:=some (assign (.Name y p) F.env)) (Q:=λ_ s'=>Q .next s') G C L (f.ZcE H) (f.pf H) ok hab ha hb (ZdV hpl) hlen'
  (λQ' kk=>src E Q' λI s₁ g₁ o₁ hit hI hb=>kk I s₁ _ g₁ o₁ hit hI hb λb hb=>hb.2.1) hm hfz hc λDd C s₁ m g₁ o₁ rr hD hC hDC hCb hnC=>?_
 have f₁:Fm F (λb=>K b∨b=C) ad σ s₁:=f.Zpk g₁ o₁ hC hCb (let ⟨o,e,m,n⟩:=Mut.ns hnC;⟨o,m,n,e⟩)
 have nK : ¬K C:=λz=>by obtain⟨_,_,_,_,o,_,_,e⟩:=f.kx C z;rw[hC] at e;cases e
 refine wpAny_assign_Name (Fm.Zh2 (sl:=.fz (.list ys)) G H (λ_ h=>h) f₁ hy hk (.fz (rr.mono λa o _ e p=>⟨Zlh (sl:=.fz (.list ys)) (λ_ h=>h) ⟨p.1.1,p.1.2.1,λz=>z.elim p.1.2.2 p.2⟩,e⟩)) λh' tk f₂ t₂ keep=>?_)
 have hC2:=f₁.kx C (.inr rfl)
 refine⟨m,?_,λh'' hs=>?_⟩
 ·obtain⟨o,es,ep,e,r⟩:=hnC
  exact⟨o,es,ep,keep C hC2.1 hC2.2.1 o e,r⟩
 ·exact k _ (f₂.ZuZ (tk:=tk) G H nK hs.extBut f₂.ok.tk)
theorem ZmP(G:Gr F.base mg mb F.Gd)(H:Fs F)(C:Zak prog w F.Gd mg Γ fn fa n)(L:Lv A n)(f:Fm F K ad σ s){E:Value->Shared->Prop}{Q:Value->Shared->Prop}{u1 u2:Pos}{e:Expr}{x:X}{ds:List D}(hg:ZcC F.sc "iter" = true)(hp:Zai e=true)(hm:mt F.nm fn F.sc true x e=true)(hf:x.fz=true)(hx:ev Γ σ x=some (.list ds))
  (k:∀I S s',Fm F (λb=>K b∨b=I) ad σ s'->Gw s s'->It (Pq F (λb=>K b∨b=I) ad σ) S s'.heap I ds->(∀b,S b->∃o,s'.heap.get? b=some o)->s.heap.get? I=none->¬F.base I->Q (.ref I) s') :
  wpAny (model prog w) A (eval (.Call (.Name "iter" u1) [e] [] u2) F.env) Q E s:=by
 refine wpAny_Call_NameR (ZcL G f.ok.gd (f.ZcE H) hg (v:=.builtin "iter") (by simp) (by decide) ?_)
 erw[rwl (Zab hp ..) (rwl (Zam ..) (rwl (Zah ..) (rwl (Zay ..) ?_)))]
 refine Calls.callWith_builtin rfl (Calls.evalArgs_plain (Calls.spliced_cons (ZdF H (ZaI G C x) hm hf L f hx λv s₁ f₁ g₁ r₁=>Calls.spliced_nil ?_)))
 refine Calls.call_function_entry (by decide +kernel) (by decide +kernel) kdk_entry_iter (kdk_args_iter _) ?_
 unfold Builtin.«iter»
 refine wpAny_bind (m:=someArgs "iter" 1 2 _) (wpAny_of_eq (a:=[v]) rfl ?_)
 show wpAny _ _ (pyIter v >>= _) _ _ _
 refine wpAny_bind (Zfq (fz:=true) (P:=Pq F K ad σ) G (.refl s₁) f₁.ok r₁ λI s₂ g₂ o₂ hit hI hbI=>?_)
 refine wpAny_pure ⟨_,rfl,?_⟩
 refine k I _ s₂ (f₁.Zpk g₂ o₂ hI hbI (let ⟨o,e,m,n⟩:=hit.mut;⟨o,m,n,e⟩)) (g₁.trans g₂) (hit.excl λa o e p=>⟨p.1.1,p.1.2.1,λz=>z.elim p.1.2.2 p.2⟩) (λb hb=>hb.2.1) (g₁.none hI) hbI
end
end
section
theorem GwB.plain{s s':Shared}(g:GwB (λ_=>False) s s'):Gw s s':=⟨λb o n e=>g.kp b o n id e,λb o e=>g.ex b o id e,g.os,g.gens⟩
theorem ZlD{σ:Sg}{i:Nat}{d:D}(h:i < σ.length):rd (σ.set i (.fz d)) i=some d:=by unfold rd;erw[rwl (List.getElem?_set_self h ..) ?_]
theorem Zif{σ:Sg}{i j:Nat}{sl:Slot}(h:i≠j):rd (σ.set i sl) j=rd σ j:=by unfold rd;erw[rwl (List.getElem?_set_ne h ..) ?_]
theorem Zk4{σ:Sg}{i j:Nat}{sl:Slot}(h:i≠j):rdt (σ.set i sl) j=rdt σ j:=by unfold rdt;erw[rwl (List.getElem?_set_ne h ..) ?_]
section
variable {prog:Program}{w:World}{F:Fp}{K:Addr->Prop}{ad:Nat->Bool->Addr}{σ:Sg}{s s':Shared}{mg mb:Str->Option Value}{Γ:ZaC}{fn:Nat->Str}{fa:Nat->Addr}{n N:Nat}{A:Around}
@[elab_as_elim] theorem Rd.ZkB{P:Addr->Prop}{h:Heap}{v:Value}{a:Addr}{G:Value->Prop}(r:Rd P h v (.obj a))(k:G (.ref a)):G v:=r.ZiX.symm▸k
theorem Zno(H:Fs F)(f:Fm F K ad σ s){c:Addr}{dn:D}(hcl:F.env.cells.lookup ("names" : Str)=some c)(hkn:F.sc.names.lookup ("names" : Str)=some .cell)(hn5:F.nm[5]? = some ("names" : Str))(h5:rd σ 5=some dn) :
  ∃nv,s.heap.IsCell c (some nv)∧Rd (Pq F K ad σ) s.heap nv dn:=by
 obtain⟨y,v,hy,hv,r⟩:=(f.ZcE H).vars 5 dn h5
 rw[hn5] at hy
 rw[←Option.some.inj hy] at hv
 rcases hv with⟨hk,_⟩ | ⟨_,c',h1,h2⟩
 ·rw[Env.kindOf,H.scp,hkn] at hk;exact absurd (Option.some.inj hk) (by decide)
 ·rw[hcl] at h1
  exact⟨v,Option.some.inj h1▸h2,r⟩
noncomputable abbrev Zgh(fn:Nat->Str)(xl:X)(lbody:Expr)(lscope:Scope):Prop:=(xl.fz=true)∧(mt ["names","stack","token"] fn lscope true xl lbody=true)∧(lscope.isCoroutine=false)∧(lscope.isGenerator=false)∧(lscope.kind=.function)∧(∀p∈lscope.names,p.2≠.cell)∧(lscope.names.lookup ("stack" : Str)=some .local)∧(lscope.names.lookup ("token" : Str)=some .local)∧(lscope.names.lookup ("names" : Str)=some .free)
theorem Zgh.fz{fn:Nat->Str}{xl:X}{lbody:Expr}{lscope:Scope}(slf:Zgh fn xl lbody lscope):xl.fz=true:=slf.1
theorem Zgh.mt{fn:Nat->Str}{xl:X}{lbody:Expr}{lscope:Scope}(slf:Zgh fn xl lbody lscope):mt ["names","stack","token"] fn lscope true xl lbody=true:=slf.2.1
theorem Zgh.co{fn:Nat->Str}{xl:X}{lbody:Expr}{lscope:Scope}(slf:Zgh fn xl lbody lscope):lscope.isCoroutine=false:=slf.2.2.1
theorem Zgh.ge{fn:Nat->Str}{xl:X}{lbody:Expr}{lscope:Scope}(slf:Zgh fn xl lbody lscope):lscope.isGenerator=false:=slf.2.2.2.1
theorem Zgh.kd{fn:Nat->Str}{xl:X}{lbody:Expr}{lscope:Scope}(slf:Zgh fn xl lbody lscope):lscope.kind=.function:=slf.2.2.2.2.1
theorem Zgh.nc{fn:Nat->Str}{xl:X}{lbody:Expr}{lscope:Scope}(slf:Zgh fn xl lbody lscope):∀p∈lscope.names,p.2≠.cell:=slf.2.2.2.2.2.1
theorem Zgh.ky{fn:Nat->Str}{xl:X}{lbody:Expr}{lscope:Scope}(slf:Zgh fn xl lbody lscope):lscope.names.lookup ("stack" : Str)=some .local:=slf.2.2.2.2.2.2.1
theorem Zgh.kz{fn:Nat->Str}{xl:X}{lbody:Expr}{lscope:Scope}(slf:Zgh fn xl lbody lscope):lscope.names.lookup ("token" : Str)=some .local:=slf.2.2.2.2.2.2.2.1
theorem Zgh.ku{fn:Nat->Str}{xl:X}{lbody:Expr}{lscope:Scope}(slf:Zgh fn xl lbody lscope):lscope.names.lookup ("names" : Str)=some .free:=slf.2.2.2.2.2.2.2.2
noncomputable def Zl8(prog:Program)(w:World)(F:Fp)(Γ:ZaC)(xl:X)(dn:D)(fl ra:Addr)(n:Nat):Prop:=∀(K:Addr->Prop) (ad:Nat->Bool->Addr) (σ:Sg) (s:Shared) (W:Addr->Prop) (ds l0:List D) (d:D) (sv iv:Value) (A:Around) (R:Result->Shared->Prop),Fm F K ad σ s->(∀b,W b->K b)->Zd1 (Pq F K ad σ) s.heap ds W sv->(∀b,W b->¬F.base b∧∃o,s.heap.get? b=some o)->rd σ 5=some dn->
 ZbN (Zbh Γ dn xl) ds (.list l0)=some d->Rd (Pq F K ad σ) s.heap iv (.list l0)->Lv A (n+2)->(∀v' s',GwB W s s'->Ok F.Gd s'->Rd (Pq F K ad σ) s'.heap v' d->R (.ok (.ret v')) s')->codeAny (model prog w) A (.call (.ref ra) ⟨[.ref fl,sv,iv],[]⟩) R s
theorem ZoC(G:Gr F.base mg mb F.Gd)(H:Fs F)(C:Zak prog w F.Gd mg Γ fn fa n)
  {rfd:FuncData} {ro:Obj} {ra im:Addr} (XR:ZaE F.Gd F.base mg rfd ro ra im) {q1 q2 q3 q4 q5 q6 q7 q8 q9 p1 p2 p3 p4 p5 p6 p7 r1 r2 r3 r4 r5 r6 r7:Pos} {tryS:List Stmt}
  (hbo:rfd.body=.stmts [.Assign [.Name "it" r1] (.Call (.Name "iter" r2) [.Name "sequence" r3] [] r4) r5,.If (.Compare (.Name "initial" q1) [.Is] [.Name "_initial_missing" q2] q3) tryS [.Assign [.Name "value" q4] (.Name "initial" q5) q6] q7,
   .For (.Name "element" p1) (.Name "it" q8) [.Assign [.Name "value" p2] (.Call (.Name "function" p3) [.Name "value" p4,.Name "element" p5] [] p6) p7] [] q9,
   .Return (some (.Name "value" r6)) r7])
  (him:∀h,F.Gd h->∃o,h.get? im=some o∧o.cls=.type "object")
  {xl:X} {nm0 qual:Str} {yp zp:Pos} {lbody:Expr} {lscope:Scope} {c fl cc:Addr} {oc:Obj} {vsc:Array Value} {tc:Tok} {pm ctv:Value} (LP:Zgh fn xl lbody lscope)
  (hfo:∀h,F.Gd h->h.get? fl=some { cls:=.type "function",data:=.func (kla_fn nm0 qual ⟨[],[⟨"stack",none,yp⟩,⟨"token",none,zp⟩],none,[],[],none,[]⟩ lbody lscope [("names",c)] pm (.ref cc) ctv) }) (hoc:∀h,F.Gd h->h.get? cc=some oc) (hcc:oc.cls=.type "code") (hcd:oc.data=.fields vsc) (hcq:vsc[1]? = some (.str qual tc))
  (hcl:F.env.cells.lookup ("names" : Str)=some c) (hkn:F.sc.names.lookup ("names" : Str)=some .cell) (hn5:F.nm[5]? = some ("names" : Str)) {dn:D}:Zl8 prog w F Γ xl dn fl ra n:=by
 intro K ad σ s W ds l0 d sv iv A R f hW hsq hb h5 hd hiv L k
 obtain⟨nv,hcell,hnv⟩:=Zno H f hcl hkn hn5 h5
 have hf:=hfo _ f.ok.gd
 have hc:=hoc _ f.ok.gd
 have nw:∀{a o},s.heap.get? a=some o->¬Mut o->¬W a:=λe nm q=>let ⟨_,_,_,_,_,m,_,e'⟩:=f.kx _ (hW _ q);nm (Option.some.inj (e.symm.trans e')▸m)
 have w1 : ¬W fl:=nw hf (Zj6 (.inl rfl) (.inl ⟨_,rfl⟩))
 have w2 : ¬W cc:=nw hc (Zj6 (.inr hcc) (.inr ⟨_,hcd⟩))
 have w3 : ¬W c:=λq=>(f.kx c (hW _ q)).2.1 _ c hcl rfl
 have St:=Znd (href:=s.heap) (W:=W) (P1:=λx=>Pq F K ad σ x∧∃o,s.heap.get? x=some o) (dn:=dn) G C (by decide) LP.fz LP.mt LP.co LP.ge LP.kd LP.nc LP.ky LP.kz LP.ku hf hc hcc hcd hcq hcell (hnv.mono λa o _ e p=>⟨⟨p,o,e⟩,e⟩) ⟨w1,w2,w3⟩ λa p q=>p.1.2.2 (hW _ q)
 refine ZiK (s:=s) (P:=Pq F K ad σ) (W:=W) (href:=s.heap) (n:=n+1) G XR hbo St rfl (.ZaD rfl) w1 hf hsq (λb h=>(hb b h).1) (λb h=>(hb b h).2) (λx p=>p.1) (λx p q=>p.1.2.2 (hW x q)) (λx p=>p.2) (λb e=>e) hd L f.ok (f.pf H) (.refl _ _) hiv (λq=>?_) k
 obtain⟨b,vs,e1,_,⟨k,e2⟩,_⟩:=hiv.Zbq
 obtain⟨o,e3,e4⟩:=him _ f.ok.gd
 rw[←Value.ref.inj (e1.symm.trans q),e2] at e3
 rw[←Option.some.inj e3] at e4
 exact absurd (Value.type.inj e4) (by decide)
theorem Znw(G:Gr F.base mg mb F.Gd)(H:Fs F)(C:Zak prog w F.Gd mg Γ fn fa n){rfd:FuncData}{ro:Obj}{ra fl:Addr}{xl tX rX:X}{dn:D}(FO:Zl8 prog w F Γ xl dn fl ra n)(hro:∀h,F.Gd h->h.get? ra=some ro)(hrd:ro.data=.func rfd)(hmr:mg "reduce" = some (.ref ra))(hgr:ZcC F.sc "reduce" = true)(hgi:ZcC F.sc "iter" = true)
  {s10 u1 u2 u3 u4 u5 u6:Pos} {e4 e5 e6 r test:Expr} {thenS:List Stmt}
  (hmt:mtT F.nm fn F.sc true tX test=true) (hm4:(Zai e4&&mt F.nm fn F.sc true (.var 11) e4)=true) (hm5:(Zai e5&&mt F.nm fn F.sc true (.slc (.tvar 6) (.var 10) (.const .none)) e5)=true) (hm6:(Zai e6&&mt F.nm fn F.sc true (.var 13) e6)=true) (hmr':(Zai r&&mt F.nm fn F.sc true rX r)=true)
  {toks l1:List D} {d2 d3:D} {cut:Int} (h5:rd σ 5=some dn) (h6:rdt σ 6=some (.list toks)) (h10:rd σ 10=some (.int cut)) (h11:rd σ 11=some (.obj fl)) (h13:rd σ 13=some (.list l1))
  (htv:tv Γ σ tX=some false) (hf2:ZbN (Zbh Γ dn xl) (slice toks (some cut) none) (.list l1)=some d2) (hr:ev Γ σ rX=some d3) (heq:eqD d2 d3=some true)
  {E:Value->Shared->Prop} {Q:Flow->Shared->Prop} (L:Lv A (n+2)) (f:Fm F K ad σ s) (k:∀s',Gw F.s0 s'->Ok F.Gd s'->Q (.ret (.bool true)) s') :
  wpAny (model prog w) A (execs [.If test thenS [] s10,.Return (some (.Compare (.Call (.Name "reduce" u1) [e4,.Call (.Name "iter" u2) [e5] [] u3,e6] [] u4) [.Eq] [r] u5)) u6] F.env) Q E s:=by
 have Ln:Lv A n:=L.le (Nat.le_add_right _ _)
 refine wpAny_execs_cons (wpAny_If (Zne H (ZaI G C tX) hmt Ln f htv λs₅ f₅ g₅=>wpAny_execs_nil ?_))
 refine Zbg hm4 λp4 m4=>Zbg hm5 λp5 m5=>Zbg hm6 λp6 m6=>Zbg hmr' λpr mr=>?_
 refine wpAny_execs_cons (wpAny_Return_some (wpAny_Compare1 (wpAny_Call_NameR (ZcR G f₅.ok.gd (f₅.ZcE H) hgr hmr (by decide) ?_)) (Zcm pr)))
 erw[rwl (Zab p4 ..) (rwl (Zab (show Zai (.Call (.Name "iter" u2) [e5] [] u3)=true from rfl) ..) (rwl (Zab p6 ..) (rwl (Zam ..) (rwl (Zah ..) (rwl (Zah ..) (rwl (Zah ..) (rwl (Zay ..) ?_)))))))]
 refine Calls.callWith_function (o:=ro) (fd:=rfd) (Calls.evalArgs_plain (Calls.spliced_cons (ZdF H (ZaI G C (.var 11)) m4 rfl Ln f₅ h11 λv4 s₆ f₆ g₆ r₆=>r₆.ZkB (Calls.spliced_cons ?_))))
 refine ZmP G H C Ln f₆ hgi p5 m5 rfl (ds:=slice toks (some cut) none) (show(rdt _ 6).bind _=_ from Zag h6 (Zag h10 rfl)) λI S s₇ f₇ g₇ hit₇ hS₇ hI₇ hbI=>?_
 refine Calls.spliced_cons (ZdF H (ZaI G C (.var 13)) m6 rfl Ln f₇ h13 λv6 s₈ f₈ g₈ r₈=>Calls.spliced_nil ⟨⟨hro _ f₈.ok.gd,hrd⟩,wpAny_call ?_⟩)
 have hit₈:It (Pq F (λb=>K b∨b=I) ad σ) S s₈.heap I (slice toks (some cut) none):=hit₇.mono λb o n _ e=>g₈.kp b o n e
 refine FO _ ad σ s₈ (λb=>b=I) _ l1 d2 _ _ _ _ f₈ (λb h=>.inr h) (.iter hit₈ (λb hb=>let ⟨o,e⟩:=hS₇ b hb;g₈.ex b o e) λp=>p.2.2 (.inr rfl)) (λb h=>h▸⟨hbI,let ⟨o,e,_⟩:=hit₈.mut;⟨o,e⟩⟩) h5 hf2 r₈ L λv9 s₉ g₉ o₉ r₉=>?_
 refine(ZaI (base:=F.base) G C rX).e F.sc true r F.env σ A _ s₉ E _ d3 mr (f₈.ZvY H (I:=I) (.inr rfl) g₉.kp) Ln o₉ (λb nb=>let ⟨o,n,e⟩:=f₈.pf H b λp=>nb (.inl p);⟨o,n,g₉.kp b o n (λq=>nb (.inr q)) e⟩) hr λv10 s₁₀ g₁₀ o₁₀ r₁₀=>?_
 have heq':cop .eq d2 d3=some true:=by cases d2<;>first | exact heq | exact nn heq
 exact ZkS (op:=.eq) Ln (.of ((r₉.mono λa o _ e p=>⟨.inl p,e⟩).kp g₁₀.kp)) r₁₀.weak heq' (k _ ((GwB.Zvv f₈.gw g₉ λi hi=>hi▸(f₈.kx I (.inr rfl)).2.2.1).trans g₁₀) o₁₀)
theorem Zol(G:Gr F.base mg mb F.Gd)(H:Fs F)(C:Zak prog w F.Gd mg Γ fn fa n){rfd:FuncData}{ro:Obj}{ra fl:Addr}{xl tX rX:X}{dn:D}(FO:Zl8 prog w F Γ xl dn fl ra n)(hro:∀h,F.Gd h->h.get? ra=some ro)(hrd:ro.data=.func rfd)(hmr:mg "reduce" = some (.ref ra))(hgr:ZcC F.sc "reduce" = true)(hgi:ZcC F.sc "iter" = true)
  {s3 s4 s5 s6 s7 s8 s10 t1 t2 t3 t4 cpos u1 u2 u3 u4 u5 u6:Pos} {kk:Nat} {elt e1 e2 e3 e4 e5 e6 r test:Expr} {cscope:Scope} {thenS:List Stmt} {xc:X}
  (hy12:F.nm[12]? = some ("asked" : Str)) (hk12:F.sc.names.lookup ("asked" : Str)=some .local) (hsw:Zmv F.sc (.ListComp elt [⟨.Tuple [.Name "word" t1,.Name "pattern" t2] kk t3,.Name "tokens" t4,[],0⟩] cscope cpos) (.Name "asked" s3)=true)
  (hok:ZbT F.sc F.nm [] cscope=true) (hca:cscope.names.lookup ("word" : Str)=some .local) (hcb:cscope.names.lookup ("pattern" : Str)=some .local) (hit:mtI F.nm fn F.sc false (.tvar 6) (.Name "tokens" t4)=true) (hmc:mt ["word","pattern"] fn (ZmM F.sc cscope) false xc elt=true) (hfz:xc.fz=true)
  (hy13:F.nm[13]? = some ("half" : Str)) (hk13:F.sc.names.lookup ("half" : Str)=some .local)
  (hma:mtL F.nm fn F.sc true (.cons (.var 11) (.cons (.slc (.tvar 6) (.const .none) (.var 10)) (.cons (.list .nil) .nil))) [e1,e2,e3]=true)
  (hmt:mtT F.nm fn F.sc true tX test=true) (hm4:(Zai e4&&mt F.nm fn F.sc true (.var 11) e4)=true) (hm5:(Zai e5&&mt F.nm fn F.sc true (.slc (.tvar 6) (.var 10) (.const .none)) e5)=true) (hm6:(Zai e6&&mt F.nm fn F.sc true (.var 13) e6)=true) (hmr':(Zai r&&mt F.nm fn F.sc true rX r)=true)
  {toks asked l1:List D} {d2 d3:D} {cut:Int} (hlen:14<=σ.length) (h5:rd σ 5=some dn) (h6:rdt σ 6=some (.list toks)) (h10:rd σ 10=some (.int cut)) (h11:rd σ 11=some (.obj fl)) (hz:toks.length<=16777216)
  (hask:ZbQ (ZeG λa b=>ev Γ [.fz a,.fz b] xc) toks=some asked) (hf1:ZbN (Zbh Γ dn xl) (slice toks none (some cut)) (.list [])=some (.list l1))
  (htv:tv Γ ((σ.set 12 (.fz (.list asked))).set 13 (.fz (.list l1))) tX=some false) (hf2:ZbN (Zbh Γ dn xl) (slice toks (some cut) none) (.list l1)=some d2)
  (hr:ev Γ ((σ.set 12 (.fz (.list asked))).set 13 (.fz (.list l1))) rX=some d3) (heq:eqD d2 d3=some true)
  {E:Value->Shared->Prop} {Q:Flow->Shared->Prop} (L:Lv A (n+2)) (f:Fm F K ad σ s) (k:∀s',Gw F.s0 s'->Ok F.Gd s'->Q (.ret (.bool true)) s') :
  wpAny (model prog w) A (execs [.Assign [.Name "asked" s3] (.ListComp elt [⟨.Tuple [.Name "word" t1,.Name "pattern" t2] kk t3,.Name "tokens" t4,[],0⟩] cscope cpos) s4,
   .Assign [.Name "half" s5] (.Call (.Name "reduce" s6) [e1,e2,e3] [] s7) s8,
   .If test thenS [] s10,
   .Return (some (.Compare (.Call (.Name "reduce" u1) [e4,.Call (.Name "iter" u2) [e5] [] u3,e6] [] u4) [.Eq] [r] u5)) u6] F.env) Q E s:=by
 have Ln:Lv A n:=L.le (Nat.le_add_right _ _)
 have rdd:∀{i x d},i≠12->i≠13->rd σ i=some d->rd ((σ.set 12 x).set 13 (.fz (.list l1))) i=some d:=λh h' e=>((Zif (Ne.symm h')).trans (Zif (Ne.symm h))).trans e
 refine wpAny_execs_cons (Znm G H C Ln f hy12 (.inl hk12) hsw hok (by decide) hca hcb rfl hit h6 hz hmc hfz hask λs₁ f₁=>?_)
 have a6:rdt (σ.set 12 (.fz (.list asked))) 6=some (.list toks):=(Zk4 (by decide)).trans h6
 have hargs:=ZgD (n:=n) (pos:=s7) (E:=E) (Q:=λvs s'=>Fm F K ad (σ.set 12 (.fz (.list asked))) s'∧Zad (Pq F K ad (σ.set 12 (.fz (.list asked)))) s'.heap vs [.obj fl,.list (slice toks none (some cut)),.list []]) H (ZaI G C _) hma rfl Ln f₁ (show(rd _ 11).bind _=_ from Zag ((Zif (by decide)).trans h11) (ZgR (Zag (Zag a6 (Zag rfl (Zag ((Zif (by decide)).trans h10) rfl))) rfl) rfl)) λvs s' f' g' r'=>⟨f',r'⟩
 have hp1:Zai e1=true:=Zd3 (show(Zai e1&&mt F.nm fn F.sc true (.var 11) e1&&mtL F.nm fn F.sc true (.cons (.slc (.tvar 6) (.const .none) (.var 10)) (.cons (.list .nil) .nil)) [e2,e3])=true from hma) λh _ _=>h
 refine wpAny_execs_cons (wpAny_Assign_Name (wpAny_Call_NameR (ZcR G f₁.ok.gd (f₁.ZcE H) hgr hmr (by decide) ?_)) rfl)
 rw[Zab hp1,Zah] at hargs ⊢
 refine Calls.callWith_function (o:=ro) (fd:=rfd) (Calls.evalArgs_plain (wpAny_mono hargs (λvs s₂ hs=>⟨⟨hro _ hs.1.ok.gd,hrd⟩,wpAny_call ?_⟩) λ_ _ e=>e))
 obtain⟨f₂,r₂⟩:=hs
 refine r₂.Zd0 λv1 vs ra1 r₂=>r₂.Zd0 λv2 vs ra2 r₂=>r₂.Zd0 λv3 vs ra3 r₂=>ra1.ZkB ?_
 erw[rwl (r₂.nil_inv ..) ?_]
 refine FO K ad _ s₂ (λ_=>False) _ [] _ v2 v3 _ _ f₂ (λb h=>h.elim) (.list ra2) (λb h=>h.elim) ((Zif (by decide)).trans h5) hf1 ra3 L λv s₃ g₃ o₃ r₃=>?_
 refine(f₂.grow g₃.plain o₃).Zc0 G H hy13 (.inl hk13) r₃ λs₄ f₄ _=>?_
 exact Znw G H C FO hro hrd hmr hgr hgi hmt hm4 hm5 hm6 hmr' (rdd (by decide) (by decide) h5) ((Zk4 (by decide)).trans a6) (rdd (by decide) (by decide) h10) (rdd (by decide) (by decide) h11) (ZlD (by erw[rwl (List.length_set ..) ?_];exact hlen)) htv hf2 hr heq L f₄ k
end
end
section
section
variable {prog:Program}{w:World}{base:Addr->Prop}{mg mb:Str->Option Value}{Gd:Heap->Prop}{Γ:ZaC}{fn:Nat->Str}{fa:Nat->Addr}{n N:Nat}
theorem ZaE.and{rfd:FuncData}{ro:Obj}{ra im:Addr}{I:Heap->Prop}(x:ZaE Gd base mg rfd ro ra im):ZaE (λh=>Gd h∧I h) base mg rfd ro ra im:=⟨(λh y=>x.ob h y.1),
x.da,
(λh y=>x.cr h y.1),
x.cl,
x.gl,
x.bu,
(λM A s u v z E Q g q=>x.bi M A s u v z E Q g.1 q),
x.co,
x.gen,
x.kd,
x.nc,
x.k1,
x.k2,
x.k3,
x.k4,
x.k5,
x.k6,
x.k7,
x.k8,
x.mi,
x.mbs⟩
theorem ZrY(G:Gr base mg mb Gd)(C:Zak prog w Gd mg Γ fn fa n){cL PL:Addr}{xs:List (Pos×Str)}(O:ZeB Gd cL PL xs mg)
  {rfd:FuncData} {ro:Obj} {ra im:Addr} (XR:ZaE Gd base mg rfd ro ra im) {q1 q2 q3 q4 q5 q6 q7 q8 q9 p1 p2 p3 p4 p5 p6 p7 r1 r2 r3 r4 r5 r6 r7:Pos} {tryS:List Stmt}
  (hbo:rfd.body=.stmts [.Assign [.Name "it" r1] (.Call (.Name "iter" r2) [.Name "sequence" r3] [] r4) r5,.If (.Compare (.Name "initial" q1) [.Is] [.Name "_initial_missing" q2] q3) tryS [.Assign [.Name "value" q4] (.Name "initial" q5) q6] q7,
   .For (.Name "element" p1) (.Name "it" q8) [.Assign [.Name "value" p2] (.Call (.Name "function" p3) [.Name "value" p4,.Name "element" p5] [] p6) p7] [] q9,
   .Return (some (.Name "value" r6)) r7])
  (hmr:mg "reduce" = some (.ref ra)) (him:∀h,Gd h->∃o,h.get? im=some o∧o.cls=.type "object")
  {fd:FuncData} {o:Obj} {a:Addr} {pre:List Stmt} {p0:Str} {nms:List Str} {st:S}
  {xl:X} {yp zp s1 s2 lpos:Pos} {lbody:Expr} {lscope:Scope}
  {s3 s4 s5 s6 s7 s8 s10 t1 t2 t3 t4 cpos u1 u2 u3 u4 u5 u6:Pos} {kk:Nat} {elt e1 e2 e3 e4 e5 e6 r test:Expr} {cscope:Scope} {thenS:List Stmt} {xc tX rX:X}
  (Df:Zbi Gd fd o a (pre++[.Assign [.Name "step" s1] (.Lambda ⟨[],[⟨"stack",none,yp⟩,⟨"token",none,zp⟩],none,[],[],none,[]⟩ lbody lscope lpos) s2,
   .Assign [.Name "asked" s3] (.ListComp elt [⟨.Tuple [.Name "word" t1,.Name "pattern" t2] kk t3,.Name "tokens" t4,[],0⟩] cscope cpos) s4,
   .Assign [.Name "half" s5] (.Call (.Name "reduce" s6) [e1,e2,e3] [] s7) s8,
   .If test thenS [] s10,
   .Return (some (.Compare (.Call (.Name "reduce" u1) [e4,.Call (.Name "iter" u2) [e5] [] u3,e6] [] u4) [.Eq] [r] u5)) u6]) [p0]) (hcode:fd.code=.ref cL) {sc:Scope} (hsc:fd.scope=sc)
  (hnd:(p0::nms).Nodup) (hpre:ms (p0::nms) fn sc st pre=true) (hst:st.Zcw []=true)
  (hmem:∃pq∈xs,pq.1.line=lpos.line∧pq.1.col=lpos.col∧pq.2=(fd.qualname ++ ".<locals>.")++("<lambda>" : Str))
  (hgr:ZcC sc "reduce" = true) (hgi:ZcC sc "iter" = true)
  (LP:Zgh fn xl lbody lscope)
  (hfree:(∀n,(n,NameKind.free)∈lscope.names->n=("names" : Str))∧∀(cells:List (Str×Addr)) c,cells.lookup ("names" : Str)=some c->Zb9 cells lscope.names []=[(("names" : Str),c)])
  (hkn:sc.names.lookup ("names" : Str)=some .cell) (hn5:(p0::nms)[5]? = some ("names" : Str))
  (hy11:(p0::nms)[11]? = some ("step" : Str)) (hk11:sc.names.lookup ("step" : Str)=some .local)
  (hy12:(p0::nms)[12]? = some ("asked" : Str)) (hk12:sc.names.lookup ("asked" : Str)=some .local) (hsw:Zmv sc (.ListComp elt [⟨.Tuple [.Name "word" t1,.Name "pattern" t2] kk t3,.Name "tokens" t4,[],0⟩] cscope cpos) (.Name "asked" s3)=true)
  (hok:ZbT sc (p0::nms) [] cscope=true) (hca:cscope.names.lookup ("word" : Str)=some .local) (hcb:cscope.names.lookup ("pattern" : Str)=some .local) (hit:mtI (p0::nms) fn sc false (.tvar 6) (.Name "tokens" t4)=true) (hmc:mt ["word","pattern"] fn (ZmM sc cscope) false xc elt=true) (hfz:xc.fz=true)
  (hy13:(p0::nms)[13]? = some ("half" : Str)) (hk13:sc.names.lookup ("half" : Str)=some .local)
  (hma:mtL (p0::nms) fn sc true (.cons (.var 11) (.cons (.slc (.tvar 6) (.const .none) (.var 10)) (.cons (.list .nil) .nil))) [e1,e2,e3]=true)
  (hmt:mtT (p0::nms) fn sc true tX test=true) (hm4:(Zai e4&&mt (p0::nms) fn sc true (.var 11) e4)=true) (hm5:(Zai e5&&mt (p0::nms) fn sc true (.slc (.tvar 6) (.var 10) (.const .none)) e5)=true) (hm6:(Zai e6&&mt (p0::nms) fn sc true (.var 13) e6)=true) (hmr':(Zai r&&mt (p0::nms) fn sc true rX r)=true)
  {x:D} {σ:Sg} {dn:D} {toks asked l1:List D} {d2 d3:D} {cut:Int} (V:Za4 Γ N (p0::nms).length st xl xc tX rX x σ dn toks asked l1 d2 d3 cut)
  {A:Around} {P:Addr->Prop} {s:Shared} {vs:List Value} {R:Result->Shared->Prop} (L:Lv A (n+3)) (okg:Gd s.heap) (hp0:sc.names.lookup p0=some .local) (hP:Pf P s.heap) (hr:Zad P s.heap vs [x])
  (k:∀s',Gw s s'->Ok Gd s'->R (.ok (.ret (.bool true))) s'):codeAny (model prog w) A (.call (.ref a) ⟨vs,[]⟩) R s:=by
 subst hsc
 refine Zcj (nm:=p0::nms) G Df ⟨nms,rfl⟩ hnd rfl L okg (.inr ⟨p0,rfl,hp0⟩) hP hr λA' F ad s₁ E i1 i2 i3 i4 i5 i6 H L' f hcq=>?_
 obtain⟨base',Gd',env,sc,nm,P0,s0⟩:=F
 dsimp only at i1 i2 i3 i4 i5 i6
 subst i1 i2 i3 i4 i5 i6
 refine Zr6 (N:=N) G H (C.le (Nat.le_add_right n 2)) st pre _ ad _ s₁ E _ .next σ hst hpre L' f V.ex λad₁ s₂ f₂ t₂=>?_
 have Of:=O.odd (F:=⟨base',Gd',env,fd.scope,p0::nms,P0,s0⟩) rfl (hcq.1.trans hcode)
 obtain⟨c,hcl⟩:=H.lk ("names" : Str) hkn
 obtain⟨pq,m1,m2,m3,m4⟩:=hmem
 have hclo:closureFor lscope env=pure [(("names" : Str),c)]:=(ZbM λz hz=>⟨c,by rw[hfree.1 z hz];exact hcl⟩).trans (by rw[hfree.2 _ c hcl])
 have hq:pq.2=env.qual++("<lambda>" : Str):=m4.trans (by rw[←hcq.2])
 refine wpAny_execs_cons (wpAny_Assign_Name (kla_eval rfl (ZoM (c:=cL) (P:=PL) (xs:=xs) (mg:=mg) (Of.tab _ f₂.ok.gd) ⟨pq,m1,m2,m3,hq⟩ (λpq' hp' a1 a2=>(Of.hu pq' hp' pq m1 (a1.trans m2.symm) (a2.trans m3.symm)).trans hq) hclo (.inr (List.cons_ne_nil _ _)) H.gl (G.g _ f₂.ok.gd) Of.code Of.nP (Of.bi _ f₂.ok.gd) f₂.ok.tk λcv ctv h' tk Md T2 htk=>?_)) rfl)
 have kF:∀b o,h'.get? b=some o->(h'.push { cls:=.type "function",data:=.func (kla_fn "<lambda>" (env.qual ++ "<lambda>") ⟨[],[⟨"stack",none,yp⟩,⟨"token",none,zp⟩],none,[],[],none,[]⟩ lbody lscope [(("names" : Str),c)] ((mg "__name__").getD .none) cv ctv) }).get? b=some o:=λ_ _ e=>Heap.get?_push_of_some _ e
 have hfv:=Heap.get?_push_size h' (o:={ cls:=.type "function",data:=.func (kla_fn "<lambda>" (env.qual ++ "<lambda>") ⟨[],[⟨"stack",none,yp⟩,⟨"token",none,zp⟩],none,[],[],none,[]⟩ lbody lscope [(("names" : Str),c)] ((mg "__name__").getD .none) cv ctv) }) rfl
 obtain⟨cc,oc,vsc,tc,c1,c2,c3,c4,c5⟩:=Md.rc.kp (.of kF)
 have sV:s₂.heap.get? h'.objs.size=none:=by
  cases e:s₂.heap.get? h'.objs.size with
  | none=>rfl
  | some o=>exact let ⟨_,e'⟩:=Md.ex _ _ e;nn ((Zau h').symm.trans e')
 have f₃:=f₂.grow (s':={ s₂ with heap:=h'.push { cls:=.type "function",data:=.func (kla_fn "<lambda>" (env.qual ++ "<lambda>") ⟨[],[⟨"stack",none,yp⟩,⟨"token",none,zp⟩],none,[],[],none,[]⟩ lbody lscope [(("names" : Str),c)] ((mg "__name__").getD .none) cv ctv) },toks:=tk }) ⟨Md.kp.trans (.of kF),λb o e=>let ⟨o',e'⟩:=Md.ex b o e;⟨o',kF _ _ e'⟩,rfl,id⟩ ⟨G.keeps (Of.set _ _ f₂.ok.gd Md.kp Md.bt T2) kF,htk⟩
 rw[c1] at hfv f₃ c2 ⊢
 generalize h'.push _=h₃ at hfv f₃ c2 ⊢
 generalize h'.objs.size=v0 at *
 generalize hfo:({ cls:=.type "function",data:=.func (kla_fn "<lambda>" (env.qual ++ "<lambda>") _ _ lscope [(("names" : Str),c)] ((mg "__name__").getD .none) (.ref cc) ctv) }:Obj)=fo at hfv
 have hfoc:fo.cls=.type "function" := hfo▸rfl
 have nmf : ¬Mut fo:=Zj6 (.inl hfoc) (.inl (hfo▸⟨_,rfl⟩))
 let I:Heap->Prop:=λh=>h.get? v0=some fo∧h.get? cc=some oc
 have G':=Zo7 G (I:=I) λ_ _ x k=>⟨k _ _ nmf x.1,k _ _ (Zj6 (.inr c3) (.inr ⟨_,c4⟩)) x.2⟩
 have C':=Zl9 (I:=I) C λh h' x kp=>⟨kp _ _ (.ZaD hfoc) x.1,kp _ _ (.ZaD c3) x.2⟩
 have H':Fs ⟨base',λh=>Gd' h∧I h,env,fd.scope,p0::nms,P0,s0⟩:=⟨H.scp,H.kf,H.gl,H.bi,H.pf,H.lk,H.nd,H.inj,H.fl,H.fc⟩
 have f₄:Fm ⟨base',λh=>Gd' h∧I h,env,fd.scope,p0::nms,P0,s0⟩ (λ_=>False) ad₁ σ { s₂ with heap:=h₃,toks:=tk }:=⟨f₃.gw,⟨⟨f₃.ok.gd,hfv,c2⟩,f₃.ok.tk⟩,f₃.loc,f₃.cel,f₃.own,f₃.inj,f₃.kx,f₃.vs⟩
 refine f₄.Zc0 (i:=11) (y := "step") (d:=.obj v0) G' H' hy11 (.inl hk11) (.obj ((f₂.pf H).fresh sV) hfv (.ZaD hfoc)) λs₅ f₅ _=>?_
 exact Zol (n:=n) (dn:=dn) (toks:=toks) (asked:=asked) (l1:=l1) (d2:=d2) (d3:=d3) (cut:=cut) G' H' C' (ZoC G' H' C' XR.and hbo (λh x=>him h x.1) LP (λh x=>x.2.1.trans (congrArg some hfo.symm)) (λh x=>x.2.2) c3 c4 c5 hcl hkn hn5) (λh x=>XR.ob h x.1) XR.da hmr hgr hgi hy12 hk12 hsw hok hca hcb hit hmc hfz hy13 hk13 hma hmt hm4 hm5 hm6 hmr'
  (Nat.le_trans V.len (Nat.le_of_eq List.length_set.symm)) ((Zif (by decide)).trans V.h5) ((Zk4 (by decide)).trans V.h6) ((Zif (by decide)).trans V.h10) (ZlD (Nat.lt_of_lt_of_le (by decide) V.len)) V.hz V.ask V.f1 (V.fin v0).1 V.f2 (V.fin v0).2 V.eq L' f₅ λs' g' o'=>k s' g' ⟨o'.gd.1,o'.tk⟩
end
end
section
set_option maxRecDepth 100000
theorem Zb5{cells:List (Str×Addr)}:∀{names:List (Str×NameKind)} {acc:List (Str×Addr)},Zb9 cells names acc=Zb9 cells (names.filter λy=>y.2==.free) acc
 | [],_=>rfl
 | (n,k)::r,acc=>by
  cases hk:(k==NameKind.free) with
  | true=>
   rw[List.filter_cons_of_pos (by exact hk),Zq4,Zq4,hk]
   simp only[if_true]
   split
   ·exact Zb5
   ·exact Zb5
  | false=>
   rw[List.filter_cons_of_neg (by erw[rwl (hk ..) ?_];decide),Zq4,hk]
   exact Zb5
theorem ZnU{names:List (Str×NameKind)}(h:(names.filter λy=>y.2==.free)=[(("names" : Str),NameKind.free)]):(∀n,(n,NameKind.free)∈names->n=("names" : Str))∧∀(cells:List (Str×Addr)) c,cells.lookup ("names" : Str)=some c->Zb9 cells names []=[(("names" : Str),c)]:=by
 refine⟨λn hn=>?_,λcells c hc=>?_⟩
 ·have:(n,NameKind.free)∈(names.filter λy=>y.2==.free):=List.mem_filter.mpr ⟨hn,rfl⟩
  rw[h] at this
  simpa using this
 ·rw[Zb5,h,Zq4,hc]
  rfl
end
section
theorem Zbc{Γ:ZaC}{N k m:Nat}{st:S}{ds:List D}{d:D}(hl:ds.length=k)(h:∃σ,ex Γ N st (ZeV m ds)=some (.ret d,σ)):run Γ N k m st ds=some d:=by
 obtain⟨σ,h⟩:=h
 unfold run
 erw[rwl (if_pos hl ..) (rwl (h ..) ?_)]
section
variable {Γ:ZaC}{N:Nat}{σ σ' σ'':Sg}{a b:S}
theorem Zaa{r:Option (Fl×Sg)}(h:ex Γ N a σ=some (.next,σ'))(k:ex Γ N b σ'=r):ex Γ N (.seq a b) σ=r:=show(ex Γ N a σ).bind _=_ from Zag h k
theorem Za6{d:D}(h:ex Γ N a σ=some (.ret d,σ')):ex Γ N (.seq a b) σ=some (.ret d,σ'):=show(ex Γ N a σ).bind _=_ from Zag h rfl
theorem ZnI(h:ex Γ N a σ=some (.brk,σ')):ex Γ N (.seq a b) σ=some (.brk,σ'):=show(ex Γ N a σ).bind _=_ from Zag h rfl
theorem Zaf(h:ex Γ N a σ=some (.next,σ')):ex Γ N (.seq a .skip) σ=some (.next,σ'):=Zaa h rfl
theorem ZbF{x:X}{d:D}(h:ev Γ (frz σ) x=some d):ex Γ N (.ret x) σ=some (.ret d,frz σ):=show(ev Γ (frz σ) x).map _=_ from ZgR h rfl
theorem Zaw{i:Nat}{x:X}{d:D}(h:ev Γ σ x=some d):ex Γ N (.asg i x) σ=some (.next,σ.set i (.fz d)):=show(ev Γ σ x).map _=_ from ZgR h rfl
theorem ZlZ{i:Nat}{x:X}{d:D}(h:ev Γ σ x=some d):ex Γ N (.asgC i x) σ=some (.next,σ.set i (.fz d)):=show(ev Γ σ x).map _=_ from ZgR h rfl
theorem x_t{t:X}{r:Option (Fl×Sg)}(h:tv Γ σ t=some true)(k:ex Γ N a σ=r):ex Γ N (.ifs t a b) σ=r:=show(tv Γ σ t).bind _=_ from Zag h k
theorem x_f{t:X}{r:Option (Fl×Sg)}(h:tv Γ σ t=some false)(k:ex Γ N b σ=r):ex Γ N (.ifs t a b) σ=r:=show(tv Γ σ t).bind _=_ from Zag h k
theorem Zg0{i:Nat}{ds:List D}(h:σ[i]? = some (.own ds)):ownOf σ i=some ds:=by unfold ownOf;erw[rwl (h ..) ?_]
theorem ZrO{i j:Nat}(h:σ[j]? = some (.app i)):Zh9 σ j i=true:=by unfold Zh9;erw[rwl (h ..) ?_];exact beq_self_eq_true i
theorem ZhY{i:Nat}{ds:List D}{d:D}(hl:ds.length < 16777216):Zo5 σ i (ds++[d])=some (.next,σ.set i (.own (ds++[d]))):=if_pos (Nat.le_trans (Nat.le_of_eq List.length_append) hl)
theorem Zel{i:Nat}{x:X}{ds:List D}{d:D}(ho:σ[i]? = some (.own ds))(h:ev Γ σ x=some d)(hl:ds.length < 16777216):ex Γ N (.app i x) σ=some (.next,σ.set i (.own (ds++[d]))):=
 show(ownOf σ i).bind _=_ from Zag (Zg0 ho) (Zag h (ZhY hl))
theorem ZqZ{i j:Nat}{x:X}{ds:List D}{d:D}(ha:σ[j]? = some (.app i))(ho:σ[i]? = some (.own ds))(h:ev Γ σ x=some d)(hl:ds.length < 16777216):ex Γ N (.add j i x) σ=some (.next,σ.set i (.own (ds++[d]))):=
 show(if Zh9 σ j i then _ else none)=_ from(if_pos (ZrO ha)).trans (Zag (Zg0 ho) (Zag h (ZhY hl)))
theorem ZcK{i:Nat}{op:Bop}{x:X}{p q d:D}(ha:rd σ i=some p)(h:ev Γ σ x=some q)(hd:Zop op p q=some d):ex Γ N (.aug i op x) σ=some (.next,σ.set i (.fz d)):=
 show(rd σ i).bind _=_ from Zag ha (Zag h (ZgR hd rfl))
theorem ZcT{t:Sg->Option Bool}{b:Sg->Option (Fl×Sg)}{n:Nat}(h:t σ=some false):Zbj t b (n+1) σ=some (.next,σ):=show(t σ).bind _=_ from Zag h rfl
theorem ZiJ{t:Sg->Option Bool}{b:Sg->Option (Fl×Sg)}{n:Nat}{r:Option (Fl×Sg)}(h:t σ=some true)(hb:b σ=some (.next,σ'))(k:Zbj t b n σ'=r):Zbj t b (n+1) σ=r:=show(t σ).bind _=_ from Zag h (show(b σ).bind _=_ from Zag hb k)
theorem Zs0{t:Sg->Option Bool}{b:Sg->Option (Fl×Sg)}{n:Nat}(h:t σ=some true)(hb:b σ=some (.brk,σ')):Zbj t b (n+1) σ=some (.next,σ'):=show(t σ).bind _=_ from Zag h (show(b σ).bind _=_ from Zag hb rfl)
theorem Zkr{i:Nat}{b:Sg->Option (Fl×Sg)}{d:D}{ds:List D}{r:Option (Fl×Sg)}(hb:b (σ.set i (.fz d))=some (.next,σ'))(k:forL i b ds σ'=r):forL i b (d::ds) σ=r:=show(b _).bind _=_ from Zag hb k
theorem ZaK{x xs:X}{r:Option Bool}(h:tv Γ σ x=some true)(k:Zkf Γ σ xs=r):Zkf Γ σ (.cons x xs)=r:=show(tv Γ σ x).bind _=_ from Zag h k
theorem Zav{x xs:X}(h:tv Γ σ x=some false):Zkf Γ σ (.cons x xs)=some false:=show(tv Γ σ x).bind _=_ from Zag h rfl
theorem Zjc{x xs:X}{r:Option Bool}(h:tv Γ σ x=some false)(k:Zrz Γ σ xs=r):Zrz Γ σ (.cons x xs)=r:=show(tv Γ σ x).bind _=_ from Zag h k
theorem ZeI{x xs:X}(h:tv Γ σ x=some true):Zrz Γ σ (.cons x xs)=some true:=show(tv Γ σ x).bind _=_ from Zag h rfl
theorem Zaj{op:Cop}{l r:X}{p q:D}{c:Bool}(hl:ev Γ σ l=some p)(hr:ev Γ σ r=some q)(h:cop op p q=some c):tv Γ σ (.tcmp op l r)=some c:=show(ev Γ σ l).bind _=_ from Zag hl (Zag hr h)
theorem Zcz{x:X}{d:D}{b:Bool}(h:ev Γ σ x=some d)(ht:tru d=some b):tv Γ σ (.tval x)=some b:=show(ev Γ σ x).bind _=_ from Zag h ht
theorem Zfj{x:X}{b:Bool}(h:tv Γ σ x=some b):tv Γ σ (.tnot x)=some (!b):=show(tv Γ σ x).map _=_ from ZgR h rfl
theorem ZaF{op:Bop}{l r:X}{p q:D}{o:Option D}(hl:ev Γ σ l=some p)(hr:ev Γ σ r=some q)(h:bop op p q=o):ev Γ σ (.bin op l r)=o:=show(ev Γ σ l).bind _=_ from Zag hl (Zag hr h)
theorem ZaL{l r:X}{p q:D}{o:Option D}(hl:ev Γ σ l=some p)(hr:ev Γ σ r=some q)(h:Zk8 p q=o):ev Γ σ (.idx l r)=o:=show(ev Γ σ l).bind _=_ from Zag hl (Zag hr h)
theorem Zco{l x y:X}{p q r:D}{o:Option D}(hl:ev Γ σ l=some p)(hx:ev Γ σ x=some q)(hy:ev Γ σ y=some r)(h:Zuz p q r=o):ev Γ σ (.slc l x y)=o:=show(ev Γ σ l).bind _=_ from Zag hl (Zag hx (Zag hy h))
theorem Zbd{f:Nat}{xs:X}{ds:List D}{o:Option D}(h:evL Γ σ xs=some ds)(k:Γ f ds=o):ev Γ σ (.call f xs)=o:=show(evL Γ σ xs).bind _=_ from Zag h k
theorem Zb8{x:X}{d:D}(h:ev Γ σ x=some d):evL Γ σ (.cons x .nil)=some [d]:=show(ev Γ σ x).bind _=_ from Zag h rfl
theorem ZaP{x xs:X}{d:D}{ds:List D}(h:ev Γ σ x=some d)(k:evL Γ σ xs=some ds):evL Γ σ (.cons x xs)=some (d::ds):=show(ev Γ σ x).bind _=_ from Zag h (ZgR k rfl)
theorem ZiL{xs:X}{ds:List D}(h:evL Γ σ xs=some ds)(hl:ds.length<=16777216):ev Γ σ (.tuple xs)=some (.tuple ds):=show(evL Γ σ xs).bind _=_ from Zag h (if_pos hl)
theorem ZnD{xs:X}{ds:List D}(h:evL Γ σ xs=some ds)(hl:ds.length<=16777216):ev Γ σ (.list xs)=some (.list ds):=show(evL Γ σ xs).bind _=_ from Zag h (if_pos hl)
theorem ZmE{is:List Nat}{x:X}{ds:List D}(h:ev Γ σ x=some (.tuple ds))(hl:ds.length=is.length):ex Γ N (.unp is x) σ=some (.next,ZfT σ is ds):=show(ev Γ σ x).bind _=_ from Zag h (ZgR (if_pos hl) rfl)
theorem Zns{t:X}(h:tv Γ σ t=some true):ex Γ N (.asr t) σ=some (.next,σ):=show(tv Γ σ t).bind _=_ from Zag h rfl
theorem ZeX{t a b:X}{o:Option D}(h:tv Γ σ t=some true)(k:ev Γ σ a=o):ev Γ σ (.ite t a b)=o:=show(tv Γ σ t).bind _=_ from Zag h k
theorem Zgq{t a b:X}{o:Option D}(h:tv Γ σ t=some false)(k:ev Γ σ b=o):ev Γ σ (.ite t a b)=o:=show(tv Γ σ t).bind _=_ from Zag h k
end
theorem ZgB(n i:Nat):ZdH n (i:Int)=min i n:=if_neg (Int.not_lt.mpr (Int.natCast_nonneg i))
theorem ZjX{α:Type}(l:List α)(n i:Nat)(h:l.length<=n):l.drop (min i n)=l.drop i:=by
 by_cases hi:i<=n
 ·erw[rwl (Nat.min_eq_left hi ..) ?_]
 ·have hi:=Nat.le_of_not_le hi
  erw[rwl (Nat.min_eq_right hi ..) (rwl (List.drop_of_length_le h ..) (rwl (List.drop_of_length_le (Nat.le_trans h hi) ..) ?_))]
theorem ZhT{α:Type}(l:List α)(i j:Nat):slice l (some (i:Int)) (some (j:Int))=(l.take j).drop i:=by
 show(l.take (ZdH l.length j)).drop (ZdH l.length i)=_
 erw[rwl (ZgB ..) (rwl (ZgB ..) (rwl (ZjX _ _ _ (List.length_take_le' ..) ..) (rwr (List.take_eq_take_min ..) ?_)))]
theorem ZdU{α:Type}(l:List α)(j:Nat):slice l none (some (j:Int))=l.take j:=ZhT l 0 j
theorem Zcf{α:Type}(l:List α)(i:Nat):slice l (some (i:Int)) none=l.drop i:=by
 show(l.take l.length).drop (ZdH l.length i)=_
 erw[rwl (ZgB ..) (rwl (List.take_length ..) (rwl (ZjX _ _ _ (Nat.le_refl _) ..) ?_))]
theorem ZbR{α:Type}(p r:List α)(i j:Nat):slice (p++r) (some ((p.length+i:Nat):Int)) (some ((p.length+j:Nat):Int))=(r.take j).drop i:=by
 erw[rwl (ZhT ..) (rwl (List.take_length_add_append ..) (rwl (List.drop_length_add_append ..) ?_))]
theorem ZlC{i:Nat}(h:i<=1000000000):ZdN (i:Int)=true:=decide_eq_true ⟨by lia,by lia⟩
theorem ZlW(n i:Nat)(h:i < n):idxOf n (i:Int)=some i:=(if_pos (Int.natCast_nonneg i)).trans (if_pos (Int.ofNat_lt.mpr h))
theorem Zm6(n:Nat)(h:0 < n):idxOf n (-1)=some (n - 1):=by
 have q:=(ZiD h rfl).1
 unfold idxOf
 rw[if_neg (by decide),q,if_pos (Int.natCast_nonneg _)]
 rfl
theorem ZdY{α:Type}{l:List α}{i:Nat}{c:α}(h:l[i]? = some c):i < l.length:=(List.getElem?_eq_some_iff.mp h).1
theorem ZlS{β:Type}{n i:Nat}{f:Nat->Option β}{o:Option β}(h:i < n)(hs:i<=1000000000)(k:f i=o):(if ZdN (i:Int) then(idxOf n (i:Int)).bind f else none)=o:=(if_pos (ZlC hs)).trans (Zag (ZlW _ _ h) k)
theorem ZaV{l:List Nat}{i c:Nat}(h:l[i]? = some c)(hs:i<=1000000000):Zk8 (.str l) (.int (i:Int))=some (.str [c]):=ZlS (ZdY h) hs (ZgR h rfl)
theorem ZaM{l:List D}{i:Nat}{d:D}(h:l[i]? = some d)(hs:i<=1000000000):Zk8 (.list l) (.int (i:Int))=some d:=ZlS (ZdY h) hs h
theorem ZmA{l:List D}{i:Nat}{d:D}(h:l[i]? = some d)(hs:i<=1000000000):Zk8 (.tuple l) (.int (i:Int))=some d:=ZlS (ZdY h) hs h
theorem ZeN{l:List D}{d:D}(h:l.getLast? = some d):Zk8 (.list l) (.int (-1))=some d:=ZjS h
theorem Zhr{l:List Nat}{c:Nat}(h:l.getLast? = some c):Zk8 (.str l) (.int (-1))=some (.str [c]):=by
 show(if ZdN (-1)=true then(idxOf l.length (-1)).bind λk=>l[k]?.map λc=>D.str [c] else none)=some (.str [c])
 rw[if_pos (by decide)]
 exact Zag (Zm6 _ (Zie h)) (ZgR (List.getLast?_eq_getElem?.symm.trans h) rfl)
theorem ZbB{α:Type}(p r:List α)(i:Nat):(p++r)[p.length+i]? = r[i]?:=by erw[rwl (List.getElem?_append_right (Nat.le_add_right _ _) ..) (rwl (Nat.add_sub_cancel_left ..) ?_)]
theorem lt1(a b:Nat):ltL [a] [b]=decide (a < b):=by
 show(if a < b then true else if a=b then false else false)=_
 by_cases h:a < b
 ·erw[rwl (if_pos h ..) (rwl (decide_eq_true h ..) ?_)]
 ·erw[rwl (if_neg h ..) (rwl (decide_eq_false h ..) (rwl (ite_self ..) ?_))]
theorem le1(a b:Nat):(!ltL [b] [a])=decide (a<=b):=by
 erw[rwl (lt1 ..) (rwr (decide_not ..) ?_)]
 exact decide_eq_decide.mpr Nat.not_lt
noncomputable def Zg3(c:Nat):Bool:=(decide (48<=c)&&decide (c<=57))||(decide (65<=c)&&decide (c<=90))||(decide (97<=c)&&decide (c<=122))
theorem ZeK{Γ:ZaC}{σ:Sg}{x y z:X}{a b c:Nat}(hx:ev Γ σ x=some (.str [a]))(hy:ev Γ σ y=some (.str [b]))(hz:ev Γ σ z=some (.str [c])):ev Γ σ (.cmp2 .le .le x y z)=some (.bool (decide (a<=b)&&decide (b<=c))):=by
 show(ev Γ σ x).bind _=_
 refine Zag hx (Zag hy (Zag (congrArg some (le1 a b)) ?_))
 by_cases h:a<=b
 ·erw[rwl (decide_eq_true h ..) ?_]
  exact Zag hz (congrArg (λt=>some (D.bool t)) (le1 b c))
 ·erw[rwl (decide_eq_false h ..) ?_];rfl
theorem ZcJ{Γ:ZaC}{σ:Sg}{x y ys:X}{a:Bool}{o:Option D}(h:ev Γ σ x=some (.bool a))(k:a=false->Zk6 Γ σ (.cons y ys)=o)(k':a=true->o=some (.bool true)):Zk6 Γ σ (.cons x (.cons y ys))=o:=by
 show(ev Γ σ x).bind _=_
 refine Zag h ?_
 cases a with
 | true=>exact(k' rfl).symm
 | false=>exact k rfl
theorem ZeS{Γ:ZaC}{σ:Sg}{x:X}{d:D}(h:ev Γ σ x=some d):Zk6 Γ σ (.cons x .nil)=some d:=show(ev Γ σ x).bind _=_ from Zag h rfl
theorem Zc7{Γ:ZaC}{σ:Sg}{x y ys:X}{a:Bool}{o:Option D}(h:ev Γ σ x=some (.bool a))(k:a=true->ZeW Γ σ (.cons y ys)=o)(k':a=false->o=some (.bool false)):ZeW Γ σ (.cons x (.cons y ys))=o:=by
 show(ev Γ σ x).bind _=_
 refine Zag h ?_
 cases a with
 | false=>exact(k' rfl).symm
 | true=>exact k rfl
theorem ZdJ{Γ:ZaC}{σ:Sg}{x:X}{d:D}(h:ev Γ σ x=some d):ZeW Γ σ (.cons x .nil)=some d:=show(ev Γ σ x).bind _=_ from Zag h rfl
theorem Zmc(c:Nat):ZrI [.str [c]]=some (.bool (Zg3 c)):=by
 refine Zbc rfl ⟨[.fz (.str [c])],Za6 (ZbF ?_)⟩
 show Zk6 _ _ _=_
 refine ZcJ (ZeK rfl rfl rfl) (λh1=>ZcJ (ZeK rfl rfl rfl) (λh2=>ZeS ((ZeK rfl rfl rfl).trans ?_)) λh2=>?_) λh1=>?_
 ·unfold Zg3;erw[rwl (h1 ..) (rwl (h2 ..) ?_)];rfl
 ·unfold Zg3;erw[rwl (h1 ..) (rwl (h2 ..) ?_)];rfl
 ·unfold Zg3;erw[rwl (h1 ..) ?_];rfl
end
section
set_option backward.match.sparseCases false
theorem ZgA{f:D->Option (Option D)}{g:D->D}:∀{ds:List D},(∀d∈ds,f d=some (some (g d)))->ZbQ f ds=some (ds.map g)
 | [],_=>rfl
 | d::ds,h=>by
  erw[rwl (Zuv ..) (rwl (h d List.mem_cons_self ..) (rwl (ZgA λd hd=>h d (List.mem_cons_of_mem _ hd) ..) ?_))]
  rfl
theorem Ze0{f:D->Option (Option D)}{p:D->Bool}{g:D->D}:∀{ds:List D},(∀d∈ds,f d=some (if p d then some (g d) else none))->ZbQ f ds=some ((ds.filter p).map g)
 | [],_=>rfl
 | d::ds,h=>by
  erw[rwl (Zuv ..) (rwl (h d List.mem_cons_self ..) (rwl (Ze0 λd hd=>h d (List.mem_cons_of_mem _ hd) ..) ?_))]
  cases q:p d with
  | true=>erw[rwl (List.filter_cons_of_pos q ..) ?_];rfl
  | false=>rw[List.filter_cons_of_neg (by erw[rwl (q ..) ?_];decide)];rfl
theorem ZcU{l:List D}(h:l.length<=16777216):okL l=some (.list l):=if_pos h
theorem Zcn{l:List Nat}(h:l.length<=16777216):okS l=some (.str l):=if_pos h
theorem Zc9{l:List D}(h:l.length<=16777216):itemsOf (.list l)=some l:=if_pos h
section
variable {Γ:ZaC}{σ:Sg}
theorem ZhX{op:Cop}{l r:X}{p q:D}{c:Bool}(hl:ev Γ σ l=some p)(hr:ev Γ σ r=some q)(h:cop op p q=some c):ev Γ σ (.cmp op l r)=some (.bool c):=show(ev Γ σ l).bind _=_ from Zag hl (Zag hr (ZgR h rfl))
theorem Zdo{b:Bfn}{x:X}{p:D}{o:Option D}(h:ev Γ σ x=some p)(k:bfn b p=o):ev Γ σ (.bfn b x)=o:=show(ev Γ σ x).bind _=_ from Zag h k
theorem ZuY{x:X}{p:D}{b:Bool}(h:ev Γ σ x=some p)(k:tru p=some b):ev Γ σ (.not x)=some (.bool (!b)):=show(ev Γ σ x).bind _=_ from Zag h (ZgR k rfl)
theorem ZfU{fr:List Nat}{t:Nat}{e it:X}{ds:List D}{g:D->D}(hi:ev Γ σ it=some (.list ds))(hl:ds.length<=16777216)(h:∀d∈ds,ev Γ ((mask fr σ).set t (.fz d)) e=some (g d)):ev Γ σ (.comp fr t e it (.const .none))=some (.list (ds.map g)):=
 show((ev Γ σ it).bind itemsOf).bind _=_ from Zag (Zag hi (Zc9 hl)) (Zag (ZgA λd hd=>ZgR (h d hd) rfl) (ZcU (Nat.le_trans (Nat.le_of_eq (List.length_map ..)) hl)))
theorem Zl7{fr:List Nat}{t:Nat}{e it c:X}{ds:List D}{p:D->Bool}{g:D->D}(hc:c.Za8=false)(hi:ev Γ σ it=some (.list ds))(hl:ds.length<=16777216)(ht:∀d∈ds,tv Γ ((mask fr σ).set t (.fz d)) c=some (p d))(h:∀d∈ds,p d=true->ev Γ ((mask fr σ).set t (.fz d)) e=some (g d)) :
  ev Γ σ (.comp fr t e it c)=some (.list ((ds.filter p).map g)):=by
 show((ev Γ σ it).bind itemsOf).bind _=_
 refine Zag (Zag hi (Zc9 hl)) (Zag (Ze0 (p:=p) (g:=g) λd hd=>?_) (ZcU (Nat.le_trans (Nat.le_of_eq (List.length_map ..)) (Nat.le_trans (List.length_filter_le _ _) hl))))
 erw[rwl (hc ..) ?_]
 refine Zag (ht d hd) ?_
 cases q:p d with
 | true=>exact ZgR (h d hd q) rfl
 | false=>rfl
end
theorem Zff{α:Type}(f:α->Bool):∀l:List α,ZdB (l.map λx=>.bool (f x))=some (l.map f)
 | []=>rfl
 | x::l=>by erw[rwl (List.map_cons ..) (rwl (ZvI ..) (rwl (Zff f l ..) ?_))];rfl
theorem strs_map(l:List (List Nat)):strs? (l.map .str)=some l:=by
 induction l with
 | nil=>rfl
 | cons x l ih=>erw[rwl (List.map_cons ..) (rwl (str1 ..) (rwl (ih ..) ?_))];rfl
noncomputable abbrev Item:=Bool×List (List Nat)
noncomputable def ZaU(it:Item):D:=.tuple [.bool it.1,.list (it.2.map .str)]
noncomputable def Zdi(c:Nat)(m:List Nat):Bool:=decide (m.headD 0<=c)&&decide (c<=m.getLastD 0)
noncomputable def ZgN(it:Item)(c:Nat):Bool:=(it.2.any (Zdi c)) != it.1
noncomputable abbrev Zh3(it:Item):Prop:=(∀m∈it.2,m≠[])∧(it.2.length<=1000)
theorem Zh3.ne{it:Item}(slf:Zh3 it):∀m∈it.2,m≠[]:=slf.1
theorem Zh3.len{it:Item}(slf:Zh3 it):it.2.length<=1000:=slf.2
noncomputable def ZsV(c:Nat):D->D
 | .str m=>.bool (Zdi c m)
 | _=>.none
theorem ZmF{it:Item}(ok:Zh3 it)(c:Nat):ZsP [ZaU it,.str [c]]=some (.bool (ZgN it c)):=by
 obtain⟨bar,ms⟩:=it
 refine Zbc rfl ⟨frz [.fz (ZaU (bar,ms)),.fz (.str [c]),.fz (.bool bar),.fz (.list (ms.map .str)),.un],Zaa (σ':=[.fz (ZaU (bar,ms)),.fz (.str [c]),.fz (.bool bar),.fz (.list (ms.map .str)),.un]) rfl (Za6 (ZbF ?_))⟩
 have h1:ev noΓ (frz [.fz (ZaU (bar,ms)),.fz (.str [c]),.fz (.bool bar),.fz (.list (ms.map .str)),.un]) (.comp [1] 4 (.cmp2 .le .le (.idx (.var 4) (.const (.int 0))) (.var 1) (.idx (.var 4) (.const (.int (-1))))) (.var 3) (.const .none))=some (.list ((ms.map .str).map (ZsV c))):=by
  refine ZfU (ds:=ms.map .str) rfl (by simp;have:=ok.len;simp at this;lia) λd hd=>?_
  obtain⟨m,hm,rfl⟩:=List.mem_map.mp hd
  have hne:=ok.ne m hm
  cases m with
  | nil=>exact absurd rfl hne
  | cons x r=>
   obtain⟨z,hz⟩:∃z,(x::r).getLast? = some z:=⟨_,List.getLast?_eq_some_getLast (by simp)⟩
   refine(ZeK (a:=x) (b:=c) (c:=z) (ZaL rfl rfl (ZaV (i:=0) rfl (by lia))) rfl (ZaL rfl rfl (Zhr hz))).trans ?_
   have e:(x::r).getLastD 0=z:=by rw[List.getLastD_eq_getLast?,hz];rfl
   show _=some (D.bool (decide ((x::r).headD 0<=c)&&decide (c<=(x::r).getLastD 0)))
   rw[e];rfl
 have e1:(ms.map D.str).map (ZsV c)=ms.map λm=>D.bool (Zdi c m):=by rw[List.map_map];rfl
 rw[e1] at h1
 have e2:(ms.map (Zdi c)).contains true=ms.any (Zdi c):=by
  rw[Bool.eq_iff_iff,List.contains_iff_mem,List.any_eq_true,List.mem_map]
 have h2:inD (.bool true) (.list (ms.map λm=>D.bool (Zdi c m)))=some (ms.any (Zdi c)):=by
  show(ZdB (ms.map λm=>D.bool (Zdi c m))).map (·.contains true)=_
  rw[Zff,Option.map_some,e2]
 refine ZhX (q:=.bool bar) (ZhX rfl h1 h2) rfl ?_
 show some (!(ms.any (Zdi c)==bar))=_
 unfold ZgN
 cases ms.any (Zdi c)<;>cases bar<;>rfl
end
section
noncomputable def setMembers:List Nat->List (List Nat)
 | a::c::x::r=>if c=45 then(if a<=x then [a,45,x]::setMembers r else setMembers r) else [a]::setMembers (c::x::r)
 | [a,c]=>[[a],[c]]
 | [a]=>[[a]]
 | []=>[]
theorem ZkG:setMembers []=[]:=rfl
theorem ZkF(a:Nat):setMembers [a]=[[a]]:=rfl
theorem ZkD(a c:Nat):setMembers [a,c]=[[a],[c]]:=rfl
theorem ZgS(a c x:Nat)(r:List Nat):setMembers (a::c::x::r)=if c=45 then(if a<=x then [a,45,x]::setMembers r else setMembers r) else [a]::setMembers (c::x::r):=rfl
noncomputable def ZbD(bar:Bool)(ms:List (List Nat)):Item:=match ms with
 | (33::t)::r=>if bar then(true,(33::t)::r) else(true,t.map (λc=>[c])++r)
 | ms=>(bar,ms)
noncomputable def Zh5(b:List Nat):Item:=ZbD (b.head?==some 33) (setMembers (if b.head?==some 33 then b.tail else b))
theorem Ze9(ms:List (List Nat)):ZbD true ms=(true,ms):=by
 unfold ZbD
 split<;>rfl
theorem Zbn:∀(b:List Nat),∀m∈setMembers b,m≠[]
 | [],m,h=>by simp[ZkG,ZkF,ZkD,ZgS] at h
 | [a],m,h=>by simp[ZkG,ZkF,ZkD,ZgS] at h;simp[h]
 | [a,c],m,h=>by simp[ZkG,ZkF,ZkD,ZgS] at h;rcases h with rfl | rfl<;>simp
 | a::c::x::r,m,h=>by
  rw[ZgS] at h
  split at h
  ·split at h
   ·rcases List.mem_cons.mp h with rfl | h
    ·simp
    ·exact Zbn r m h
   ·exact Zbn r m h
  ·rcases List.mem_cons.mp h with rfl | h
   ·simp
   ·exact Zbn (c::x::r) m h
theorem Zcb:∀(b:List Nat),(setMembers b).length<=b.length
 | []=>by simp[ZkG,ZkF,ZkD,ZgS]
 | [a]=>by simp[ZkG,ZkF,ZkD,ZgS]
 | [a,c]=>by simp[ZkG,ZkF,ZkD,ZgS]
 | a::c::x::r=>by
  erw[rwl (ZgS ..) ?_]
  have h1:=Zcb r
  have h2:=Zcb (c::x::r)
  split
  ·split
   ·simp;lia
   ·simp;lia
  ·simp at h2 ⊢;lia
noncomputable def Zii:X:=match Zc8 with
 | .seq _ (.seq _ (.seq _ (.seq (.whl t _) _)))=>t
 | _=>.nil
noncomputable def ZiS:S:=match Zc8 with
 | .seq _ (.seq _ (.seq _ (.seq (.whl _ b) _)))=>b
 | _=>.skip
noncomputable def stS(b:List Nat)(bar:Bool)(i:Nat)(ms:List D):Sg:=[.fz (.str b),.fz (.bool bar),.fz (.int (i:Int)),.own ms]
section
variable {b:List Nat}{bar:Bool}{ms:List D}
theorem Zrp(hb:b.length=i):tv noΓ (stS b bar i ms) Zii=some false:=by
 refine Zaj (p:=.int (i:Int)) (q:=.int (b.length:Int)) rfl rfl ?_
 show some (decide ((i:Int) < (b.length:Int)))=_
 erw[rwl (hb ..) ?_];simp
theorem Zjr{i:Nat}(hb:i < b.length):tv noΓ (stS b bar i ms) Zii=some true:=by
 refine Zaj (p:=.int (i:Int)) (q:=.int (b.length:Int)) rfl rfl ?_
 show some (decide ((i:Int) < (b.length:Int)))=_
 rw[decide_eq_true (by lia)]
theorem set_range{pre r:List Nat}{a x:Nat}(hb:b=pre++a::45::x::r)(hl:b.length<=1000)(hm:ms.length<=1000) :
  ex noΓ fuel ZiS (stS b bar pre.length ms)=some (.next,stS b bar (pre.length+3) (if a<=x then ms++[.str [a,45,x]] else ms)):=by
 have hlen:b.length=pre.length+(r.length+3):=by erw[rwl (hb ..) ?_];simp
 refine Zaf (x_t ?_ ?_)
 ·refine ZaK (Zaj (p:=.str [45]) (q:=.str [45]) (Zco (p:=.str b) (q:=.int ((pre.length+1:Nat):Int)) (r:=.int ((pre.length+2:Nat):Int)) rfl rfl rfl ?_) rfl rfl) (ZaK (Zaj (p:=.int ((pre.length+2:Nat):Int)) (q:=.int (b.length:Int)) rfl rfl ?_) rfl)
  ·show some (D.str (slice b _ _))=_
   erw[rwl (hb ..) (rwl (ZbR ..) ?_)];rfl
  ·show some (decide _)=_
   rw[decide_eq_true (by lia)]
 ·have e1:ev noΓ (stS b bar pre.length ms) (.idx (.var 0) (.var 2))=some (.str [a]):=by
   refine ZaL (p:=.str b) (q:=.int (pre.length:Int)) rfl rfl (ZaV ?_ (by lia))
   erw[rwl (hb ..) ?_];exact ZbB pre _ 0
  have e2:ev noΓ (stS b bar pre.length ms) (.idx (.var 0) (.bin .add (.var 2) (.const (.int 2))))=some (.str [x]):=by
   refine ZaL (p:=.str b) (q:=.int ((pre.length+2:Nat):Int)) rfl rfl (ZaV ?_ (by lia))
   erw[rwl (hb ..) ?_];exact ZbB pre _ 2
  have h3:(!ltL [x] [a])=decide (a<=x):=by erw[rwl (lt1 ..) ?_];by_cases q:x < a<;>simp[q]<;>lia
  by_cases h:a<=x
  ·erw[rwl (if_pos h ..) ?_]
   refine Zaa (σ':=stS b bar pre.length (ms++[.str [a,45,x]])) (x_t (Zaj e1 e2 ?_) (Zaf (Zel (ds:=ms) (d:=.str [a,45,x]) rfl (Zco (p:=.str b) (q:=.int (pre.length:Int)) (r:=.int ((pre.length+3:Nat):Int)) rfl rfl rfl ?_) (by lia)))) (Zaf (ZcK (p:=.int (pre.length:Int)) (q:=.int 3) rfl rfl rfl))
   ·show some (!ltL [x] [a])=_
    erw[rwl (h3 ..) (rwl (decide_eq_true h ..) ?_)]
   ·show some (D.str (slice b _ _))=_
    have:=ZbR pre (a::45::x::r) 0 3
    erw[rwl (hb ..) ?_]
    exact congrArg (λz=>some (D.str z)) this
  ·erw[rwl (if_neg h ..) ?_]
   refine Zaa (σ':=stS b bar pre.length ms) (x_f (Zaj e1 e2 ?_) rfl) (Zaf (ZcK (p:=.int (pre.length:Int)) (q:=.int 3) rfl rfl rfl))
   show some (!ltL [x] [a])=_
   erw[rwl (h3 ..) (rwl (decide_eq_false h ..) ?_)]
theorem Zee{pre r:List Nat}{a:Nat}(hb:b=pre++a::r)(hr:∀x r',r≠45::x::r')(hl:b.length<=1000)(hm:ms.length<=1000) :
  ex noΓ fuel ZiS (stS b bar pre.length ms)=some (.next,stS b bar (pre.length+1) (ms++[.str [a]])):=by
 have hlen:b.length=pre.length+(r.length+1):=by rw[hb];simp
 refine Zaf (x_f ?_ ?_)
 ·have e1:ev noΓ (stS b bar pre.length ms) (.slc (.var 0) (.bin .add (.var 2) (.const (.int 1))) (.bin .add (.var 2) (.const (.int 2))))=some (.str (r.take 1)):=by
   refine Zco (p:=.str b) (q:=.int ((pre.length+1:Nat):Int)) (r:=.int ((pre.length+2:Nat):Int)) rfl rfl rfl ?_
   show some (D.str (slice b _ _))=_
   rw[hb,ZbR];rfl
  by_cases h:r.take 1=[45]
  ·refine ZaK (Zaj e1 (q:=.str [45]) rfl (by rw[h];rfl)) (Zav (Zaj (p:=.int ((pre.length+2:Nat):Int)) (q:=.int (b.length:Int)) rfl rfl ?_))
   show some (decide _)=_
   rw[decide_eq_false]
   intro q
   match r,h,hr with
   | [],h,_=>cases h
   | [c],h,_=>simp at hlen;lia
   | c::x::r',h,hr=>simp at h;exact hr x r' (by rw[h])
  ·refine Zav (Zaj e1 (q:=.str [45]) rfl ?_)
   show some (r.take 1==[45])=_
   rw[beq_eq_false_iff_ne.mpr h]
 ·refine Zaa (σ':=stS b bar pre.length (ms++[.str [a]])) (Zel (ds:=ms) (d:=.str [a]) rfl (ZaL (p:=.str b) (q:=.int (pre.length:Int)) rfl rfl (ZaV ?_ (by lia))) (by lia)) (Zaf (ZcK (p:=.int (pre.length:Int)) (q:=.int 1) rfl rfl rfl))
  rw[hb];exact ZbB pre _ 0
theorem Zc4(hl:b.length<=1000):∀(n:Nat) (r pre:List Nat) (ms:List D) (N:Nat),r.length<=n->b=pre++r->ms.length+r.length<=1000->n < N->
  Zbj (λσ=>tv noΓ σ Zii) (ex noΓ fuel ZiS) N (stS b bar pre.length ms)=some (.next,stS b bar b.length (ms++(setMembers r).map .str))
 | n,[],pre,ms,N+1,_,hb,_,_=>by
  have:b.length=pre.length:=by erw[rwl (hb ..) ?_];simp
  erw[rwl (ZcT (Zrp this) ..) (rwl (this ..) ?_)]
  simp[ZkG,ZkF,ZkD,ZgS]
 | n+1,[a],pre,ms,N+1,hn,hb,hm,hN=>by
  simp at hm
  refine ZiJ (Zjr (by erw[rwl (hb ..) ?_];simp)) (Zee hb (λ_ _=>nofun) hl (by lia)) ?_
  have:=Zc4 hl n [] (pre++[a]) (ms++[.str [a]]) N (by simp) (by erw[rwl (hb ..) ?_];simp) (by simp;lia) (by lia)
  rw[List.length_append] at this
  simpa[ZkG,ZkF,ZkD,ZgS] using this
 | n+1,[a,c],pre,ms,N+1,hn,hb,hm,hN=>by
  simp at hm hn
  refine ZiJ (Zjr (by erw[rwl (hb ..) ?_];simp)) (Zee hb (λ_ _=>by simp) hl (by lia)) ?_
  have:=Zc4 hl n [c] (pre++[a]) (ms++[.str [a]]) N (by simpa using hn) (by erw[rwl (hb ..) ?_];simp) (by simp;lia) (by lia)
  rw[List.length_append] at this
  simpa[ZkG,ZkF,ZkD,ZgS] using this
 | n+1,a::c::x::r,pre,ms,N+1,hn,hb,hm,hN=>by
  simp at hm hn
  by_cases hc:c=45
  ·subst hc
   refine ZiJ (Zjr (by erw[rwl (hb ..) ?_];simp)) (set_range hb hl (by lia)) ?_
   have:=Zc4 hl n r (pre++[a,45,x]) (if a<=x then ms++[.str [a,45,x]] else ms) N (by lia) (by erw[rwl (hb ..) ?_];simp) (by split<;>(try simp)<;>lia) (by lia)
   rw[List.length_append] at this
   erw[rwl (ZgS ..) (rwl (if_pos rfl ..) ?_)]
   by_cases h:a<=x
   ·rw[if_pos h] at this ⊢
    erw[rwl (if_pos h ..) ?_]
    simpa using this
   ·rw[if_neg h] at this ⊢
    erw[rwl (if_neg h ..) ?_]
    simpa using this
  ·refine ZiJ (Zjr (by erw[rwl (hb ..) ?_];simp)) (Zee hb (λy r' q=>hc (by cases q;rfl)) hl (by lia)) ?_
   have:=Zc4 hl n (c::x::r) (pre++[a]) (ms++[.str [a]]) N (by simp;lia) (by erw[rwl (hb ..) ?_];simp) (by simp;lia) (by lia)
   rw[List.length_append] at this
   erw[rwl (ZgS ..) (rwl (if_neg hc ..) ?_)]
   simpa using this
 | 0,_::_,_,_,_,hn,_,_,_=>by simp at hn
 | n,_,_,_,0,_,_,_,hN=>absurd hN (Nat.not_lt_zero _)
end
theorem ZbA:∀(b:List Nat),∀m∈setMembers b,m.length<=3
 | [],m,h=>by simp[ZkG,ZkF,ZkD,ZgS] at h
 | [a],m,h=>by simp[ZkG,ZkF,ZkD,ZgS] at h;simp[h]
 | [a,c],m,h=>by simp[ZkG,ZkF,ZkD,ZgS] at h;rcases h with rfl | rfl<;>simp
 | a::c::x::r,m,h=>by
  rw[ZgS] at h
  split at h
  ·split at h
   ·rcases List.mem_cons.mp h with rfl | h
    ·simp
    ·exact ZbA r m h
   ·exact ZbA r m h
  ·rcases List.mem_cons.mp h with rfl | h
   ·simp
   ·exact ZbA (c::x::r) m h
set_option tactic.hygienic true in
theorem Zmy{bar:Bool}{ms:List (List Nat)}(hn:∀m∈ms,m≠[])(h3:∀m∈ms,m.length<=3)(hl:ms.length<=900):Zh3 (ZbD bar ms):=by
 unfold ZbD
 split
 ·rename_i t r
  split
  ·exact⟨hn,Nat.le_trans hl (by decide)⟩
  ·refine⟨λm hm=>?_,?_⟩
   ·rcases List.mem_append.mp hm with hm | hm
    ·obtain⟨c,_,rfl⟩:=List.mem_map.mp hm;simp
    ·exact hn m (List.mem_cons_of_mem _ hm)
   ·have:=h3 _ List.mem_cons_self
    simp at this hl ⊢
    lia
 ·exact⟨hn,Nat.le_trans hl (by decide)⟩
theorem Zi9{b:List Nat}(hl:b.length<=900):(setMembers (if b.head?==some 33 then b.tail else b)).length<=900:=by
 refine Nat.le_trans (Zcb _) ?_
 split
 ·simp;lia
 ·exact hl
theorem ZpP{b:List Nat}(hl:b.length<=900):Zh3 (Zh5 b):=Zmy (Zbn _) (ZbA _) (Zi9 hl)
noncomputable def ZoO:S:=match Zc8 with
 | .seq _ (.seq _ (.seq _ (.seq _ f)))=>f
 | _=>.skip
set_option tactic.hygienic true in
theorem ZpL{b:List Nat}{bar:Bool}{i:Nat}{ms:List (List Nat)}(hn:∀m∈ms,m≠[])(h3:∀m∈ms,m.length<=3)(hl:ms.length<=900) :
  ∃σ,ex noΓ fuel ZoO (stS b bar i (ms.map .str))=some (.ret (ZaU (ZbD bar ms)),σ):=by
 have stop:tv noΓ (stS b bar i (ms.map .str)) (.tand (.cons (.tnot (.tval (.var 1))) (.cons (.tcmp .ne (.tvar 3) (.list .nil)) (.cons (.tcmp .eq (.idx (.idx (.tvar 3) (.const (.int 0))) (.const (.int 0))) (.const (.str [33]))) .nil))))=some false->ZbD bar ms=(bar,ms)->∃σ,ex noΓ fuel ZoO (stS b bar i (ms.map .str))=some (.ret (ZaU (ZbD bar ms)),σ):=λh1 h2=>by
  erw[rwl (h2 ..) ?_]
  exact⟨_,Zaa (x_f h1 rfl) (Za6 (ZbF rfl))⟩
 cases bar with
 | true=>exact stop (Zav (Zfj (Zcz (b:=true) rfl rfl))) (Ze9 ms)
 | false=>
  have t1:tv noΓ (stS b false i (ms.map .str)) (.tnot (.tval (.var 1)))=some true:=Zfj (Zcz (b:=false) rfl rfl)
  cases ms with
  | nil=>exact stop (ZaK t1 (Zav (Zaj rfl rfl rfl))) rfl
  | cons m r=>
   have t2:tv noΓ (stS b false i ((m::r).map .str)) (.tcmp .ne (.tvar 3) (.list .nil))=some true:=Zaj rfl rfl rfl
   cases m with
   | nil=>exact absurd rfl (hn _ List.mem_cons_self)
   | cons c t=>
    have e1:ev noΓ (stS b false i (((c::t)::r).map .str)) (.idx (.tvar 3) (.const (.int 0)))=some (.str (c::t)):=ZaL rfl rfl (ZaM (i:=0) rfl (by lia))
    have e2:ev noΓ (stS b false i (((c::t)::r).map .str)) (.idx (.idx (.tvar 3) (.const (.int 0))) (.const (.int 0)))=some (.str [c]):=ZaL e1 rfl (ZaV (i:=0) rfl (by lia))
    by_cases hc:c=33
    ·subst hc
     refine⟨frz [.fz (.str b),.fz (.bool true),.fz (.int (i:Int)),.fz (.list ((t.map (λc=>D.str [c]))++r.map .str))],Zaa (σ':=[.fz (.str b),.fz (.bool true),.fz (.int (i:Int)),.fz (.list ((t.map (λc=>D.str [c]))++r.map .str))]) (x_t (ZaK t1 (ZaK t2 (ZaK (Zaj e2 rfl rfl) rfl))) (Zaa (Zaw (d:=.bool true) rfl) (Zaf (Zaw ?_)))) (Za6 ((ZbF (d:=D.tuple [.bool true,.list (t.map (λc=>D.str [c])++r.map .str)]) rfl).trans ?_))⟩
     ·refine ZaF (p:=.list (t.map λc=>.str [c])) (q:=.list (r.map .str)) ?_ (Zco (p:=.list (((33::t)::r).map .str)) (q:=.int 1) (r:=.none) rfl rfl rfl ?_) ?_
      ·have e3:ev noΓ ([.fz (.str b),.fz (.bool true),.fz (.int (i:Int)),.own (((33::t)::r).map .str)]) (.slc (.idx (.tvar 3) (.const (.int 0))) (.const (.int 1)) (.const .none))=some (.str t):=
        Zco (ZaL rfl rfl (ZaM (i:=0) rfl (by lia))) rfl rfl (congrArg (λz=>some (D.str z)) (Zcf (33::t) 1))
       exact Zdo e3 rfl
      ·exact congrArg (λz=>some (D.list z)) (Zcf (((33::t)::r).map D.str) 1)
      ·refine ZcU ?_
       have:=h3 _ List.mem_cons_self
       simp at this hl ⊢
       lia
     ·show some (Fl.ret (D.tuple [.bool true,.list (t.map (λc=>D.str [c])++r.map .str)]),_)=some (Fl.ret (D.tuple [.bool true,.list ((t.map (λc=>[c])++r).map .str)]),_)
      erw[rwl (List.map_append ..) (rwl (List.map_map ..) ?_)]
      rfl
    ·refine stop (ZaK t1 (ZaK t2 (Zav (Zaj e2 (q:=.str [33]) rfl ?_)))) ?_
     ·show some ([c]==[33])=_
      rw[beq_eq_false_iff_ne.mpr (by simpa using hc)]
     ·unfold ZbD
      split
      ·rename_i e;cases e;exact absurd rfl hc
      ·rfl
theorem Zqh{b:List Nat}(hb:b≠[])(hl:b.length<=900):Zuf [.str b]=some (ZaU (Zh5 b)):=by
 cases b with
 | nil=>exact absurd rfl hb
 | cons c r=>
  refine Zbc rfl ?_
  obtain⟨σ,hf⟩:=ZpL (b:=c::r) (bar:=(c::r).head?==some 33) (i:=(c::r).length) (ms:=setMembers (if(c::r).head?==some 33 then(c::r).tail else c::r)) (Zbn _) (ZbA _) (Zi9 hl)
  refine⟨σ,Zaa (σ':=[.fz (.str (c::r)),.fz (.bool ((c::r).head?==some 33)),.un,.un]) (Zaw (ZhX (ZaL rfl rfl (ZaV (i:=0) rfl (by lia))) rfl ?_)) ?_⟩
  ·show some ([c]==[33])=some (some c==some 33)
   cases h:(c==33)<;>simp_all
  ·by_cases hc:c=33
   ·subst hc
    refine Zaa (σ':=[.fz (.str (33::r)),.fz (.bool true),.fz (.int 1),.un]) (Zaw (ZeX (Zcz rfl rfl) rfl)) (Zaa (σ':=stS (33::r) true 1 []) rfl ?_)
    have:=Zc4 (b:=33::r) (bar:=true) (by simp at hl ⊢;lia) r.length r [33] [] fuel (Nat.le_refl _) rfl (by simp at hl ⊢;lia) (by simp[fuel] at hl ⊢;lia)
    exact Zaa this hf
   ·have hb:((c::r).head?==some 33)=false:=by simpa using hc
    rw[hb] at hf ⊢
    refine Zaa (σ':=[.fz (.str (c::r)),.fz (.bool false),.fz (.int 0),.un]) (Zaw (Zgq (Zcz rfl rfl) rfl)) (Zaa (σ':=stS (c::r) false 0 []) rfl ?_)
    have:=Zc4 (b:=c::r) (bar:=false) (by lia) (c::r).length (c::r) [] [] fuel (Nat.le_refl _) rfl (by simp at hl ⊢;lia) (by simp[fuel] at hl ⊢;lia)
    refine Zaa this ?_
    have e:ZaU (Zh5 (c::r))=ZaU (ZbD false (setMembers (if false=true then(c::r).tail else c::r))):=by unfold Zh5;erw[rwl (hb ..) ?_]
    erw[rwl (e ..) ?_]
    exact hf
end
section
set_option backward.match.sparseCases false
noncomputable def Zae(c:Nat)(l:List Nat)(lo:Nat):Option Nat:=(List.range' lo (l.length - lo)).find? λi=>l[i]?==some c
theorem ZcP(c:Nat)(p r:List Nat)(i:Nat):Zae c (p++r) (p.length+i)=(Zae c r i).map (p.length + ·):=by
 unfold Zae
 have e:List.range' (p.length+i) ((p++r).length - (p.length+i))=(List.range' i (r.length - i)).map (p.length + ·):=by
  erw[rwl (List.map_add_range' ..) ?_]
  congr 1
  simp
  lia
 erw[rwl (e ..) (rwl (List.find?_map ..) ?_)]
 congr 1
 congr 1
 funext j
 simp only[Function.comp]
 erw[rwl (ZbB ..) ?_]
theorem ZaT{c:Nat}{l:List Nat}{lo k:Nat}(h:Zae c l lo=some k):lo<=k∧l[k]? = some c∧∀j,lo<=j->j < k->l[j]?≠some c:=by
 unfold Zae at h
 have h1:=List.find?_some h
 have h2:=List.mem_of_find?_eq_some h
 simp only[List.mem_range'_1] at h2
 refine⟨h2.1,by simpa using h1,λj hj1 hj2=>?_⟩
 rw[List.find?_range'_eq_some] at h
 have:=h.2.2 j hj1 hj2
 simpa using this
noncomputable def clS(r:List Nat):Nat:=if r.head?==some 33 then 2 else 1
theorem Zd6{α:Type}(l:List α)(k:Nat):(l.drop k).length<=l.length:=by erw[rwl (List.length_drop ..) ?_];exact Nat.sub_le ..
inductive Sn where
 | star
 | any
 | set (b:List Nat)
 | lit (c:Nat)
noncomputable def Zo9:Nat->List Nat->List Sn
 | 0,_=>[]
 | _+1,[]=>[]
 | n+1,c::r=>if c=42 then .star::Zo9 n r else if c=63 then .any::Zo9 n r else
  ((if c=91 then Zae 93 r (clS r) else none).map λk=>Sn.set (r.take k)::Zo9 n (r.drop (k+1))).getD (.lit c::Zo9 n r)
theorem Zix:∀(n m:Nat) (p:List Nat),p.length<=n->p.length<=m->Zo9 n p=Zo9 m p
 | 0,0,_,_,_=>rfl
 | 0,_+1,[],_,_=>rfl
 | _+1,0,[],_,_=>rfl
 | _+1,_+1,[],_,_=>rfl
 | 0,_,_::_,h,_=>absurd h (Nat.not_succ_le_zero _)
 | _+1,0,_::_,_,h=>absurd h (Nat.not_succ_le_zero _)
 | n+1,m+1,c::r,h,h'=>by
  have e:=Zix n m r (Nat.le_of_succ_le_succ h) (Nat.le_of_succ_le_succ h')
  have e2:=λk=>Zix n m (r.drop (k+1)) (Nat.le_trans (Zd6 ..) (Nat.le_of_succ_le_succ h)) (Nat.le_trans (Zd6 ..) (Nat.le_of_succ_le_succ h'))
  show(if c=42 then _ else _)=(if c=42 then _ else _)
  erw[rwl (e ..) ?_]
  simp only[e2]
noncomputable def ZpD(p:List Nat):List Sn:=Zo9 p.length p
theorem ZqC:ZpD []=[]:=rfl
theorem Ziq{r:List Nat}{k:Nat}(h:Zae 93 r (clS r)=some k):ZpD (91::r)=.set (r.take k)::ZpD (r.drop (k+1)):=by
 show((Zae 93 r (clS r)).map λk=>Sn.set (r.take k)::Zo9 r.length (r.drop (k+1))).getD _=_
 erw[rwl (h ..) ?_]
 exact congrArg (Sn.set (r.take k)::·) (Zix _ _ _ (Zd6 ..) (Nat.le_refl _))
theorem ZgI{c:Nat}{r:List Nat}(h1:c≠42)(h2:c≠63)(h3:c=91->Zae 93 r (clS r)=none):ZpD (c::r)=.lit c::ZpD r:=by
 refine(if_neg h1).trans ((if_neg h2).trans ?_)
 by_cases h:c=91
 ·erw[rwl (if_pos h ..) (rwl (h3 h ..) ?_)];rfl
 ·erw[rwl (if_neg h ..) ?_];rfl
theorem ZgL{P:List Nat->Prop}(hn:P [])(hs:∀r,P r->P (42::r))(ha:∀r,P r->P (63::r))(hb:∀r k,Zae 93 r (clS r)=some k->P (r.drop (k+1))->P (91::r))(hl:∀c r,c≠42->c≠63->(c=91->Zae 93 r (clS r)=none)->P r->P (c::r)):∀(n:Nat) (p:List Nat),p.length<=n->P p
 | _,[],_=>hn
 | 0,_::_,h=>absurd h (Nat.not_succ_le_zero _)
 | n+1,c::r,h=>by
  have ih:=λp=>ZgL hn hs ha hb hl n p
  have h0:=Nat.le_of_succ_le_succ h
  by_cases h1:c=42
  ·exact h1▸hs r (ih r h0)
  ·by_cases h2:c=63
   ·exact h2▸ha r (ih r h0)
   ·by_cases h3:c=91
    ·cases hk:Zae 93 r (clS r) with
     | none=>exact hl c r h1 h2 (λ_=>hk) (ih r h0)
     | some k=>exact h3▸hb r k hk (ih _ (Nat.le_trans (Zd6 ..) h0))
    ·exact hl c r h1 h2 (λq=>absurd q h3) (ih r h0)
noncomputable def Zrv:Sn->Option Item
 | .star=>none
 | .any=>some (true,[])
 | .set b=>some (Zh5 b)
 | .lit c=>some (false,[[c]])
noncomputable def Zaq(p:List Nat):List (Option Item):=(ZpD p).map Zrv
noncomputable def Zfv:Option Item->D
 | none=>.str [42]
 | some it=>ZaU it
theorem ZvL:Zfv none=.str [42]:=rfl
theorem ZvU(it:Item):Zfv (some it)=ZaU it:=rfl
noncomputable def ZjD:X:=match ZcV with
 | .seq _ (.seq _ (.seq (.whl t _) _))=>t
 | _=>.nil
noncomputable def Zfy:S:=match ZcV with
 | .seq _ (.seq _ (.seq (.whl _ b) _))=>b
 | _=>.skip
noncomputable def stI(p:List Nat)(its:List D)(i:Nat)(s3 s4:Slot):Sg:=[.fz (.str p),.own its,.fz (.int (i:Int)),s3,s4]
theorem ZpJ{Γ:ZaC}{σ:Sg}{x y z:X}{l:List Nat}{c i:Nat}(hx:ev Γ σ x=some (.str l))(hy:ev Γ σ y=some (.str [c]))(hz:ev Γ σ z=some (.int (i:Int)))(hi:i<=1000000000) :
  ev Γ σ (.find2 x y z)=some (.int (match Zae c l i with | some k=>(k:Int) | none=>-1)):=show(ev Γ σ x).bind _=_ from Zag hx (Zag hy (Zag hz (if_pos ⟨Int.natCast_nonneg i,by lia⟩)))
section
variable {p:List Nat}{its:List D}{s3 s4:Slot}
theorem Zjj{pre r:List Nat}{c:Nat}(hb:p=pre++c::r)(hl:p.length<=800){rest:S}{o:Option (Fl×Sg)}
  (k:ex ΓA fuel rest (stI p its (pre.length+1) (.fz (.str [c])) (.fz (.int (match Zae 93 r (clS r) with | some k=>((pre.length+1+k:Nat):Int) | none=>-1))))=o) :
  ex ΓA fuel (.seq (.asg 3 (.idx (.var 0) (.var 2))) (.seq (.aug 2 .add (.const (.int 1))) (.seq (.asg 4 (.find2 (.var 0) (.const (.str [93])) (.bin .add (.var 2) (.ite (.tcmp .eq (.slc (.var 0) (.var 2) (.bin .add (.var 2) (.const (.int 1)))) (.const (.str [33]))) (.const (.int 2)) (.const (.int 1)))))) rest))) (stI p its pre.length s3 s4)=o:=by
 have hlen:p.length=pre.length+(r.length+1):=by erw[rwl (hb ..) ?_];simp
 refine Zaa (σ':=stI p its pre.length (.fz (.str [c])) s4) (Zaw (ZaL (p:=.str p) (q:=.int (pre.length:Int)) rfl rfl (ZaV (by erw[rwl (hb ..) ?_];exact ZbB pre _ 0) (by lia)))) ?_
 refine Zaa (σ':=stI p its (pre.length+1) (.fz (.str [c])) s4) (ZcK (p:=.int (pre.length:Int)) (q:=.int 1) rfl rfl rfl) ?_
 have e1:ev ΓA (stI p its (pre.length+1) (.fz (.str [c])) s4) (.slc (.var 0) (.var 2) (.bin .add (.var 2) (.const (.int 1))))=some (.str (r.take 1)):=by
  refine Zco (p:=.str p) (q:=.int ((pre.length+1:Nat):Int)) (r:=.int ((pre.length+2:Nat):Int)) rfl rfl rfl ?_
  show some (D.str (slice p _ _))=_
  erw[rwl (hb ..) (rwl (ZbR ..) ?_)];rfl
 have e2:ev ΓA (stI p its (pre.length+1) (.fz (.str [c])) s4) (.ite (.tcmp .eq (.slc (.var 0) (.var 2) (.bin .add (.var 2) (.const (.int 1)))) (.const (.str [33]))) (.const (.int 2)) (.const (.int 1)))=some (.int ((clS r:Nat):Int)):=by
  have hh:(r.take 1==[33])=(r.head?==some 33):=by
   cases r with
   | nil=>rfl
   | cons a r=>show([a]==[33])=(some a==some 33);cases h:(a==33)<;>simp_all
  have e3:tv ΓA (stI p its (pre.length+1) (.fz (.str [c])) s4) (.tcmp .eq (.slc (.var 0) (.var 2) (.bin .add (.var 2) (.const (.int 1)))) (.const (.str [33])))=some (r.head?==some 33):=Zaj e1 (q:=.str [33]) rfl (by show some (r.take 1==[33])=_;erw[rwl (hh ..) ?_])
  unfold clS
  cases h:(r.head?==some 33) with
  | true=>exact ZeX (h▸e3) rfl
  | false=>exact Zgq (h▸e3) rfl
 have e4:ev ΓA (stI p its (pre.length+1) (.fz (.str [c])) s4) (.bin .add (.var 2) (.ite (.tcmp .eq (.slc (.var 0) (.var 2) (.bin .add (.var 2) (.const (.int 1)))) (.const (.str [33]))) (.const (.int 2)) (.const (.int 1))))=some (.int ((pre.length+1+clS r:Nat):Int)):=
  ZaF (p:=.int ((pre.length+1:Nat):Int)) rfl e2 rfl
 have hcl:clS r<=2:=by unfold clS;split<;>decide
 have e5:=ZpJ (σ:=stI p its (pre.length+1) (.fz (.str [c])) s4) (x:=.var 0) (y:=.const (.str [93])) rfl rfl e4 (by lia)
 have e6:Zae 93 p (pre.length+1+clS r)=(Zae 93 r (clS r)).map (pre.length+1 + ·):=by
  have:=ZcP 93 (pre++[c]) r (clS r)
  erw[rwl (hb ..) ?_]
  simpa using this
 rw[e6] at e5
 refine Zaa (Zaw (e5.trans ?_)) k
 cases Zae 93 r (clS r)<;>rfl
theorem Zmt{Γ:ZaC}{σ:Sg}{x y:X}{a b:Nat}(hx:ev Γ σ x=some (.str [a]))(hy:ev Γ σ y=some (.str [b])):tv Γ σ (.tcmp .eq x y)=some (decide (a=b)):=by
 refine Zaj hx hy ?_
 show some ([a]==[b])=_
 by_cases h:a=b
 ·subst h;simp
 ·rw[decide_eq_false h,beq_eq_false_iff_ne.mpr (by simpa using h)]
theorem ZbV{Γ:ZaC}{σ:Sg}{x y:X}{a b:Nat}(h:a=b)(hx:ev Γ σ x=some (.str [a]))(hy:ev Γ σ y=some (.str [b])):tv Γ σ (.tcmp .eq x y)=some true:=by erw[rwl (Zmt hx hy ..) (rwl (decide_eq_true h ..) ?_)]
theorem ZaH{Γ:ZaC}{σ:Sg}{x y:X}{a b:Nat}(h:a≠b)(hx:ev Γ σ x=some (.str [a]))(hy:ev Γ σ y=some (.str [b])):tv Γ σ (.tcmp .eq x y)=some false:=by erw[rwl (Zmt hx hy ..) (rwl (decide_eq_false h ..) ?_)]
theorem Zq0{pre r:List Nat}(hb:p=pre++42::r)(hl:p.length<=800)(hm:its.length<=1000):∃t3 t4,ex ΓA fuel Zfy (stI p its pre.length s3 s4)=some (.next,stI p (its++[.str [42]]) (pre.length+1) t3 t4):=
 ⟨_,_,Zjj hb hl (Zaf (x_t (ZbV rfl rfl rfl) (Zaf (Zel (ds:=its) rfl rfl (by lia)))))⟩
theorem ZvA{pre r:List Nat}(hb:p=pre++63::r)(hl:p.length<=800)(hm:its.length<=1000):∃t3 t4,ex ΓA fuel Zfy (stI p its pre.length s3 s4)=some (.next,stI p (its++[ZaU (true,[])]) (pre.length+1) t3 t4):=
 ⟨_,_,Zjj hb hl (Zaf (x_f (ZaH (by decide) rfl rfl) (Zaf (x_t (ZbV rfl rfl rfl) (Zaf (Zel (ds:=its) rfl rfl (by lia)))))))⟩
theorem Zpb{pre r:List Nat}{c:Nat}(hb:p=pre++c::r)(h1:c≠42)(h2:c≠63)(h3:c=91->Zae 93 r (clS r)=none)(hl:p.length<=800)(hm:its.length<=1000) :
  ∃t3 t4,ex ΓA fuel Zfy (stI p its pre.length s3 s4)=some (.next,stI p (its++[ZaU (false,[[c]])]) (pre.length+1) t3 t4):=by
 refine⟨_,_,Zjj hb hl (Zaf (x_f (ZaH h1 rfl rfl) (Zaf (x_f (ZaH h2 rfl rfl) (Zaf (x_f ?_ (Zaf (Zel (ds:=its) rfl rfl (by lia)))))))))⟩
 by_cases h:c=91
 ·erw[rwl (h3 h ..) ?_]
  exact ZaK (ZbV h rfl rfl) (Zav (Zaj rfl rfl rfl))
 ·exact Zav (ZaH h rfl rfl)
theorem Zr1{pre r:List Nat}{k:Nat}(hb:p=pre++91::r)(hk:Zae 93 r (clS r)=some k)(hl:p.length<=800)(hm:its.length<=1000) :
  ∃t3 t4,ex ΓA fuel Zfy (stI p its pre.length s3 s4)=some (.next,stI p (its++[ZaU (Zh5 (r.take k))]) (pre.length+1+(k+1)) t3 t4):=by
 have hlen:p.length=pre.length+(r.length+1):=by erw[rwl (hb ..) ?_];simp
 obtain⟨k1,k2,_⟩:=ZaT hk
 have hkl:k < r.length:=by
  rcases Nat.lt_or_ge k r.length with q | q
  ·exact q
  ·rw[List.getElem?_eq_none q] at k2;cases k2
 have hcl:1<=clS r:=by unfold clS;split<;>decide
 refine⟨.fz (.str [91]),.fz (.int ((pre.length+1+k:Nat):Int)),Zjj hb hl ?_⟩
 erw[rwl (hk ..) ?_]
 refine Zaf (x_f (ZaH (by decide) rfl rfl) (Zaf (x_f (ZaH (by decide) rfl rfl) (Zaf (x_t (ZaK (ZbV rfl rfl rfl) (ZaK (Zaj (p:=.int ((pre.length+1+k:Nat):Int)) (q:=.int 0) rfl rfl ?_) rfl)) ?_)))))
 ·show some (decide _)=_
  rw[decide_eq_true (by lia)]
 ·have e1:ev ΓA (stI p its (pre.length+1) (.fz (.str [91])) (.fz (.int ((pre.length+1+k:Nat):Int)))) (.slc (.var 0) (.var 2) (.var 4))=some (.str (r.take k)):=by
   refine Zco (p:=.str p) (q:=.int ((pre.length+1:Nat):Int)) (r:=.int ((pre.length+1+k:Nat):Int)) rfl rfl rfl ?_
   show some (D.str (slice p _ _))=_
   have:=ZbR (pre++[91]) r 0 k
   erw[rwl (hb ..) ?_]
   simp only[List.length_append,List.length_cons,List.length_nil,List.append_assoc,List.cons_append,List.nil_append,Nat.add_zero,List.drop_zero] at this
   exact congrArg (λz=>some (D.str z)) this
  have e2:ev ΓA (stI p its (pre.length+1) (.fz (.str [91])) (.fz (.int ((pre.length+1+k:Nat):Int)))) (.call 5 (.cons (.slc (.var 0) (.var 2) (.var 4)) .nil))=some (ZaU (Zh5 (r.take k))):=by
   refine Zbd (ds:=[.str (r.take k)]) (Zb8 e1) ?_
   refine Zqh (λq=>?_) (by simp;lia)
   have:=congrArg List.length q
   rw[List.length_take,Nat.min_eq_left (by lia)] at this
   have this:k=0:=this
   lia
  exact Zaa (σ':=stI p (its++[ZaU (Zh5 (r.take k))]) (pre.length+1) (.fz (.str [91])) (.fz (.int ((pre.length+1+k:Nat):Int)))) (Zel (ds:=its) rfl e2 (by lia)) (Zaf (Zaw (ZaF (p:=.int ((pre.length+1+k:Nat):Int)) (q:=.int 1) rfl rfl rfl)))
theorem ZuW{i:Nat}(hb:i < p.length):tv ΓA (stI p its i s3 s4) ZjD=some true:=by
 refine Zaj (p:=.int (i:Int)) (q:=.int (p.length:Int)) rfl rfl ?_
 show some (decide ((i:Int) < (p.length:Int)))=_
 rw[decide_eq_true (by lia)]
theorem Ztg{i:Nat}(hb:i=p.length):tv ΓA (stI p its i s3 s4) ZjD=some false:=by
 refine Zaj (p:=.int (i:Int)) (q:=.int (p.length:Int)) rfl rfl ?_
 show some (decide ((i:Int) < (p.length:Int)))=_
 erw[rwl (hb ..) ?_];simp
end
theorem Zh8{p:List Nat}(hl:p.length<=800):∀(n:Nat) (r pre:List Nat) (its:List D) (N:Nat) (s3 s4:Slot),r.length<=n->p=pre++r->its.length+r.length<=1000->n < N->
  ∃t3 t4,Zbj (λσ=>tv ΓA σ ZjD) (ex ΓA fuel Zfy) N (stI p its pre.length s3 s4)=some (.next,stI p (its++(Zaq r).map Zfv) p.length t3 t4)
 | n,[],pre,its,N+1,s3,s4,_,hb,_,_=>by
  have hp:pre.length=p.length:=by erw[rwl (hb ..) ?_];simp
  refine⟨s3,s4,?_⟩
  erw[rwl (ZcT (Ztg hp) ..) (rwl (hp ..) ?_)]
  simp[Zaq,ZqC]
 | n+1,c::r,pre,its,N+1,s3,s4,hn,hb,hm,hN=>by
  simp at hn hm
  have go:=ZuW (its:=its) (s3:=s3) (s4:=s4) (show pre.length < p.length by erw[rwl (hb ..) ?_];simp)
  have step:∀it,(∃t3 t4,ex ΓA fuel Zfy (stI p its pre.length s3 s4)=some (.next,stI p (its++[Zfv it]) (pre.length+1) t3 t4))->Zaq (c::r)=it::Zaq r->
    ∃t3 t4,Zbj (λσ=>tv ΓA σ ZjD) (ex ΓA fuel Zfy) (N+1) (stI p its pre.length s3 s4)=some (.next,stI p (its++(Zaq (c::r)).map Zfv) p.length t3 t4):=λit ⟨t3,t4,h⟩ e=>by
   obtain⟨u3,u4,ih⟩:=Zh8 hl n r (pre++[c]) (its++[Zfv it]) N t3 t4 (by lia) (by erw[rwl (hb ..) ?_];simp) (by simp;lia) (by lia)
   rw[List.length_append] at ih
   refine⟨u3,u4,ZiJ go h (ih.trans ?_)⟩
   erw[rwl (e ..) ?_];simp
  by_cases h1:c=42
  ·subst h1
   exact step none (Zq0 hb hl (by lia)) rfl
  ·by_cases h2:c=63
   ·subst h2
    exact step (some (true,[])) (ZvA hb hl (by lia)) rfl
   ·by_cases h3:c=91
    ·subst h3
     cases hk:Zae 93 r (clS r) with
     | none=>exact step (some (false,[[91]])) (Zpb hb h1 h2 (λ_=>hk) hl (by lia)) (congrArg (List.map Zrv) (ZgI h1 h2 λ_=>hk))
     | some k=>
      obtain⟨t3,t4,h⟩:=Zr1 (its:=its) (s3:=s3) (s4:=s4) hb hk hl (by lia)
      obtain⟨k1,k2,_⟩:=ZaT hk
      have hkl:k < r.length:=by
       rcases Nat.lt_or_ge k r.length with q | q
       ·exact q
       ·rw[List.getElem?_eq_none q] at k2;cases k2
      obtain⟨u3,u4,ih⟩:=Zh8 hl n (r.drop (k+1)) (pre++91::r.take (k+1)) (its++[ZaU (Zh5 (r.take k))]) N t3 t4 (by simp;lia) (by erw[rwl (hb ..) ?_];simp) (by simp;lia) (by lia)
      have e1:(pre++91::r.take (k+1)).length=pre.length+1+(k+1):=by simp;lia
      rw[e1] at ih
      refine⟨u3,u4,ZiJ go h (ih.trans ?_)⟩
      erw[rwl (show Zaq (91::r)=some (Zh5 (r.take k))::Zaq (r.drop (k+1)) from congrArg (List.map Zrv) (Ziq hk) ..) ?_]
      simp[ZvL,ZvU]
    ·exact step (some (false,[[c]])) (Zpb hb h1 h2 (λq=>absurd q h3) hl (by lia)) (congrArg (List.map Zrv) (ZgI h1 h2 λq=>absurd q h3))
 | 0,_::_,_,_,_,_,_,hn,_,_,_=>by simp at hn
 | n,_,_,_,0,_,_,_,_,_,hN=>absurd hN (Nat.not_lt_zero _)
theorem ZqV{p:List Nat}(hl:p.length<=800):ZtL [.str p]=some (.list ((Zaq p).map Zfv)):=by
 refine Zbc rfl ?_
 obtain⟨t3,t4,h⟩:=Zh8 hl p.length p [] [] fuel .un .un (Nat.le_refl _) rfl (by simp;lia) (by simp[fuel];lia)
 exact⟨_,Zaa (σ':=[.fz (.str p),.own [],.un,.un,.un]) rfl (Zaa (σ':=stI p [] 0 .un .un) rfl (Zaa h (Za6 (ZbF rfl))))⟩
end
section
set_option backward.match.sparseCases false
theorem Zmq(n:Nat):Zce 0 (n:Int) 1=(List.range n).map λ(i:Nat)=>D.int (i:Int):=by
 unfold Zce
 rw[if_pos (by decide)]
 have e:(((n:Int) - 0+1 - 1) / 1).toNat=n:=by
  erw[rwl (Int.ediv_one ..) ?_];lia
 erw[rwl (e ..) ?_]
 apply List.map_congr_left
 intro i _
 congr 1
 lia
theorem Zeg{n:Nat}(h:n<=1000000):Zcx (n:Int)=true:=decide_eq_true ⟨by lia,by lia⟩
theorem Zcv{Γ:ZaC}{σ:Sg}{x:X}{n:Nat}(h:ev Γ σ x=some (.int (n:Int)))(hn:n<=1000000):ev Γ σ (.range1 x)=some (.list ((List.range n).map λ(i:Nat)=>D.int (i:Int))):=by
 show(ev Γ σ x).bind _=_
 refine Zag h ((if_pos (Zeg hn)).trans ?_)
 erw[rwl (Zmq ..) ?_]
noncomputable def ZcD(name:List Nat)(h:List Bool):Option Item->List Bool
 | none=>(List.range h.length).map λk=>(h.take (k+1)).contains true
 | some it=>false::(List.range name.length).map λk=>h.getD k false&&ZgN it (name.getD k 0)
noncomputable def Zei(its:List (Option Item))(name:List Nat):Bool:=(its.foldl (ZcD name) (true::List.replicate name.length false)).getLastD false
theorem ZdE(name:List Nat)(h:List Bool)(it:Option Item)(hl:h.length=name.length+1):(ZcD name h it).length=name.length+1:=by
 cases it<;>simp[ZcD,hl]
noncomputable def stT(its:D)(name:List Nat)(h:List Bool)(s3:Slot):Sg:=[.fz its,.fz (.str name),.fz (.list (h.map .bool)),s3,.un]
noncomputable def ZoY:S:=match Zft with
 | .seq _ (.seq (.fors _ _ b) _)=>b
 | _=>.skip
noncomputable def ZtF(h:List Bool):D->D
 | .int i=>.bool ((h.take (i.toNat+1)).contains true)
 | _=>.none
noncomputable def itemOf(name:List Nat)(h:List Bool)(it:Item):D->D
 | .int i=>.bool (h.getD i.toNat false&&ZgN it (name.getD i.toNat 0))
 | _=>.none
theorem Zmx(l:List Bool)(b:Bool):inD (.bool b) (.list (l.map .bool))=some (l.contains b):=by
 show(ZdB (l.map .bool)).map (·.contains b)=_
 have:=Zff (λb:Bool=>b) l
 erw[rwl (this ..) ?_];simp
theorem Zro{its:D}{name:List Nat}{h:List Bool}{s3:Slot}(hn:name.length<=100)(hh:h.length=name.length+1)(it:Option Item)(ok:∀i,it=some i->Zh3 i) :
  ex ΓA fuel ZoY ((stT its name h s3).set 3 (.fz (Zfv it)))=some (.next,stT its name (ZcD name h it) (.fz (Zfv it))):=by
 cases it with
 | none=>
  refine Zaf (x_t (ZbV rfl rfl rfl) (Zaf (Zaw ?_)))
  have:=ZfU (Γ:=ΓA) (σ:=stT its name h (.fz (Zfv none))) (fr:=[2]) (t:=4) (e:=.cmp .isin (.const (.bool true)) (.slc (.var 2) (.const .none) (.bin .add (.var 4) (.const (.int 1))))) (it:=.range1 (.bfn .len (.var 2))) (g:=ZtF h)
   (Zcv (n:=h.length) (Zdo rfl (by show some (D.int ((h.map D.bool).length:Int))=_;erw[rwl (List.length_map ..) ?_])) (by lia)) (by simp;lia) (λd hd=>by
    obtain⟨k,hk,rfl⟩:=List.mem_map.mp hd
    refine ZhX (p:=.bool true) (q:=.list ((h.take (k+1)).map .bool)) rfl (Zco (p:=.list (h.map .bool)) (q:=.none) (r:=.int ((k+1:Nat):Int)) rfl rfl rfl ?_) (Zmx _ _)
    show some (D.list (slice (h.map D.bool) none (some ((k+1:Nat):Int))))=_
    erw[rwl (ZdU ..) (rwl (List.map_take ..) ?_)])
  refine this.trans ?_
  erw[rwl (List.map_map ..) ?_]
  show _=some (D.list (((List.range h.length).map λk=>(h.take (k+1)).contains true).map D.bool))
  erw[rwl (List.map_map ..) ?_]
  rfl
 | some it=>
  have oki:=ok it rfl
  refine Zaf (x_f (Zaj (p:=ZaU it) (q:=.str [42]) rfl rfl rfl) (Zaf (Zaw ?_)))
  have:=ZfU (Γ:=ΓA) (σ:=stT its name h (.fz (ZaU it))) (fr:=[2,3,1]) (t:=4) (e:=.band (.cons (.idx (.var 2) (.var 4)) (.cons (.call 7 (.cons (.var 3) (.cons (.idx (.var 1) (.var 4)) .nil))) .nil))) (it:=.range1 (.bfn .len (.var 1))) (g:=itemOf name h it)
   (Zcv (n:=name.length) (Zdo rfl rfl) (by lia)) (by simp;lia) (λd hd=>by
    obtain⟨k,hk,rfl⟩:=List.mem_map.mp hd
    have hk:k < name.length:=List.mem_range.mp hk
    show ZeW _ _ _=_
    refine Zc7 (a:=h.getD k false) (ZaL (p:=.list (h.map .bool)) (q:=.int (k:Int)) rfl rfl (ZaM ?_ (by lia))) (λe=>ZdJ (Zbd (ds:=[ZaU it,.str [name.getD k 0]]) ?_ ?_)) λe=>?_
    ·rw[List.getElem?_map,List.getD_eq_getElem?_getD,List.getElem?_eq_getElem (show k < h.length by lia)];rfl
    ·have e2:ev ΓA ((mask [2,3,1] (stT its name h (.fz (ZaU it)))).set 4 (.fz (.int (k:Int)))) (.idx (.var 1) (.var 4))=some (.str [name.getD k 0]):=by
      refine ZaL (p:=.str name) (q:=.int (k:Int)) rfl rfl (ZaV ?_ (by lia))
      erw[rwl (List.getD_eq_getElem?_getD ..) (rwl (List.getElem?_eq_getElem hk ..) ?_)];rfl
     exact ZaP rfl (Zb8 e2)
    ·show ZsP _=_
     erw[rwl (ZmF oki ..) ?_]
     show _=some (D.bool (h.getD k false&&ZgN it (name.getD k 0)))
     erw[rwl (e ..) (rwl (Bool.true_and ..) ?_)]
    ·show some (D.bool (h.getD k false&&ZgN it (name.getD k 0)))=_
     erw[rwl (e ..) ?_];rfl)
  refine(ZaF (p:=.list [.bool false]) rfl this rfl).trans ((ZcU ?_).trans ?_)
  ·simp;lia
  ·erw[rwl (List.map_map ..) ?_]
   show _=some (D.list ((false::(List.range name.length).map λk=>h.getD k false&&ZgN it (name.getD k 0)).map D.bool))
   erw[rwl (List.map_cons ..) (rwl (List.map_map ..) ?_)]
   rfl
theorem Zlo{its0:D}{name:List Nat}(hn:name.length<=100):∀(its:List (Option Item)) (h:List Bool) (s3:Slot),h.length=name.length+1->(∀i,some i∈its->Zh3 i)->
  ∃t3,forL 3 (ex ΓA fuel ZoY) (its.map Zfv) (stT its0 name h s3)=some (.next,stT its0 name (its.foldl (ZcD name) h) t3)
 | [],h,s3,_,_=>⟨s3,rfl⟩
 | it::its,h,s3,hh,ok=>by
  obtain⟨t3,ih⟩:=Zlo hn its (ZcD name h it) (.fz (Zfv it)) (ZdE name h it hh) λi hi=>ok i (List.mem_cons_of_mem _ hi)
  exact⟨t3,Zkr (Zro hn hh it λi e=>ok i (e▸List.mem_cons_self)) ih⟩
theorem ZjB(name:List Nat):∀(its:List (Option Item)) (h:List Bool),h.length=name.length+1->(its.foldl (ZcD name) h).length=name.length+1
 | [],_,hh=>hh
 | it::its,h,hh=>ZjB name its _ (ZdE name h it hh)
theorem Zfg{Γ:ZaC}{N i:Nat}{σ:Sg}{it:X}{b:S}{ds:List D}{o:Option (Fl×Sg)}(h:ev Γ σ it=some (.list ds))(hl:ds.length<=16777216)(k:forL i (ex Γ N b) ds σ=o):ex Γ N (.fors i it b) σ=o:=show((ev Γ σ it).bind itemsOf).bind _=_ from Zag (Zag h (Zc9 hl)) k
theorem Zqo{its:List (Option Item)}{name:List Nat}(hn:name.length<=100)(hi:its.length<=1000)(ok:∀i,some i∈its->Zh3 i):ZtM [.list (its.map Zfv),.str name]=some (.bool (Zei its name)):=by
 have hl0:(true::List.replicate name.length false).length=name.length+1:=by simp
 refine Zbc rfl ?_
 obtain⟨t3,h⟩:=Zlo (its0:=.list (its.map Zfv)) hn its (true::List.replicate name.length false) .un hl0 ok
 refine⟨_,Zaa (σ':=stT (.list (its.map Zfv)) name (true::List.replicate name.length false) .un) (Zaw (ZaF (p:=.list [.bool true]) (q:=.list (List.replicate name.length (.bool false))) rfl (ZaF (p:=.list [.bool false]) (q:=.int (name.length:Int)) rfl (Zdo rfl rfl) ?_) ?_)) (Zaa (Zfg (ds:=its.map Zfv) rfl (by simp;lia) h) (Za6 (ZbF (ZaL (q:=.int (-1)) rfl rfl (ZeN ?_)))))⟩
 ·show(if(0:Int)<=(name.length:Int)∧(name.length:Int)<=16777216 then okL (List.replicate (name.length:Int).toNat (D.bool false)) else none)=_
  rw[if_pos (by lia),ZcU (by simp;lia)]
  rfl
 ·show okL ([D.bool true]++List.replicate name.length (D.bool false))=_
  rw[ZcU (by simp;lia)]
  show _=some (D.list ((true::List.replicate name.length false).map D.bool))
  erw[rwl (List.map_cons ..) (rwl (List.map_replicate ..) ?_)]
  rfl
 ·have hf:=ZjB name its _ hl0
  erw[rwl (List.getLast?_map ..) ?_]
  unfold Zei
  cases e:its.foldl (ZcD name) (true::List.replicate name.length false) with
  | nil=>rw[e] at hf;simp at hf
  | cons a r=>erw[rwl (List.getLastD_cons ..) (rwl (List.getLast?_cons ..) ?_)];simp
end
section
noncomputable def ZnE(first last:Bool)(run:List Item)(name:List Nat)(p:Nat):Bool:=
 (!first||p==0)&&(!last||p+run.length==name.length)&&(List.range run.length).all λi=>ZgN (run.getD i (false,[])) (name.getD (p+i) 0)
noncomputable def Zas(first last:Bool)(run:List Item)(name:List Nat)(i:Nat):List Nat:=(List.range' i (name.length+1 - run.length - i)).filter (ZnE first last run name)
noncomputable def Zb7(name:List Nat):Bool->List (List Item)->Nat->Bool
 | _,[],_=>true
 | first,run::rest,i=>match Zas first rest.isEmpty run name i with
  | []=>false
  | p::_=>Zb7 name false rest (p+run.length)
theorem Zut(n:List Nat)(f:Bool)(i:Nat):Zb7 n f [] i=true:=rfl
theorem Zqv(n:List Nat)(f:Bool)(run:List Item)(rest:List (List Item))(i:Nat):Zb7 n f (run::rest) i=match Zas f rest.isEmpty run n i with
  | []=>false
  | p::_=>Zb7 n false rest (p+run.length):=rfl
noncomputable def Zhq(run:List Item):D:=.list (run.map ZaU)
theorem Zmg{Γ:ZaC}{N i:Nat}{σ:Sg}{xs:X}{ds:List D}(h:ZgG i σ=true)(he:evL Γ σ xs=some ds)(hl:ds.length<=16777216):ex Γ N (.asgO i xs) σ=some (.next,σ.set i (.own ds)):=show(if ZgG i σ then _ else none)=_ from(if_pos h).trans (Zag he (if_pos hl))
theorem ZuU{i:Nat}{b:Sg->Option (Fl×Sg)}{d d':D}{ds:List D}{σ σ':Sg}(hb:b (σ.set i (.fz d))=some (.ret d',σ')):forL i b (d::ds) σ=some (.ret d',σ'):=show(b _).bind _=_ from Zag hb rfl
theorem Zkw(a n s:Nat):Zce (a:Int) ((n:Int) - (s:Int)+1) 1=(List.range' a (n+1 - s - a)).map λ(i:Nat)=>D.int (i:Int):=by
 unfold Zce
 rw[if_pos (by decide),List.range'_eq_map_range,List.map_map]
 have e:(((n:Int) - (s:Int)+1 - (a:Int)+1 - 1) / 1).toNat=n+1 - s - a:=by
  erw[rwl (Int.ediv_one ..) ?_];lia
 erw[rwl (e ..) ?_]
 apply List.map_congr_left
 intro i _
 show D.int ((a:Int)+(i:Int) * 1)=D.int ((a+i:Nat):Int)
 congr 1
 lia
theorem ZnX{Γ:ZaC}{σ:Sg}{x y:X}{a n s:Nat}(hx:ev Γ σ x=some (.int (a:Int)))(hy:ev Γ σ y=some (.int ((n:Int) - (s:Int)+1)))(ha:a<=10000)(hn:n<=10000)(hs:s<=10000):ev Γ σ (.range2 x y)=some (.list ((List.range' a (n+1 - s - a)).map λ(i:Nat)=>D.int (i:Int))):=by
 show(ev Γ σ x).bind _=_
 refine Zag hx (Zag hy ((if_pos ?_).trans (by erw[rwl (Zkw ..) ?_])))
 rw[Zeg (Nat.le_trans ha (by decide)),show Zcx ((n:Int) - (s:Int)+1)=true from decide_eq_true ⟨by lia,by lia⟩]
 rfl
theorem lt_int{Γ:ZaC}{σ:Sg}{x y:X}{a b:Int}(hx:ev Γ σ x=some (.int a))(hy:ev Γ σ y=some (.int b)):tv Γ σ (.tcmp .lt x y)=some (decide (a < b)):=Zaj hx hy rfl
theorem gt_int{Γ:ZaC}{σ:Sg}{x y:X}{a b:Int}(hx:ev Γ σ x=some (.int a))(hy:ev Γ σ y=some (.int b)):tv Γ σ (.tcmp .gt x y)=some (decide (b < a)):=Zaj hx hy rfl
theorem eq_int{Γ:ZaC}{σ:Sg}{x y:X}{a b:Int}(hx:ev Γ σ x=some (.int a))(hy:ev Γ σ y=some (.int b)):tv Γ σ (.tcmp .eq x y)=some (decide (a=b)):=Zaj hx hy (by
 show some (a==b)=_
 by_cases h:a=b
 ·erw[rwl (decide_eq_true h ..) (rwl (h ..) ?_)];simp
 ·erw[rwl (decide_eq_false h ..) (rwl (beq_eq_false_iff_ne.mpr h ..) ?_)])
noncomputable def ZgY:S:=match Zep with
 | .seq _ (.seq (.fors _ _ b) _)=>b
 | _=>.skip
noncomputable def Zur:S:=match ZgY with
 | .seq _ (.seq _ (.seq (.fors _ _ b) _))=>b
 | _=>.skip
noncomputable def stK(runs:List (List Item))(name:List Nat)(i:Nat)(s3 s4 s5 s6:Slot):Sg:=[.fz (.list (runs.map Zhq)),.fz (.str name),.fz (.int (i:Int)),s3,s4,s5,s6,.un]
noncomputable def Zbt(k:Nat):Slot:=.fz (.int (k:Int))
noncomputable def Zss(run:List Item)(name:List Nat)(p:Nat):D->D
 | .int i=>.bool (ZgN (run.getD i.toNat (false,[])) (name.getD (p+i.toNat) 0))
 | _=>.none
theorem Zt8{runs:List (List Item)}{name:List Nat}{i k p:Nat}{run:List Item}{fs:List D}(hk:runs[k]? = some run)(hr:runs.length<=1000)(hn:name.length<=100)(hp:p+run.length<=name.length)(ok:∀it∈run,Zh3 it)(hf:fs.length<=1000) :
  ex ΓA fuel Zur (stK runs name i (Zbt k) (Zbt run.length) (.own fs) (Zbt p))=some (.next,stK runs name i (Zbt k) (Zbt run.length) (.own (if ZnE (k==0) (k+1==runs.length) run name p then fs++[.int (p:Int)] else fs)) (Zbt p)):=by
 have hkl:k < runs.length:=by
  rcases Nat.lt_or_ge k runs.length with q | q
  ·exact q
  ·rw[List.getElem?_eq_none q] at hk;cases hk
 have t1:tv ΓA (stK runs name i (Zbt k) (Zbt run.length) (.own fs) (Zbt p)) (.tor (.cons (.tcmp .gt (.var 3) (.const (.int 0))) (.cons (.tcmp .eq (.var 6) (.const (.int 0))) .nil)))=some (!(k==0)||p==0):=by
  cases h0:(k==0) with
  | true=>
   have hk0:k=0:=by simpa using h0
   refine Zjc ((gt_int (a:=(k:Int)) (b:=0) rfl rfl).trans (by rw[decide_eq_false (by lia)])) ?_
   have:=eq_int (Γ:=ΓA) (σ:=stK runs name i (Zbt k) (Zbt run.length) (.own fs) (Zbt p)) (x:=.var 6) (y:=.const (.int 0)) (a:=(p:Int)) (b:=0) rfl rfl
   by_cases hp0:p=0
   ·rw[decide_eq_true (by lia)] at this
    erw[rwl (ZeI this ..) ?_];simp[hp0]
   ·rw[decide_eq_false (by lia)] at this
    refine Zjc this ?_
    show some false=_
    simp[hp0]
  | false=>
   have hk0:k≠0:=by simpa using h0
   exact(ZeI ((gt_int (a:=(k:Int)) (b:=0) rfl rfl).trans (by rw[decide_eq_true (by lia)]))).trans (by simp)
 have elen:ev ΓA (stK runs name i (Zbt k) (Zbt run.length) (.own fs) (Zbt p)) (.bin .sub (.bfn .len (.var 0)) (.const (.int 1)))=some (.int ((runs.length:Int) - 1)):=
  ZaF (p:=.int (runs.length:Int)) (q:=.int 1) (Zdo rfl (by show some (D.int ((runs.map Zhq).length:Int))=_;erw[rwl (List.length_map ..) ?_])) rfl rfl
 have esum:ev ΓA (stK runs name i (Zbt k) (Zbt run.length) (.own fs) (Zbt p)) (.bin .add (.var 6) (.var 4))=some (.int ((p+run.length:Nat):Int)):=ZaF (p:=.int (p:Int)) (q:=.int (run.length:Int)) rfl rfl rfl
 have t2:tv ΓA (stK runs name i (Zbt k) (Zbt run.length) (.own fs) (Zbt p)) (.tor (.cons (.tcmp .lt (.var 3) (.bin .sub (.bfn .len (.var 0)) (.const (.int 1)))) (.cons (.tcmp .eq (.bin .add (.var 6) (.var 4)) (.bfn .len (.var 1))) .nil)))=some (!(k+1==runs.length)||p+run.length==name.length):=by
  cases h0:(k+1==runs.length) with
  | true=>
   have hk0:k+1=runs.length:=by simpa using h0
   refine Zjc ((lt_int (a:=(k:Int)) rfl elen).trans (by rw[decide_eq_false (by lia)])) ?_
   have:=eq_int (Γ:=ΓA) (σ:=stK runs name i (Zbt k) (Zbt run.length) (.own fs) (Zbt p)) (y:=.bfn .len (.var 1)) (b:=(name.length:Int)) esum rfl
   by_cases hp0:p+run.length=name.length
   ·rw[decide_eq_true (by lia)] at this
    erw[rwl (ZeI this ..) ?_];simp[hp0]
   ·rw[decide_eq_false (by lia)] at this
    refine Zjc this ?_
    show some false=_
    simp[hp0]
  | false=>
   have hk0:k+1≠runs.length:=by simpa using h0
   exact(ZeI ((lt_int (a:=(k:Int)) rfl elen).trans (by rw[decide_eq_true (by lia)]))).trans (by simp)
 have eall:(ZnE (k==0) (k+1==runs.length) run name p)=((!(k==0)||p==0)&&((!(k+1==runs.length)||p+run.length==name.length)&&(List.range run.length).all λi=>ZgN (run.getD i (false,[])) (name.getD (p+i) 0))):=by
  unfold ZnE;erw[rwl (Bool.and_assoc ..) ?_]
 erw[rwl (eall ..) ?_]
 cases c1:(!(k==0)||p==0) with
 | false=>
  rw[c1] at t1
  exact Zaf (x_f (Zav t1) rfl)
 | true=>
  rw[c1] at t1
  cases c2:(!(k+1==runs.length)||p+run.length==name.length) with
  | false=>
   rw[c2] at t2
   exact Zaf (x_f (ZaK t1 (Zav t2)) rfl)
  | true=>
   rw[c2] at t2
   have e0:∀σ0:Sg,rd σ0 0=some (.list (runs.map Zhq))->rd σ0 3=some (.int (k:Int))->ev ΓA σ0 (.idx (.var 0) (.var 3))=some (Zhq run):=λσ0 h0 h3=>
    ZaL (p:=.list (runs.map Zhq)) (q:=.int (k:Int)) h0 h3 (ZaM (by erw[rwl (List.getElem?_map ..) (rwl (hk ..) ?_)];rfl) (by lia))
   have hc:=ZfU (Γ:=ΓA) (σ:=stK runs name i (Zbt k) (Zbt run.length) (.own fs) (Zbt p)) (fr:=[1,0,3,6]) (t:=7) (e:=.call 7 (.cons (.idx (.idx (.var 0) (.var 3)) (.var 7)) (.cons (.idx (.var 1) (.bin .add (.var 6) (.var 7))) .nil))) (it:=.range1 (.var 4)) (g:=Zss run name p)
    (Zcv (n:=run.length) rfl (by lia)) (by simp;lia) (λd hd=>by
     obtain⟨j,hj,rfl⟩:=List.mem_map.mp hd
     have hj:j < run.length:=List.mem_range.mp hj
     have g1:run[j]? = some (run.getD j (false,[])):=by erw[rwl (List.getD_eq_getElem?_getD ..) (rwl (List.getElem?_eq_getElem hj ..) ?_)];rfl
     have g2:name[p+j]? = some (name.getD (p+j) 0):=by rw[List.getD_eq_getElem?_getD,List.getElem?_eq_getElem (show p+j < name.length by lia)];rfl
     have e1:ev ΓA ((mask [1,0,3,6] (stK runs name i (Zbt k) (Zbt run.length) (.own fs) (Zbt p))).set 7 (.fz (.int (j:Int)))) (.idx (.idx (.var 0) (.var 3)) (.var 7))=some (ZaU (run.getD j (false,[]))):=
      ZaL (q:=.int (j:Int)) (e0 _ rfl rfl) rfl (ZaM (by erw[rwl (List.getElem?_map ..) (rwl (g1 ..) ?_)];rfl) (by lia))
     have e2:ev ΓA ((mask [1,0,3,6] (stK runs name i (Zbt k) (Zbt run.length) (.own fs) (Zbt p))).set 7 (.fz (.int (j:Int)))) (.idx (.var 1) (.bin .add (.var 6) (.var 7)))=some (.str [name.getD (p+j) 0]):=
      ZaL (p:=.str name) (q:=.int ((p+j:Nat):Int)) rfl (ZaF (p:=.int (p:Int)) (q:=.int (j:Int)) rfl rfl rfl) (ZaV g2 (by lia))
     refine Zbd (ds:=[ZaU (run.getD j (false,[])),.str [name.getD (p+j) 0]]) (ZaP e1 (Zb8 e2)) ?_
     show ZsP _=_
     erw[rwl (ZmF (ok _ (List.mem_of_getElem? g1)) ..) ?_]
     rfl)
   rw[List.map_map] at hc
   have hc2:(List.range run.length).map (Zss run name p ∘ λ(i:Nat)=>D.int (i:Int))=((List.range run.length).map λi=>ZgN (run.getD i (false,[])) (name.getD (p+i) 0)).map D.bool:=by
    erw[rwl (List.map_map ..) ?_];rfl
   rw[hc2] at hc
   have hn2:((List.range run.length).map λi=>ZgN (run.getD i (false,[])) (name.getD (p+i) 0)).contains false = !((List.range run.length).all λi=>ZgN (run.getD i (false,[])) (name.getD (p+i) 0)):=by
    erw[rwl (propext (Bool.eq_iff_iff ..)) ?_]
    simp
   have t3:tv ΓA (stK runs name i (Zbt k) (Zbt run.length) (.own fs) (Zbt p)) (.tcmp .notin (.const (.bool false)) (.comp [1,0,3,6] 7 (.call 7 (.cons (.idx (.idx (.var 0) (.var 3)) (.var 7)) (.cons (.idx (.var 1) (.bin .add (.var 6) (.var 7))) .nil))) (.range1 (.var 4)) (.const .none)))=some ((List.range run.length).all λi=>ZgN (run.getD i (false,[])) (name.getD (p+i) 0)):=by
    refine Zaj rfl hc ?_
    show(inD (.bool false) _).map (!·)=_
    erw[rwl (Zmx ..) (rwl (hn2 ..) ?_)]
    simp
   cases c3:((List.range run.length).all λi=>ZgN (run.getD i (false,[])) (name.getD (p+i) 0)) with
   | true=>
    rw[c3] at t3
    exact Zaf (x_t (ZaK t1 (ZaK t2 rfl)) (Zaf (x_t t3 (Zaf (Zel (ds:=fs) (d:=.int (p:Int)) rfl rfl (by lia))))))
   | false=>
    rw[c3] at t3
    exact Zaf (x_t (ZaK t1 (ZaK t2 rfl)) (Zaf (x_f t3 rfl)))
theorem Zji{runs:List (List Item)}{name:List Nat}{i k:Nat}{run:List Item}(hk:runs[k]? = some run)(hr:runs.length<=1000)(hn:name.length<=100)(ok:∀it∈run,Zh3 it):∀(ps:List Nat) (fs:List D) (s6:Slot),(∀p∈ps,p+run.length<=name.length)->fs.length+ps.length<=1000->s6.isApp 5=false->
  ∃t6,t6.isApp 5=false∧forL 6 (ex ΓA fuel Zur) (ps.map λ(p:Nat)=>D.int (p:Int)) (stK runs name i (Zbt k) (Zbt run.length) (.own fs) s6) =
   some (.next,stK runs name i (Zbt k) (Zbt run.length) (.own (fs++(ps.filter (ZnE (k==0) (k+1==runs.length) run name)).map λ(p:Nat)=>D.int (p:Int))) t6)
 | [],fs,s6,_,_,h6=>⟨s6,h6,by simp[ZvP]⟩
 | p::ps,fs,s6,hp,hf,h6=>by
  simp at hf
  have h1:=Zt8 (i:=i) (fs:=fs) hk hr hn (hp p List.mem_cons_self) ok (by lia)
  obtain⟨t6,ht6,ih⟩:=Zji hk hr hn ok ps (if ZnE (k==0) (k+1==runs.length) run name p then fs++[.int (p:Int)] else fs) (Zbt p) (λq hq=>hp q (List.mem_cons_of_mem _ hq)) (by split<;>(try simp)<;>lia) rfl
  refine⟨t6,ht6,Zkr h1 (ih.trans ?_)⟩
  cases h:ZnE (k==0) (k+1==runs.length) run name p with
  | true=>erw[rwl (List.filter_cons_of_pos h ..) ?_];simp
  | false=>rw[List.filter_cons_of_neg (by erw[rwl (h ..) ?_];decide)];simp
theorem ZqG{runs:List (List Item)}{name:List Nat}{i k:Nat}{run:List Item}{s4 s5 s6:Slot}(h4:s4.isApp 5=false)(h5:s5.isApp 5=false)(h6:s6.isApp 5=false)(hk:runs[k]? = some run)(hr:runs.length<=1000)(hrl:run.length<=1000)(hn:name.length<=100)(hi:i<=1000)(ok:∀it∈run,Zh3 it) :
  (Zas (k==0) (k+1==runs.length) run name i=[]∧∃σ,ex ΓA fuel ZgY ((stK runs name i (Zbt 0) s4 s5 s6).set 3 (.fz (.int (k:Int))))=some (.ret (.bool false),σ))∨
  (∃p r,Zas (k==0) (k+1==runs.length) run name i=p::r∧∃t4 t5 t6,t4.isApp 5=false∧t5.isApp 5=false∧t6.isApp 5=false∧ex ΓA fuel ZgY ((stK runs name i (Zbt 0) s4 s5 s6).set 3 (.fz (.int (k:Int))))=some (.next,stK runs name (p+run.length) (Zbt k) t4 t5 t6)):=by
 have e0:ev ΓA (stK runs name i (Zbt k) s4 s5 s6) (.idx (.var 0) (.var 3))=some (Zhq run):=by
  have hkl:k < runs.length:=by
   rcases Nat.lt_or_ge k runs.length with q | q
   ·exact q
   ·rw[List.getElem?_eq_none q] at hk;cases hk
  exact ZaL (p:=.list (runs.map Zhq)) (q:=.int (k:Int)) rfl rfl (ZaM (by erw[rwl (List.getElem?_map ..) (rwl (hk ..) ?_)];rfl) (by lia))
 have e1:ex ΓA fuel (.asg 4 (.bfn .len (.idx (.var 0) (.var 3)))) (stK runs name i (Zbt k) s4 s5 s6)=some (.next,stK runs name i (Zbt k) (Zbt run.length) s5 s6):=by
  refine Zaw (Zdo e0 ?_)
  show some (D.int ((run.map ZaU).length:Int))=_
  erw[rwl (List.length_map ..) ?_]
 have e2:ex ΓA fuel (.asgO 5 .nil) (stK runs name i (Zbt k) (Zbt run.length) s5 s6)=some (.next,stK runs name i (Zbt k) (Zbt run.length) (.own []) s6):=by
  refine Zmg ?_ rfl (by simp)
  show([Slot.fz _,.fz _,.fz _,Zbt k,Zbt run.length,s5,s6,.un].all λs=>!s.isApp 5)=true
  simp only[List.all_cons,List.all_nil,h5,h6]
  rfl
 have er:ev ΓA (stK runs name i (Zbt k) (Zbt run.length) (.own []) s6) (.range2 (.var 2) (.bin .add (.bin .sub (.bfn .len (.var 1)) (.var 4)) (.const (.int 1))))=some (.list ((List.range' i (name.length+1 - run.length - i)).map λ(i:Nat)=>D.int (i:Int))):=
  ZnX (a:=i) (n:=name.length) (s:=run.length) rfl (ZaF (p:=.int ((name.length:Int) - (run.length:Int))) (q:=.int 1) (ZaF (p:=.int (name.length:Int)) (q:=.int (run.length:Int)) rfl rfl rfl) rfl rfl) (by lia) (by lia) (by lia)
 obtain⟨t6,ht6,hin⟩:=Zji (i:=i) hk hr hn ok (List.range' i (name.length+1 - run.length - i)) [] s6 (λp hp=>by simp only[List.mem_range'_1] at hp;lia) (by simp;lia) h6
 have ef:=Zfg (Γ:=ΓA) (N:=fuel) (i:=6) (b:=Zur) er (by simp;lia) hin
 rw[List.nil_append] at ef
 have hfl:(List.range' i (name.length+1 - run.length - i)).filter (ZnE (k==0) (k+1==runs.length) run name)=Zas (k==0) (k+1==runs.length) run name i:=rfl
 rw[hfl] at ef
 cases hff:Zas (k==0) (k+1==runs.length) run name i with
 | nil=>
  rw[hff] at ef
  exact .inl ⟨rfl,_,Zaa e1 (Zaa e2 (Zaa ef (Za6 (x_t (Zaj rfl rfl rfl) (Za6 (ZbF rfl))))))⟩
 | cons p r=>
  rw[hff] at ef
  refine .inr ⟨p,r,rfl,Zbt run.length,.own ((p::r).map λ(p:Nat)=>D.int (p:Int)),t6,rfl,rfl,ht6,Zaa e1 (Zaa e2 (Zaa ef (Zaa (x_f (Zaj rfl rfl rfl) rfl) (Zaf (Zaw (ZaF (p:=.int (p:Int)) (q:=.int (run.length:Int)) (ZaL rfl rfl (ZaM (i:=0) rfl (by lia))) rfl rfl))))))⟩
theorem ZhN{first last:Bool}{run:List Item}{name:List Nat}{i p:Nat}{r:List Nat}(h:Zas first last run name i=p::r):i<=p∧p+run.length<=name.length:=by
 have:p∈Zas first last run name i:=by erw[rwl (h ..) ?_];exact List.mem_cons_self
 unfold Zas at this
 have:=(List.mem_filter.mp this).1
 have:=List.mem_range'_1.mp this
 exact⟨this.1,(ZpE this.1).mp this.2⟩
theorem ZlJ{runs:List (List Item)}{name:List Nat}(hr:runs.length<=1000)(hn:name.length<=100)(ok:∀run∈runs,run.length<=1000∧∀it∈run,Zh3 it):∀(m k i:Nat) (s3 s4 s5 s6:Slot),k+m=runs.length->i<=1000->s4.isApp 5=false->s5.isApp 5=false->s6.isApp 5=false->
  (Zb7 name (k==0) (runs.drop k) i=true∧∃σ,forL 3 (ex ΓA fuel ZgY) ((List.range' k m).map λ(k:Nat)=>D.int (k:Int)) (stK runs name i s3 s4 s5 s6)=some (.next,σ))∨
  (Zb7 name (k==0) (runs.drop k) i=false∧∃σ,forL 3 (ex ΓA fuel ZgY) ((List.range' k m).map λ(k:Nat)=>D.int (k:Int)) (stK runs name i s3 s4 s5 s6)=some (.ret (.bool false),σ))
 | 0,k,i,s3,s4,s5,s6,hk,_,_,_,_=>by
  rw[List.drop_of_length_le (by lia)]
  exact .inl ⟨by simp[Zut,Zqv],_,rfl⟩
 | m+1,k,i,s3,s4,s5,s6,hk,hi,h4,h5,h6=>by
  have hkl:k < runs.length:=by lia
  have hd:=List.drop_eq_getElem_cons hkl
  have hg:runs[k]? = some runs[k]:=List.getElem?_eq_getElem hkl
  have okr:=ok _ (List.getElem_mem hkl)
  have hlast:(runs.drop (k+1)).isEmpty=(k+1==runs.length):=by
   erw[rwl (propext (Bool.eq_iff_iff ..)) (rwl (propext (List.isEmpty_iff ..)) (rwl (propext (List.drop_eq_nil_iff ..)) ?_))]
   simp;lia
  erw[rwl (List.range'_succ ..) (rwl (List.map_cons ..) (rwl (hd ..) (rwl (Zqv ..) (rwl (hlast ..) ?_))))]
  rcases ZqG (i:=i) h4 h5 h6 hg hr okr.1 hn hi okr.2 with⟨e,σ,h⟩ | ⟨p,r,e,t4,t5,t6,g4,g5,g6,h⟩
  ·erw[rwl (e ..) ?_]
   exact .inr ⟨rfl,σ,ZuU h⟩
  ·erw[rwl (e ..) ?_]
   have hfit:=ZhN e
   have e0:(k+1==0)=false:=by simp
   have ih:=ZlJ hr hn ok m (k+1) (p+runs[k].length) (Zbt k) t4 t5 t6 (by lia) (by lia) g4 g5 g6
   rw[e0] at ih
   rcases ih with⟨i1,σ,i2⟩ | ⟨i1,σ,i2⟩
   ·exact .inl ⟨i1,σ,Zkr h i2⟩
   ·exact .inr ⟨i1,σ,Zkr h i2⟩
theorem Zoz{runs:List (List Item)}{name:List Nat}(hr:runs.length<=1000)(hn:name.length<=100)(ok:∀run∈runs,run.length<=1000∧∀it∈run,Zh3 it):ZlV [.list (runs.map Zhq),.str name]=some (.bool (Zb7 name true runs 0)):=by
 refine Zbc rfl ?_
 have e1:ex ΓA fuel (.asg 2 (.const (.int 0))) (ZeV 8 [.list (runs.map Zhq),.str name])=some (.next,stK runs name 0 .un .un .un .un):=rfl
 have e2:ev ΓA (stK runs name 0 .un .un .un .un) (.range1 (.bfn .len (.var 0)))=some (.list ((List.range runs.length).map λ(i:Nat)=>D.int (i:Int))):=
  Zcv (Zdo rfl (by show some (D.int ((runs.map Zhq).length:Int))=_;erw[rwl (List.length_map ..) ?_])) (by lia)
 rw[List.range_eq_range'] at e2
 have hl:=ZlJ hr hn ok runs.length 0 0 .un .un .un .un (by lia) (by lia) rfl rfl rfl
 rw[List.drop_zero] at hl
 rcases hl with⟨h1,σ,h2⟩ | ⟨h1,σ,h2⟩
 ·erw[rwl (show Zb7 name true runs 0=true from h1 ..) ?_]
  exact⟨_,Zaa e1 (Zaa (Zfg e2 (by simp;lia) h2) (Za6 (ZbF rfl)))⟩
 ·erw[rwl (show Zb7 name true runs 0=false from h1 ..) ?_]
  exact⟨_,Zaa e1 (Za6 (Zfg e2 (by simp;lia) h2))⟩
end
section
set_option backward.match.sparseCases false
noncomputable abbrev Pz:=List Nat×List (Nat×Nat×List Nat)
noncomputable def Zao:List Nat->Pz
 | a::c::x::r=>if c=45 then([],(a,x,(Zao r).1)::(Zao r).2) else(a::(Zao (c::x::r)).1,(Zao (c::x::r)).2)
 | [a,c]=>([a,c],[])
 | [a]=>([a],[])
 | []=>([],[])
theorem Zp4:Zao []=([],[]):=rfl
theorem Zq1(a:Nat):Zao [a]=([a],[]):=rfl
theorem ZqQ(a c:Nat):Zao [a,c]=([a,c],[]):=rfl
theorem Zjl(a c x:Nat)(r:List Nat):Zao (a::c::x::r)=if c=45 then([],(a,x,(Zao r).1)::(Zao r).2) else(a::(Zao (c::x::r)).1,(Zao (c::x::r)).2):=rfl
noncomputable def Zb4:List (Nat×Nat×List Nat)->List Nat->List (List Nat)
 | [],d=>[d]
 | (lo,hi,d')::rs,d=>(d++[lo])::Zb4 rs (hi::d')
theorem Zow(d:List Nat):Zb4 [] d=[d]:=rfl
theorem ZkH(lo hi:Nat)(d' d:List Nat)(rs:List (Nat×Nat×List Nat)):Zb4 ((lo,hi,d')::rs) d=(d++[lo])::Zb4 rs (hi::d'):=rfl
noncomputable def Zdl(p:Pz):List (List Nat):=Zb4 p.2 p.1
noncomputable def rmR:List (Nat×Nat×List Nat)->List Nat×List (Nat×Nat×List Nat)
 | []=>([],[])
 | (lo,hi,d)::rs=>if hi < lo then(d++(rmR rs).1,(rmR rs).2) else([],(lo,hi,d++(rmR rs).1)::(rmR rs).2)
theorem ZtP:rmR []=([],[]):=rfl
theorem Zry(lo hi:Nat)(d:List Nat)(rs:List (Nat×Nat×List Nat)):rmR ((lo,hi,d)::rs)=if hi < lo then(d++(rmR rs).1,(rmR rs).2) else([],(lo,hi,d++(rmR rs).1)::(rmR rs).2):=rfl
theorem ZgH(lo hi:Nat)(d:List Nat)(rs:List (Nat×Nat×List Nat)):rmR ((lo,hi,d)::rs)=if hi < lo then(d++(rmR rs).1,(rmR rs).2) else([],(lo,hi,d++(rmR rs).1)::(rmR rs).2):=rfl
noncomputable def rm(p:Pz):Pz:=(p.1++(rmR p.2).1,(rmR p.2).2)
noncomputable def Zrw(p:Pz):List (List Nat):=p.1.map (λc=>[c])++p.2.flatMap λt=>[t.1,45,t.2.1]::t.2.2.map λc=>[c]
theorem ZbJ:∀b:List Nat,setMembers b=Zrw (rm (Zao b))
 | []=>rfl
 | [a]=>rfl
 | [a,c]=>rfl
 | a::c::x::r=>by
  erw[rwl (ZgS ..) (rwl (Zjl ..) ?_)]
  by_cases hc:c=45
  ·erw[rwl (if_pos hc ..) (rwl (if_pos hc ..) (rwl (ZbJ r ..) ?_))]
   show _=Zrw ([]++(rmR ((a,x,(Zao r).1)::(Zao r).2)).1,(rmR ((a,x,(Zao r).1)::(Zao r).2)).2)
   erw[rwl (ZgH ..) ?_]
   by_cases h:a<=x
   ·rw[if_pos h,if_neg (by lia)]
    unfold Zrw rm
    simp
   ·rw[if_neg h,if_pos (by lia)]
    unfold rm
    simp
  ·erw[rwl (if_neg hc ..) (rwl (if_neg hc ..) (rwl (ZbJ (c::x::r) ..) ?_))]
   unfold rm Zrw
   simp
noncomputable def Zdd:List Nat->Nat->List Nat->List (List Nat)
 | cur,_,[]=>[cur]
 | cur,skip,c::r=>if skip=0∧c=45 then cur::Zdd [] 2 r else Zdd (cur++[c]) (skip - 1) r
theorem Zrs(cur:List Nat)(s:Nat):Zdd cur s []=[cur]:=rfl
theorem Zg6(cur:List Nat)(s c:Nat)(r:List Nat):Zdd cur s (c::r)=if s=0∧c=45 then cur::Zdd [] 2 r else Zdd (cur++[c]) (s - 1) r:=rfl
noncomputable def ZfD:List (List Nat)->List (List Nat)
 | []=>[]
 | [x]=>[x]
 | [x,[]]=>[x++[45]]
 | x::r=>x::ZfD r
theorem ZhK(r:List Nat):∀(cur:List Nat) (skip:Nat),cur≠[]->∃h t,Zdd cur skip r=h::t∧h≠[]:=by
 induction r with
 | nil=>intro cur skip h;exact⟨cur,[],rfl,h⟩
 | cons c r ih=>
  intro cur skip h
  erw[rwl (Zg6 ..) ?_]
  split
  ·exact⟨cur,_,rfl,h⟩
  ·exact ih _ _ (by simp)
theorem ZhF{x h:List Nat}{t:List (List Nat)}(hh:h≠[]):ZfD (x::h::t)=x::ZfD (h::t):=by
 rw[ZfD]
 all_goals
  intro q
  simp at q
  try exact hh q.1
theorem Zch:∀(r cur:List Nat),cur++r≠[]->ZfD (Zdd cur 1 r)=Zdl (cur++(Zao r).1,(Zao r).2)
 | [],cur,_=>by simp[Zrs,Zg6,ZfD,Zp4,Zq1,ZqQ,Zjl,Zdl,Zow,ZkH]
 | [a],cur,_=>by simp[Zrs,Zg6,ZfD,Zp4,Zq1,ZqQ,Zjl,Zdl,Zow,ZkH]
 | [a,c],cur,_=>by
  by_cases hc:c=45
  ·subst hc;simp[Zrs,Zg6,ZfD,Zp4,Zq1,ZqQ,Zjl,Zdl,Zow,ZkH]
  ·simp[Zrs,Zg6,hc,ZfD,Zp4,Zq1,ZqQ,Zjl,Zdl,Zow,ZkH]
 | a::c::x::r,cur,_=>by
  erw[rwl (Zjl ..) ?_]
  by_cases hc:c=45
  ·subst hc
   have e1:Zdd cur 1 (a::45::x::r)=(cur++[a])::Zdd [x] 1 r:=by
    rw[Zg6,if_neg (by simp),Zg6,if_pos (by simp),Zg6,if_neg (by simp)]
    rfl
   obtain⟨h,t,e2,hh⟩:=ZhK r [x] 1 (by simp)
   rw[e1,e2,ZhF hh,←e2,Zch r [x] (by simp),if_pos rfl]
   simp[Zdl,Zow,ZkH]
  ·erw[rwl (if_neg hc ..) ?_]
   have s1:Zdd cur 1 (a::c::x::r)=Zdd (cur++[a]) 0 (c::x::r):=by rw[Zg6,if_neg (by simp)]
   have s2:Zdd (cur++[a]) 0 (c::x::r)=Zdd (cur++[a]++[c]) 0 (x::r):=by rw[Zg6,if_neg (by simp[hc])]
   have s3:Zdd (cur++[a]) 1 (c::x::r)=Zdd (cur++[a]++[c]) 0 (x::r):=by rw[Zg6,if_neg (by simp)]
   have e1:Zdd cur 1 (a::c::x::r)=Zdd (cur++[a]) 1 (c::x::r):=by erw[rwl (s1 ..) (rwl (s2 ..) (rwl (s3 ..) ?_))]
   rw[e1,Zch (c::x::r) (cur++[a]) (by simp)]
   simp
noncomputable def ZbO:List (List Nat)->List (List Nat)
 | []=>[]
 | x::r=>match ZbO r with
  | []=>[x]
  | y::t=>if y.headD 0 < x.getLastD 0 then(x.dropLast++y.tail)::t else x::y::t
theorem Zvr:ZbO []=[]:=rfl
theorem Zse(x:List Nat)(r:List (List Nat)):ZbO (x::r)=match ZbO r with
  | []=>[x]
  | y::t=>if y.headD 0 < x.getLastD 0 then(x.dropLast++y.tail)::t else x::y::t:=rfl
theorem ZdT:∀(rs:List (Nat×Nat×List Nat)) (d:List Nat),∃y t,Zb4 rs d=y::t∧∃z,y=d++z
 | [],d=>⟨d,[],rfl,[],by simp⟩
 | (lo,hi,d')::rs,d=>⟨d++[lo],_,rfl,[lo],rfl⟩
theorem Zf3:∀(rs:List (Nat×Nat×List Nat)) (d e:List Nat) (y:List Nat) (t:List (List Nat)),Zb4 rs e=y::t->Zb4 rs (d++e)=(d++y)::t
 | [],d,e,y,t,h=>by simp[Zow,ZkH] at h ⊢;simp[h]
 | (lo,hi,d')::rs,d,e,y,t,h=>by simp[Zow,ZkH] at h ⊢;obtain⟨rfl,rfl⟩:=h;simp
theorem Zea:∀(rs:List (Nat×Nat×List Nat)) (d:List Nat),ZbO (Zb4 rs d)=Zb4 (rmR rs).2 (d++(rmR rs).1)
 | [],d=>by simp[Zow,ZkH,Zvr,Zse,ZtP,Zry]
 | (lo,hi,d')::rs,d=>by
  erw[rwl (ZkH ..) (rwl (Zse ..) (rwl (Zea rs (hi::d') ..) ?_))]
  obtain⟨y,t,e,z,hz⟩:=ZdT (rmR rs).2 ((hi::d')++(rmR rs).1)
  erw[rwl (e ..) ?_]
  dsimp only
  have h1:y.headD 0=hi:=by erw[rwl (hz ..) ?_];rfl
  have h2:(d++[lo]).getLastD 0=lo:=by erw[rwl (List.getLastD_eq_getLast? ..) ?_];simp
  erw[rwl (h1 ..) (rwl (h2 ..) (rwl (Zry ..) ?_))]
  by_cases h:hi < lo
  ·erw[rwl (if_pos h ..) (rwl (if_pos h ..) ?_)]
   have e2:Zb4 (rmR rs).2 (d'++(rmR rs).1)=y.tail::t:=by
    obtain⟨y',t',e',_⟩:=ZdT (rmR rs).2 (d'++(rmR rs).1)
    have:=Zf3 (rmR rs).2 [hi] (d'++(rmR rs).1) y' t' e'
    rw[show [hi]++(d'++(rmR rs).1)=(hi::d')++(rmR rs).1 by simp,e] at this
    injection this with q1 q2
    erw[rwl (e' ..) (rwl (q1 ..) (rwl (q2 ..) ?_))];rfl
   have:=Zf3 (rmR rs).2 d (d'++(rmR rs).1) y.tail t e2
   erw[rwl (this ..) ?_]
   simp
  ·erw[rwl (if_neg h ..) (rwl (if_neg h ..) (rwl (ZkH ..) ?_))]
   erw[rwl (List.append_nil ..) ?_]
   congr 1
   erw[rwr (e ..) ?_]
   simp
theorem ZfV(p:Pz):ZbO (Zdl p)=Zdl (rm p):=Zea p.2 p.1
noncomputable def eC(c:Nat):List Nat:=if c=92 then [92,92] else if c=45 then [92,45] else if c=38∨c=126∨c=124 then [92,c] else [c]
noncomputable def Zh6(p:Pz):List Nat:=p.1.flatMap eC++p.2.flatMap λt=>eC t.1++[45]++eC t.2.1++t.2.2.flatMap eC
theorem ZgJ:∀(rs:List (Nat×Nat×List Nat)) (d:List Nat),ZbX [45] ((Zb4 rs d).map λl=>l.flatMap eC)=Zh6 (d,rs)
 | [],d=>by simp[Zow,ZkH,Zl6,Zle,Zim,Zh6]
 | (lo,hi,d')::rs,d=>by
  have ih:=ZgJ rs (hi::d')
  obtain⟨y,t,e,_⟩:=ZdT rs (hi::d')
  erw[rwl (ZkH ..) ?_]
  rw[e] at ih ⊢
  erw[rwl (List.map_cons ..) (rwl (List.map_cons ..) (rwl (Zim ..) ?_))]
  rw[List.map_cons] at ih
  erw[rwl (ih ..) ?_]
  unfold Zh6
  simp
noncomputable def ZfH(l:List Nat):List Nat:=Zbe 45 [92,45] (Zbe 92 [92,92] l)
theorem Zdq(a b:List Nat):Zd9 (a++b)=Zd9 a++Zd9 b:=by unfold Zd9;erw[rwl (List.flatMap_append ..) ?_]
theorem Ziz(l:List Nat):Zd9 (ZfH l)=l.flatMap eC:=by
 induction l with
 | nil=>rfl
 | cons c r ih=>
  have e:ZfH (c::r)=ZfH [c]++ZfH r:=by unfold ZfH Zbe;simp
  erw[rwl (e ..) (rwl (Zdq ..) (rwl (ih ..) (rwl (List.flatMap_cons ..) ?_)))]
  congr 1
  unfold ZfH Zbe eC
  by_cases h1:c=92
  ·subst h1;rfl
  ·by_cases h2:c=45
   ·subst h2;rfl
   ·simp[h1,h2,Zd9]
theorem Zi8:∀cs:List (List Nat),Zd9 (ZbX [45] (cs.map ZfH))=ZbX [45] (cs.map λl=>l.flatMap eC)
 | []=>rfl
 | [x]=>by simp[Zl6,Zle,Zim,Ziz]
 | x::y::r=>by
  have:=Zi8 (y::r)
  rw[List.map_cons] at this
  erw[rwl (List.map_cons ..) (rwl (List.map_cons ..) (rwl (Zim ..) (rwl (Zdq ..) (rwl (Zdq ..) (rwl (Ziz ..) (rwl (this ..) ?_))))))]
  rfl
theorem Zlf{l:List Nat}(h:45 ∉ l):Zd9 (Zbe 92 [92,92] l)=l.flatMap eC:=by
 erw[rwr (Ziz ..) ?_]
 congr 1
 unfold ZfH
 symm
 unfold Zbe
 erw[rwl (List.flatMap_assoc ..) ?_]
 induction l with
 | nil=>rfl
 | cons c r ih=>
  simp only[List.mem_cons,not_or] at h
  erw[rwl (List.flatMap_cons ..) (rwl (List.flatMap_cons ..) (rwl (ih h.2 ..) ?_))]
  congr 1
  by_cases h1:c=92
  ·subst h1;rfl
  ·simp[h1];intro q;exact absurd q.symm h.1
theorem ZfB:∀{l:List Nat},45 ∉ l->Zao l=(l,[])
 | [],_=>rfl
 | [a],_=>rfl
 | [a,c],_=>rfl
 | a::c::x::r,h=>by
  simp only[List.mem_cons,not_or] at h
  rw[Zjl,if_neg (λq=>h.2.1 q.symm),ZfB (l:=c::x::r) (by simp only[List.mem_cons,not_or];exact h.2)]
noncomputable def Zbb(b:List Nat):List Nat:=if b.head?==some 33 then 33::Zh6 (rm (Zao b.tail)) else Zh6 (rm (Zao b))
end
section
noncomputable def ZjW:X:=match ZcW with
 | .seq _ (.seq _ (.seq _ (.seq (.whl t _) _)))=>t
 | _=>.nil
noncomputable def Zdg:S:=match ZcW with
 | .seq _ (.seq _ (.seq _ (.seq (.whl _ b) _)))=>b
 | _=>.skip
noncomputable def Zo3:S:=match Zdg with
 | .seq _ (.seq _ b)=>b
 | _=>.skip
noncomputable def Zrj:S:=match Zo3 with
 | .seq (.ifs _ _ (.seq (.ifs _ _ (.seq (.ifs _ b _) _)) _)) _=>b
 | _=>.skip
noncomputable def ZiE:S:=match Zrj with
 | .seq _ (.seq _ (.seq _ (.seq _ b)))=>b
 | _=>.skip
noncomputable def stR(p:List Nat)(g:Addr)(res:List D)(i:Nat)(s7 s8 s9 s10 s11 s12:Slot):Sg:=
 [.fz (.str p),.fz (.obj g),.fz (.str [46]),.own res,.app 3,.fz (.int (i:Int)),.fz (.int (p.length:Int)),s7,s8,s9,s10,s11,s12,.un]
noncomputable def Zap(g:Addr):Option (List Nat)->D
 | none=>.obj g
 | some t=>.str t
theorem ZvD(g:Addr):Zap g none=.obj g:=rfl
theorem ZvC(g:Addr)(t:List Nat):Zap g (some t)=.str t:=rfl
noncomputable def ZbE(ps:List (Option (List Nat)))(x:Option (List Nat)):List (Option (List Nat)):=if x=none∧ps.getLast? = some none then ps else ps++[x]
section
variable {p:List Nat}{g:Addr}{ps:List (Option (List Nat))}{s7 s8 s9 s10 s11 s12:Slot}
theorem Zg5{pre r:List Nat}{c:Nat}{res:List D}(hb:p=pre++c::r)(hl:p.length<=800){o:Option (Fl×Sg)}(k:ex ΓA fuel Zo3 (stR p g res (pre.length+1) (.fz (.str [c])) s8 s9 s10 s11 s12)=o) :
  ex ΓA fuel Zdg (stR p g res pre.length s7 s8 s9 s10 s11 s12)=o:=by
 have hlen:p.length=pre.length+(r.length+1):=by erw[rwl (hb ..) ?_];simp
 refine Zaa (σ':=stR p g res pre.length (.fz (.str [c])) s8 s9 s10 s11 s12) (Zaw (ZaL (p:=.str p) (q:=.int (pre.length:Int)) rfl rfl (ZaV (by erw[rwl (hb ..) ?_];exact ZbB pre _ 0) (by lia)))) ?_
 exact Zaa (σ':=stR p g res (pre.length+1) (.fz (.str [c])) s8 s9 s10 s11 s12) (Zaw (ZaF (p:=.int (pre.length:Int)) (q:=.int 1) rfl rfl rfl)) k
theorem Zp1{pre r:List Nat}(hb:p=pre++42::r)(hl:p.length<=800)(hm:ps.length<=1000) :
  ex ΓA fuel Zdg (stR p g (ps.map (Zap g)) pre.length s7 s8 s9 s10 s11 s12)=some (.next,stR p g ((ZbE ps none).map (Zap g)) (pre.length+1) (.fz (.str [42])) s8 s9 s10 s11 s12):=by
 refine Zg5 hb hl (Zaf (x_t (ZbV rfl rfl rfl) (Zaf ?_)))
 have add:∀ps:List (Option (List Nat)),ps.length<=1000->ex ΓA fuel (.seq (.add 4 3 (.var 1)) .skip) (stR p g (ps.map (Zap g)) (pre.length+1) (.fz (.str [42])) s8 s9 s10 s11 s12)=some (.next,stR p g ((ps++[none]).map (Zap g)) (pre.length+1) (.fz (.str [42])) s8 s9 s10 s11 s12):=λps hm=>by
  have:=ZqZ (Γ:=ΓA) (N:=fuel) (σ:=stR p g (ps.map (Zap g)) (pre.length+1) (.fz (.str [42])) s8 s9 s10 s11 s12) (i:=3) (j:=4) (x:=.var 1) (ds:=ps.map (Zap g)) (d:=.obj g) rfl rfl rfl (by simp;lia)
  erw[rwl (List.map_append ..) ?_]
  exact Zaf this
 cases hg:ps.getLast? with
 | none=>
  have:ps=[]:=List.getLast?_eq_none_iff.mp hg
  subst this
  refine x_t (ZeI (Zfj (Zcz (d:=.list []) rfl rfl))) ?_
  exact add [] (by simp)
 | some x=>
  have h0:(ps.map (Zap g)).isEmpty=false:=by
   cases ps with
   | nil=>cases hg
   | cons a r=>rfl
  have t0:tv ΓA (stR p g (ps.map (Zap g)) (pre.length+1) (.fz (.str [42])) s8 s9 s10 s11 s12) (.tnot (.tval (.tvar 3)))=some false:=
   (Zfj (Zcz (d:=.list (ps.map (Zap g))) (b:=true) rfl (by show some (!(ps.map (Zap g)).isEmpty)=_;erw[rwl (h0 ..) ?_];rfl)))
  have e1:ev ΓA (stR p g (ps.map (Zap g)) (pre.length+1) (.fz (.str [42])) s8 s9 s10 s11 s12) (.idx (.tvar 3) (.const (.int (-1))))=some (Zap g x):=ZaL rfl rfl (ZeN (by erw[rwl (List.getLast?_map ..) (rwl (hg ..) ?_)];rfl))
  cases x with
  | none=>
   have e:ZbE ps none=ps:=if_pos ⟨rfl,hg⟩
   erw[rwl (e ..) ?_]
   refine x_f (Zjc t0 (Zjc (Zaj e1 (q:=.obj g) rfl ?_) rfl)) rfl
   show((if g=g then some true else none).map (!·))=some false
   erw[rwl (if_pos rfl ..) ?_];rfl
  | some t=>
   have e:ZbE ps none=ps++[none]:=if_neg (λq=>by rw[hg] at q;cases q.2)
   erw[rwl (e ..) ?_]
   exact x_t (Zjc t0 (ZeI (Zaj e1 (q:=.obj g) rfl rfl))) (add ps hm)
theorem Zgb{x:X}{t:List Nat}{i:Nat}(he:ev ΓA (stR p g (ps.map (Zap g)) i s7 s8 s9 s10 s11 s12) x=some (.str t))(hm:ps.length<=1000) :
  ex ΓA fuel (.seq (.add 4 3 x) .skip) (stR p g (ps.map (Zap g)) i s7 s8 s9 s10 s11 s12)=some (.next,stR p g ((ZbE ps (some t)).map (Zap g)) i s7 s8 s9 s10 s11 s12):=by
 have e:ZbE ps (some t)=ps++[some t]:=if_neg (λq=>by cases q.1)
 erw[rwl (e ..) (rwl (List.map_append ..) ?_)]
 exact Zaf (ZqZ (i:=3) (j:=4) (ds:=ps.map (Zap g)) rfl rfl he (by simp;lia))
theorem Zvy{pre r:List Nat}(hb:p=pre++63::r)(hl:p.length<=800)(hm:ps.length<=1000) :
  ex ΓA fuel Zdg (stR p g (ps.map (Zap g)) pre.length s7 s8 s9 s10 s11 s12)=some (.next,stR p g ((ZbE ps (some [46])).map (Zap g)) (pre.length+1) (.fz (.str [63])) s8 s9 s10 s11 s12):=
 Zg5 hb hl (Zaf (x_f (ZaH (by decide) rfl rfl) (Zaf (x_t (ZbV rfl rfl rfl) (Zgb rfl hm)))))
theorem Zsb{pre r:List Nat}{c:Nat}(hb:p=pre++c::r)(h1:c≠42)(h2:c≠63)(h3:c≠91)(hl:p.length<=800)(hm:ps.length<=1000) :
  ex ΓA fuel Zdg (stR p g (ps.map (Zap g)) pre.length s7 s8 s9 s10 s11 s12)=some (.next,stR p g ((ZbE ps (some (Ze6 c))).map (Zap g)) (pre.length+1) (.fz (.str [c])) s8 s9 s10 s11 s12):=
 Zg5 hb hl (Zaf (x_f (ZaH h1 rfl rfl) (Zaf (x_f (ZaH h2 rfl rfl) (Zaf (x_f (ZaH h3 rfl rfl) (Zgb rfl hm)))))))
theorem Zcp{c:Nat}{l:List Nat}{t x:Nat}(h:l[t]? = some x):Zae c l t=if x=c then some t else Zae c l (t+1):=by
 have ht:t < l.length:=by
  rcases Nat.lt_or_ge t l.length with q | q
  ·exact q
  ·rw[List.getElem?_eq_none q] at h;cases h
 unfold Zae
 rw[show l.length - t=(l.length - (t+1))+1 by lia,List.range'_succ,List.find?_cons,h]
 by_cases q:x=c
 ·erw[rwl (if_pos q ..) (rwl (q ..) ?_)];simp
 ·have:(some x==some c)=false:=by simpa using q
  erw[rwl (if_neg q ..) (rwl (this ..) ?_)]
theorem Zb3{c:Nat}{l:List Nat}{t:Nat}(h:l.length<=t):Zae c l t=none:=by
 unfold Zae
 rw[show l.length - t=0 by lia]
 rfl
noncomputable def ZqI(l:List Nat):Option Nat->Nat
 | some k=>k
 | none=>l.length
variable {res:List D}{q r:List Nat}
theorem Znu{t:Nat}(hb:p=q++r):tv ΓA (stR p g res q.length s7 (.fz (.int ((q.length+t:Nat):Int))) s9 s10 s11 s12) (.tcmp .lt (.var 8) (.var 6))=some (decide (t < r.length)):=by
 refine(lt_int (a:=((q.length+t:Nat):Int)) (b:=(p.length:Int)) rfl rfl).trans ?_
 have hlen:p.length=q.length+r.length:=by erw[rwl (hb ..) ?_];simp
 congr 1
 erw[rwl (propext (Bool.eq_iff_iff ..)) ?_]
 simp
 lia
theorem Zs6{t x:Nat}(hb:p=q++r)(hl:p.length<=800)(hx:r[t]? = some x):ev ΓA (stR p g res q.length s7 (.fz (.int ((q.length+t:Nat):Int))) s9 s10 s11 s12) (.idx (.var 0) (.var 8))=some (.str [x]):=by
 have ht:t < r.length:=by
  rcases Nat.lt_or_ge t r.length with h | h
  ·exact h
  ·rw[List.getElem?_eq_none h] at hx;cases hx
 have hlen:p.length=q.length+r.length:=by erw[rwl (hb ..) ?_];simp
 exact ZaL (p:=.str p) (q:=.int ((q.length+t:Nat):Int)) rfl rfl (ZaV (by erw[rwl (hb ..) (rwl (ZbB ..) ?_)];exact hx) (by lia))
theorem ZoU{t c:Nat}(hb:p=q++r)(hl:p.length<=800):ex ΓA fuel (.ifs (.tand (.cons (.tcmp .lt (.var 8) (.var 6)) (.cons (.tcmp .eq (.idx (.var 0) (.var 8)) (.const (.str [c]))) .nil))) (.seq (.asg 8 (.bin .add (.var 8) (.const (.int 1)))) .skip) .skip)
  (stR p g res q.length s7 (.fz (.int ((q.length+t:Nat):Int))) s9 s10 s11 s12)=some (.next,stR p g res q.length s7 (.fz (.int ((q.length+(if r[t]? = some c then t+1 else t):Nat):Int))) s9 s10 s11 s12):=by
 cases hx:r[t]? with
 | none=>
  have ht:r.length<=t:=List.getElem?_eq_none_iff.mp hx
  rw[if_neg (by nofun)]
  exact x_f (Zav ((Znu hb).trans (by rw[decide_eq_false (by lia)]))) rfl
 | some x=>
  have ht:t < r.length:=by
   rcases Nat.lt_or_ge t r.length with h | h
   ·exact h
   ·rw[List.getElem?_eq_none h] at hx;cases hx
  have t1:=(Znu (p:=p) (g:=g) (res:=res) (s7:=s7) (s9:=s9) (s10:=s10) (s11:=s11) (s12:=s12) (t:=t) hb).trans (by erw[rwl (decide_eq_true ht ..) ?_])
  have t2:=Zmt (σ:=stR p g res q.length s7 (.fz (.int ((q.length+t:Nat):Int))) s9 s10 s11 s12) (y:=.const (.str [c])) (b:=c) (Zs6 hb hl hx) rfl
  by_cases h:x=c
  ·rw[decide_eq_true h] at t2
   rw[if_pos (by erw[rwl (h ..) ?_])]
   exact x_t (ZaK t1 (ZaK t2 rfl)) (Zaf (Zaw (ZaF (p:=.int ((q.length+t:Nat):Int)) (q:=.int 1) rfl rfl rfl)))
  ·rw[decide_eq_false h] at t2
   rw[if_neg (by simpa using h)]
   exact x_f (ZaK t1 (Zav t2)) rfl
theorem ZmD(hb:p=q++r)(hl:p.length<=800):∀(n t N:Nat),r.length - t<=n->t<=r.length->n < N->
  Zbj (λσ=>tv ΓA σ (.tand (.cons (.tcmp .lt (.var 8) (.var 6)) (.cons (.tcmp .ne (.idx (.var 0) (.var 8)) (.const (.str [93]))) .nil)))) (ex ΓA fuel (.seq (.asg 8 (.bin .add (.var 8) (.const (.int 1)))) .skip)) N (stR p g res q.length s7 (.fz (.int ((q.length+t:Nat):Int))) s9 s10 s11 s12) =
   some (.next,stR p g res q.length s7 (.fz (.int ((q.length+ZqI r (Zae 93 r t):Nat):Int))) s9 s10 s11 s12)
 | n,t,N+1,hn,ht,hN=>by
  by_cases he:t=r.length
  ·subst he
   erw[rwl (Zb3 (Nat.le_refl _) ..) ?_]
   exact ZcT (Zav ((Znu hb).trans (by erw[rwl (decide_eq_false (Nat.lt_irrefl _) ..) ?_])))
  ·have ht':t < r.length:=Nat.lt_of_le_of_ne ht he
   have hx:r[t]? = some r[t]:=List.getElem?_eq_getElem ht'
   have t1:=(Znu (p:=p) (g:=g) (res:=res) (s7:=s7) (s9:=s9) (s10:=s10) (s11:=s11) (s12:=s12) (t:=t) hb).trans (by erw[rwl (decide_eq_true ht' ..) ?_])
   have e1:=Zs6 (g:=g) (res:=res) (s7:=s7) (s9:=s9) (s10:=s10) (s11:=s11) (s12:=s12) hb hl hx
   have t2:tv ΓA (stR p g res q.length s7 (.fz (.int ((q.length+t:Nat):Int))) s9 s10 s11 s12) (.tcmp .ne (.idx (.var 0) (.var 8)) (.const (.str [93])))=some (!decide (r[t]=93)):=by
    refine Zaj e1 (q:=.str [93]) rfl ?_
    show some (!([r[t]]==[93]))=_
    by_cases h:r[t]=93
    ·erw[rwl (h ..) ?_];rfl
    ·rw[decide_eq_false h,beq_eq_false_iff_ne.mpr (by simpa using h)]
   erw[rwl (Zcp hx ..) ?_]
   by_cases h:r[t]=93
   ·erw[rwl (if_pos h ..) ?_]
    rw[decide_eq_true h] at t2
    exact ZcT (ZaK t1 (Zav t2))
   ·erw[rwl (if_neg h ..) ?_]
    rw[decide_eq_false h] at t2
    match n,hn,hN with
    | n+1,hn,hN=>exact ZiJ (ZaK t1 (ZaK t2 rfl)) (Zaf (Zaw (ZaF (p:=.int ((q.length+t:Nat):Int)) (q:=.int 1) rfl rfl rfl))) (ZmD hb hl n (t+1) N (Nat.pred_le_pred hn) ht' (Nat.lt_of_succ_lt_succ hN))
    | 0,hn,hN=>exact absurd (Nat.lt_of_lt_of_le (Nat.sub_pos_of_lt ht') hn) (Nat.lt_irrefl 0)
 | n,t,0,_,_,hN=>absurd hN (Nat.not_lt_zero _)
theorem Zqm(r:List Nat):Zae 93 r (if r[(if r[0]? = some 33 then 1 else 0)]? = some 93 then(if r[0]? = some 33 then 1 else 0)+1 else(if r[0]? = some 33 then 1 else 0))=Zae 93 r (clS r):=by
 have e:clS r=(if r[0]? = some 33 then 1 else 0)+1:=by
  unfold clS
  cases r with
  | nil=>rfl
  | cons a r=>simp;split<;>simp_all
 erw[rwl (e ..) ?_]
 generalize (if r[0]? = some 33 then 1 else 0)=t
 cases h:r[t]? with
 | none=>
  have:=List.getElem?_eq_none_iff.mp h
  rw[if_neg (by nofun),Zb3 this,Zb3 (by lia)]
 | some x=>
  by_cases hx:x=93
  ·rw[if_pos (by erw[rwl (hx ..) ?_])]
  ·rw[if_neg (by simpa using hx),Zcp h,if_neg hx]
set_option tactic.hygienic true in
theorem ZkP{r:List Nat}{t c:Nat}(h:t<=r.length):(if r[t]? = some c then t+1 else t)<=r.length:=by
 split
 ·rename_i q
  rcases Nat.lt_or_ge t r.length with z | z
  ·exact z
  ·rw[List.getElem?_eq_none z] at q;cases q
 ·exact h
theorem ZlL(hb:p=q++r)(hl:p.length<=800){o:Option (Fl×Sg)}(k:ex ΓA fuel ZiE (stR p g res q.length s7 (.fz (.int ((q.length+ZqI r (Zae 93 r (clS r)):Nat):Int))) s9 s10 s11 s12)=o) :
  ex ΓA fuel Zrj (stR p g res q.length s7 s8 s9 s10 s11 s12)=o:=by
 have hlen:p.length=q.length+r.length:=by erw[rwl (hb ..) ?_];simp
 have a0:ex ΓA fuel (.asg 8 (.var 5)) (stR p g res q.length s7 s8 s9 s10 s11 s12)=some (.next,stR p g res q.length s7 (.fz (.int ((q.length+0:Nat):Int))) s9 s10 s11 s12):=rfl
 refine Zaa a0 (Zaa (ZoU (c:=33) hb hl) (Zaa (ZoU (c:=93) hb hl) ?_))
 rw[←Zqm r] at k
 refine Zaa (ZmD hb hl r.length _ fuel (Nat.sub_le _ _) ?_ (by simp[fuel];lia)) k
 exact ZkP (ZkP (Nat.zero_le _))
end
end
section
noncomputable def Zva:S:=match ZiE with
 | .seq (.ifs _ _ (.seq _ b)) _=>b
 | _=>.skip
noncomputable def Zpg:S:=match Zva with
 | .seq (.ifs _ _ b) _=>b
 | _=>.skip
noncomputable def ZrZ:S:=match Zpg with
 | .seq _ (.seq _ b)=>b
 | _=>.skip
noncomputable def cutBody:S:=match ZrZ with
 | .seq (.whl _ b) _=>b
 | _=>.skip
noncomputable def Zo4:S:=match ZrZ with
 | .seq _ b=>b
 | _=>.skip
noncomputable def ZrC:S:=match Zo4 with
 | .seq _ (.seq _ b)=>b
 | _=>.skip
noncomputable def Zjk:S:=match ZrC with
 | .seq (.fors _ _ b) _=>b
 | _=>.skip
theorem ZdI(c x:Nat)(l:List Nat)(s:Nat):Zae c (x::l) (s+1)=(Zae c l s).map (· + 1):=by
 have:=ZcP c [x] l s
 simp only[List.cons_append,List.nil_append,List.length_cons,List.length_nil] at this
 erw[rwl (Nat.add_comm s 1 ..) ?_]
 rw[Nat.zero_add] at this
 erw[rwl (this ..) ?_]
 congr 1
 funext j
 lia
theorem Zfm:∀(r cur:List Nat) (s:Nat),Zdd cur s r=match Zae 45 r s with
  | some m=>(cur++r.take m)::Zdd [] 2 (r.drop (m+1))
  | none=>[cur++r]
 | [],cur,s=>by
  rw[Zb3 (by simp)]
  simp[Zrs,Zg6]
 | c::r,cur,0=>by
  erw[rwl (Zg6 ..) (rwl (Zcp (x:=c) rfl ..) ?_)]
  by_cases h:c=45
  ·erw[rwl (if_pos ⟨rfl,h⟩ ..) (rwl (if_pos h ..) ?_)]
   simp
  ·rw[if_neg (by simp[h]),if_neg h,ZdI,Zfm r (cur++[c]) 0]
   cases Zae 45 r 0<;>simp
 | c::r,cur,s+1=>by
  rw[Zg6,if_neg (by simp),ZdI,Nat.add_sub_cancel,Zfm r (cur++[c]) s]
  cases Zae 45 r s<;>simp
theorem Zof{q r:List Nat}{t k:Nat}(hk:k<=r.length):ZeC 45 (q++r) (q.length+t) (q.length+k)=match Zae 45 (r.take k) t with
  | some m=>((q.length+m:Nat):Int)
  | none=>-1:=by
 have e:((List.range' (q.length+t) (q.length+k - (q.length+t))).find? λi=>(q++r)[i]?==some 45)=(Zae 45 (r.take k) t).map (q.length + ·):=by
  unfold Zae
  have e1:List.range' (q.length+t) (q.length+k - (q.length+t))=(List.range' t (k - t)).map (q.length + ·):=by
   erw[rwl (List.map_add_range' ..) ?_]
   congr 1
   lia
  erw[rwl (e1 ..) (rwl (List.find?_map ..) (rwl (List.length_take ..) (rwl (Nat.min_eq_left hk ..) ?_)))]
  congr 1
  have:∀L:List Nat,(∀j∈L,j < k)->List.find? ((λi=>(q++r)[i]?==some 45) ∘ λx=>q.length+x) L=List.find? (λi=>(r.take k)[i]?==some 45) L:=by
   intro L
   induction L with
   | nil=>intro _;rfl
   | cons a L ih=>
    intro h
    have ha:((λi=>(q++r)[i]?==some 45) ∘ λx=>q.length+x) a=((r.take k)[a]?==some 45):=by
     show((q++r)[q.length+a]?==some 45)=_
     erw[rwl (ZbB ..) (rwl (List.getElem?_take ..) (rwl (if_pos (h a List.mem_cons_self) ..) ?_))]
    erw[rwl (List.find?_cons ..) (rwl (List.find?_cons ..) (rwl (ha ..) (rwl (ih λj hj=>h j (List.mem_cons_of_mem _ hj) ..) ?_)))]
  exact this _ λj hj=>by simp at hj;lia
 unfold ZeC
 erw[rwl (e ..) ?_]
 cases Zae 45 (r.take k) t<;>rfl
section
variable {p:List Nat}{g:Addr}{res:List D}{s7 s9 s10 s11 s12:Slot}{q r:List Nat}
noncomputable def jS(q:List Nat)(k:Nat):Slot:=.fz (.int ((q.length+k:Nat):Int))
theorem Zq9{a c:Nat}{x y:X}{σ:Sg}(hb:p=q++r)(h0:rd σ 0=some (.str p))(hx:ev ΓA σ x=some (.int ((q.length+a:Nat):Int)))(hy:ev ΓA σ y=some (.int ((q.length+c:Nat):Int))):ev ΓA σ (.slc (.var 0) x y)=some (.str ((r.take c).drop a)):=by
 refine Zco (p:=.str p) h0 hx hy ?_
 show some (D.str (slice p _ _))=_
 erw[rwl (hb ..) (rwl (ZbR ..) ?_)]
theorem Zpv{σ:Sg}{x y z w:X}{l:List Nat}{c i j:Nat}(hx:ev ΓA σ x=some (.str l))(hy:ev ΓA σ y=some (.str [c]))(hz:ev ΓA σ z=some (.int (i:Int)))(hw:ev ΓA σ w=some (.int (j:Int)))(hi:i<=1000000000)(hj:j<=l.length) :
  ev ΓA σ (.find3 x y z w)=some (.int (ZeC c l i j)):=
 show(ev ΓA σ x).bind _=_ from Zag hx (Zag hy (Zag hz (Zag hw (if_pos ⟨Int.natCast_nonneg i,Int.ofNat_le.mpr hi,Int.natCast_nonneg j,Int.ofNat_le.mpr hj⟩))))
theorem Zjz{k:Nat}(hb:p=q++r)(hl:p.length<=100)(hk:k<=r.length):∀(n a s:Nat) (cs:List D) (N:Nat),k - a<=n->a<=k->s<=2->cs.length+n<=1000->n < N->
  ∃(a':Nat) (fr:List (List Nat)),a'<=k∧Zdd [] s ((r.take k).drop a)=fr++[(r.take k).drop a']∧
  Zbj (λσ=>tv ΓA σ (.tval (.const (.bool true)))) (ex ΓA fuel cutBody) N (stR p g res (q.length+a) s7 (jS q k) s9 (.own cs) (.fz (.int ((q.length+(a+s):Nat):Int))) s12) =
   some (.next,stR p g res (q.length+a') s7 (jS q k) s9 (.own (cs++fr.map .str)) (.fz (.int (-1))) s12)
 | n,a,s,cs,N+1,hn,ha,hs,hc,hN=>by
  have hlen:p.length=q.length+r.length:=by erw[rwl (hb ..) ?_];simp
  have e1:=Zpv (σ:=stR p g res (q.length+a) s7 (jS q k) s9 (.own cs) (.fz (.int ((q.length+(a+s):Nat):Int))) s12) (x:=.var 0) (y:=.const (.str [45])) (z:=.var 11) (w:=.var 8) (l:=p) (c:=45) (i:=q.length+(a+s)) (j:=q.length+k) rfl rfl rfl rfl (by lia) (by lia)
  have e2:ZeC 45 p (q.length+(a+s)) (q.length+k)=ZeC 45 (q++r) (q.length+(a+s)) (q.length+k):=by erw[rwl (hb ..) ?_]
  rw[e2,Zof (t:=a+s) hk] at e1
  have e3:Zae 45 (r.take k) (a+s)=(Zae 45 ((r.take k).drop a) s).map (a + ·):=by
   have:=ZcP 45 ((r.take k).take a) ((r.take k).drop a) s
   rw[List.take_append_drop] at this
   rw[show((r.take k).take a).length=a by simp;lia] at this
   exact this
  rw[e3] at e1
  erw[rwl (Zfm ..) ?_]
  cases hf:Zae 45 ((r.take k).drop a) s with
  | none=>
   rw[hf] at e1
   exact⟨a,[],ha,by simp,Zs0 rfl (Zaa (σ':=stR p g res (q.length+a) s7 (jS q k) s9 (.own cs) (.fz (.int (-1))) s12) (Zaw e1) (ZnI (x_t (Zaj (p:=.int (-1)) (q:=.int 0) rfl rfl rfl) (ZnI rfl)))) |>.trans (by simp)⟩
  | some m=>
   rw[hf] at e1
   have hm:=(ZaT hf).2.1
   have hmk:a+m < k:=by
    rcases Nat.lt_or_ge (a+m) k with z | z
    ·exact z
    ·rw[List.getElem?_eq_none (by simp;lia)] at hm;cases hm
   have f1:ex ΓA fuel cutBody (stR p g res (q.length+a) s7 (jS q k) s9 (.own cs) (.fz (.int ((q.length+(a+s):Nat):Int))) s12)=some (.next,stR p g res (q.length+(a+m+1)) s7 (jS q k) s9 (.own (cs++[.str (((r.take k).drop a).take m)])) (.fz (.int ((q.length+(a+m+1+2):Nat):Int))) s12):=by
    refine Zaa (σ':=stR p g res (q.length+a) s7 (jS q k) s9 (.own cs) (.fz (.int ((q.length+(a+m):Nat):Int))) s12) (Zaw e1) ?_
    refine Zaa (x_f (Zaj (p:=.int ((q.length+(a+m):Nat):Int)) (q:=.int 0) rfl rfl ?_) rfl) ?_
    ·show some (decide _)=_
     rw[decide_eq_false (by lia)]
    refine Zaa (σ':=stR p g res (q.length+a) s7 (jS q k) s9 (.own (cs++[.str (((r.take k).drop a).take m)])) (.fz (.int ((q.length+(a+m):Nat):Int))) s12) (Zel (ds:=cs) rfl ((Zq9 (a:=a) (c:=a+m) hb rfl rfl rfl).trans ?_) (by lia)) ?_
    ·erw[rwr (List.take_drop ..) (rwl (List.drop_take ..) (rwl (List.take_take ..) ?_))]
     erw[rwl (Nat.min_eq_left (Nat.le_sub_of_add_le (Nat.le_of_lt (Nat.add_comm a m▸hmk))) ..) ?_]
    refine Zaa (σ':=stR p g res (q.length+(a+m+1)) s7 (jS q k) s9 (.own (cs++[.str (((r.take k).drop a).take m)])) (.fz (.int ((q.length+(a+m):Nat):Int))) s12) (Zaw (ZaF (p:=.int ((q.length+(a+m):Nat):Int)) (q:=.int 1) rfl rfl rfl)) ?_
    exact Zaf (Zaw (ZaF (p:=.int ((q.length+(a+m):Nat):Int)) (q:=.int 3) rfl rfl rfl))
   match n,hn,hc,hN with
   | n+1,hn,hc,hN=>
    obtain⟨a',fr,h1,h2,h3⟩:=Zjz hb hl hk n (a+m+1) 2 (cs++[.str (((r.take k).drop a).take m)]) N (Zsv hn (Nat.le_add_right a m)) hmk (Nat.le_refl 2) (by simp;lia) (Nat.lt_of_succ_lt_succ hN)
    refine⟨a',(((r.take k).drop a).take m)::fr,h1,?_,ZiJ rfl f1 (h3.trans ?_)⟩
    ·dsimp only
     erw[rwl (List.drop_drop ..) ?_]
     erw[rwl (show a+(m+1)=a+m+1 from rfl ..) (rwl (h2 ..) ?_)]
     rfl
    ·simp
   | 0,hn,hc,hN=>exact absurd (Nat.lt_of_lt_of_le (Nat.sub_pos_of_lt (Nat.lt_of_le_of_lt (Nat.le_add_right a m) hmk)) hn) (Nat.lt_irrefl 0)
 | n,a,s,cs,0,_,_,_,_,hN=>absurd hN (Nat.not_lt_zero _)
end
theorem Zk2{x:List Nat}(hx:x≠[]):∀fr:List (List Nat),ZfD (fr++[x])=fr++[x]
 | []=>rfl
 | [a]=>ZhF (t:=[]) hx
 | a::b::t=>by
  have ih:=Zk2 hx (b::t)
  rw[List.cons_append,List.cons_append,ZfD]
  ·rw[List.cons_append] at ih
   rw[ih]
  all_goals
   intro q
   simp at q
theorem Zi0:∀{fr:List (List Nat)} {y:List Nat},fr.getLast? = some y->ZfD (fr++[[]])=fr.dropLast++[y++[45]]
 | [],_,h=>by cases h
 | [a],y,h=>by simp at h;subst h;rfl
 | a::b::t,y,h=>by
  have ih:=Zi0 (fr:=b::t) (y:=y) (by simpa using h)
  rw[List.cons_append,List.cons_append,ZfD]
  ·rw[List.cons_append] at ih
   rw[ih]
   rfl
  all_goals
   intro q
   simp at q
noncomputable def ZgX:Nat->List D
 | 0=>[]
 | m+1=>.int ((m+1:Nat):Int)::ZgX m
theorem Zvk(m:Nat):ZgX (m+1)=.int ((m+1:Nat):Int)::ZgX m:=rfl
theorem Zor(m:Nat):ZgX m=(List.range m).map λ(i:Nat)=>D.int ((m:Int)+(i:Int) * (-1)):=by
 induction m with
 | zero=>rfl
 | succ m ih=>
  erw[rwl (Zvk ..) (rwl (ih ..) (rwl (List.range_succ_eq_map ..) (rwl (List.map_cons ..) (rwl (List.map_map ..) ?_))))]
  congr 1
  apply List.map_congr_left
  intro i _
  show D.int ((m:Int)+(i:Int) * (-1))=D.int (((m+1:Nat):Int)+((i+1:Nat):Int) * (-1))
  congr 1
  lia
theorem Zkp(m:Nat):Zce (m:Int) 0 (-1)=ZgX m:=by
 unfold Zce
 rw[if_neg (by decide),Zor]
 have e:(((m:Int) - 0 - (-1) - 1) / (-(-1))).toNat=m:=by
  rw[show(-(-1):Int)=1 by rfl,Int.ediv_one];lia
 erw[rwl (e ..) ?_]
theorem ZgZ{m i:Nat}(h:i < m):ZnS m (.int (i:Int))=some i:=if_pos ⟨Int.natCast_nonneg i,Int.ofNat_lt.mpr h⟩
theorem ZsN{Γ:ZaC}{N i n:Nat}{σ:Sg}{k v:X}{ds:List D}{d:D}(ho:σ[i]? = some (.own ds))(hv:ev Γ σ v=some d)(hk:ev Γ σ k=some (.int (n:Int)))(hn:n < ds.length)(hl:ds.length<=16777216):ex Γ N (.setI i k v) σ=some (.next,σ.set i (.own (ds.set n d))):=
 show(ownOf σ i).bind _=_ from Zag (Zg0 ho) (Zag hv (Zag hk (Zag (ZgZ hn) (if_pos (Nat.le_trans (Nat.le_of_eq List.length_set) hl)))))
theorem ZtG{Γ:ZaC}{N i n:Nat}{σ:Sg}{k:X}{ds:List D}(ho:σ[i]? = some (.own ds))(hk:ev Γ σ k=some (.int (n:Int)))(hn:n < ds.length)(hl:ds.length<=16777216):ex Γ N (.delI i k) σ=some (.next,σ.set i (.own (ds.eraseIdx n))):=
 show(ownOf σ i).bind _=_ from Zag (Zg0 ho) (Zag hk (Zag (ZgZ hn) (if_pos (Nat.le_trans (List.length_eraseIdx_le ..) hl))))
inductive GoodC:List (List Nat)->Prop
 | one (x:List Nat):GoodC [x]
 | cons {x:List Nat} {R:List (List Nat)} {c:Nat} {z:List Nat} {t:List (List Nat)}:x≠[]->ZbO R=(c::z)::t->GoodC R->GoodC (x::R)
theorem ZfY:∀(rs:List (Nat×Nat×List Nat)) (d:List Nat),GoodC (Zb4 rs d)
 | [],d=>.one d
 | (lo,hi,d')::rs,d=>by
  have h:=Zea rs (hi::d')
  obtain⟨y,t,e,z,hz⟩:=ZdT (rmR rs).2 ((hi::d')++(rmR rs).1)
  rw[e,hz] at h
  exact .cons (by simp) h (ZfY rs (hi::d'))
theorem Zqx{R:List (List Nat)}(h:GoodC R):R≠[]:=by cases h<;>simp
section
variable {p:List Nat}{g:Addr}{res:List D}{s7 s8 s9 s10 s11 s12:Slot}{i:Nat}
theorem ZgE(n m:Nat)(hm:0 < m):ZdH n (-(m:Int))=n - m:=by
 unfold ZdH
 rw[if_pos (by lia)]
 lia
theorem ZjO{α:Type}(l:List α):slice l none (some (-1))=l.dropLast:=by
 unfold slice
 simp only[Option.map_some,Option.map_none,Option.getD_none,Option.getD_some]
 erw[rwl (List.drop_zero ..) (rwl (List.dropLast_eq_take ..) ?_)]
 exact congrArg (λk=>l.take k) (ZgE l.length 1 (by decide))
theorem ZkR{pre:List (List Nat)}{x:List Nat}{Rs:List (List Nat)}{c:Nat}{z:List Nat}{t:List (List Nat)}(hx:x≠[])(hp:ZbO Rs=(c::z)::t)(hl:(pre++x::(c::z)::t).length<=1000)(hx2:x.length+z.length<=1000) :
  ex ΓA fuel Zjk ((stR p g res i s7 s8 s9 (.own ((pre++x::(c::z)::t).map .str)) s11 s12).set 11 (.fz (.int ((pre.length+1:Nat):Int)))) =
   some (.next,stR p g res i s7 s8 s9 (.own ((pre++ZbO (x::Rs)).map .str)) (.fz (.int ((pre.length+1:Nat):Int))) s12):=by
 have hlen:pre.length+(t.length+2)<=1000:=by simpa using hl
 obtain⟨y,hy⟩:∃y,x.getLast? = some y:=by
  cases x with
  | nil=>exact absurd rfl hx
  | cons a r=>exact⟨_,List.getLast?_eq_some_getLast (by simp)⟩
 have d1:((pre++x::(c::z)::t).map D.str)[pre.length]? = some (.str x):=by
  erw[rwl (List.getElem?_map ..) ?_]
  have:=ZbB pre (x::(c::z)::t) 0
  rw[Nat.add_zero] at this
  erw[rwl (this ..) ?_];rfl
 have d2:((pre++x::(c::z)::t).map D.str)[pre.length+1]? = some (.str (c::z)):=by
  erw[rwl (List.getElem?_map ..) (rwl (ZbB ..) ?_)];rfl
 have i1:∀σ:Sg,rd σ 11=some (.int ((pre.length+1:Nat):Int))->ev ΓA σ (.bin .sub (.var 11) (.const (.int 1)))=some (.int ((pre.length:Nat):Int)):=λσ h=>ZaF (p:=.int ((pre.length+1:Nat):Int)) (q:=.int 1) h rfl (by
  show some (D.int (((pre.length+1:Nat):Int) - 1))=_
  congr 2;lia)
 have e1:∀σ:Sg,rd σ 11=some (.int ((pre.length+1:Nat):Int))->rdt σ 10=some (.list ((pre++x::(c::z)::t).map .str))->ev ΓA σ (.idx (.tvar 10) (.bin .sub (.var 11) (.const (.int 1))))=some (.str x):=λσ h h'=>
  ZaL (p:=.list ((pre++x::(c::z)::t).map .str)) (q:=.int ((pre.length:Nat):Int)) h' (i1 σ h) (ZaM d1 (by lia))
 have e2:∀σ:Sg,rd σ 11=some (.int ((pre.length+1:Nat):Int))->rdt σ 10=some (.list ((pre++x::(c::z)::t).map .str))->ev ΓA σ (.idx (.tvar 10) (.var 11))=some (.str (c::z)):=λσ h h'=>
  ZaL (p:=.list ((pre++x::(c::z)::t).map .str)) (q:=.int ((pre.length+1:Nat):Int)) h' h (ZaM d2 (by lia))
 have t1:tv ΓA (stR p g res i s7 s8 s9 (.own ((pre++x::(c::z)::t).map .str)) (.fz (.int ((pre.length+1:Nat):Int))) s12) (.tcmp .gt (.idx (.idx (.tvar 10) (.bin .sub (.var 11) (.const (.int 1)))) (.const (.int (-1)))) (.idx (.idx (.tvar 10) (.var 11)) (.const (.int 0))))=some (decide (c < y)):=by
  refine Zaj (p:=.str [y]) (q:=.str [c]) (ZaL (e1 _ rfl rfl) rfl (Zhr hy)) (ZaL (e2 _ rfl rfl) rfl (ZaV (i:=0) rfl (by lia))) ?_
  show some (ltL [c] [y])=_
  erw[rwl (lt1 ..) ?_]
 have hyD:x.getLastD 0=y:=by erw[rwl (List.getLastD_eq_getLast? ..) (rwl (hy ..) ?_)];rfl
 erw[rwl (Zse ..) (rwl (hp ..) ?_)]
 show _=some (Fl.next,stR p g res i s7 s8 s9 (.own ((pre++if c < x.getLastD 0 then(x.dropLast++z)::t else x::(c::z)::t).map .str)) (.fz (.int ((pre.length+1:Nat):Int))) s12)
 erw[rwl (hyD ..) ?_]
 by_cases h:c < y
 ·rw[decide_eq_true h] at t1
  erw[rwl (if_pos h ..) ?_]
  have v:ev ΓA (stR p g res i s7 s8 s9 (.own ((pre++x::(c::z)::t).map .str)) (.fz (.int ((pre.length+1:Nat):Int))) s12) (.bin .add (.slc (.idx (.tvar 10) (.bin .sub (.var 11) (.const (.int 1)))) (.const .none) (.const (.int (-1)))) (.slc (.idx (.tvar 10) (.var 11)) (.const (.int 1)) (.const .none)))=some (.str (x.dropLast++z)):=by
   refine ZaF (p:=.str x.dropLast) (q:=.str z) (Zco (e1 _ rfl rfl) (q:=.none) (r:=.int (-1)) rfl rfl ?_) (Zco (e2 _ rfl rfl) (q:=.int 1) (r:=.none) rfl rfl ?_) (Zcn (by simp;lia))
   ·exact congrArg (λl=>some (D.str l)) (ZjO x)
   ·exact congrArg (λl=>some (D.str l)) (Zcf (c::z) 1)
  have h1:=ZsN (N:=fuel) (i:=10) rfl v (i1 _ rfl) (by simp) (by simp;lia)
  have q1:((pre++x::(c::z)::t).map D.str).set pre.length (.str (x.dropLast++z))=(pre++(x.dropLast++z)::(c::z)::t).map D.str:=by
   rw[List.map_append,List.set_append_right _ _ (by simp)]
   simp
  rw[q1] at h1
  have h2:=ZtG (Γ:=ΓA) (N:=fuel) (i:=10) (k:=.var 11) (n:=pre.length+1) (σ:=stR p g res i s7 s8 s9 (.own ((pre++(x.dropLast++z)::(c::z)::t).map .str)) (.fz (.int ((pre.length+1:Nat):Int))) s12) rfl rfl (by simp) (by simp;lia)
  have q2:((pre++(x.dropLast++z)::(c::z)::t).map D.str).eraseIdx (pre.length+1)=(pre++(x.dropLast++z)::t).map D.str:=by
   rw[List.map_append,List.eraseIdx_append_of_length_le (by simp)]
   simp
  rw[q2] at h2
  exact Zaf (x_t t1 (Zaa h1 (Zaf h2)))
 ·rw[decide_eq_false h] at t1
  erw[rwl (if_neg h ..) ?_]
  exact Zaf (x_f t1 rfl)
end
end
section
set_option backward.match.sparseCases false
noncomputable def tot(L:List (List Nat)):Nat:=(L.map List.length).sum
theorem Za3(x:List Nat)(L:List (List Nat)):tot (x::L)=x.length+tot L:=by simp[tot]
theorem ZpK:tot []=0:=rfl
theorem ZeO:∀(r cur:List Nat) (s:Nat),tot (Zdd cur s r)<=cur.length+r.length∧(Zdd cur s r).length<=r.length+1
 | [],cur,s=>by simp[Zrs,Zg6,tot]
 | c::r,cur,s=>by
  erw[rwl (Zg6 ..) ?_]
  split
  ·have:=ZeO r [] 2
   erw[rwl (Za3 ..) ?_];simp at this ⊢;lia
  ·have:=ZeO r (cur++[c]) (s - 1)
   simp at this ⊢;lia
theorem ZgC:∀L:List (List Nat),tot (ZfD L)<=tot L+1∧(ZfD L).length<=L.length
 | []=>by simp[ZfD,tot]
 | [x]=>by simp[ZfD,tot]
 | x::y::r=>by
  have ih:=ZgC (y::r)
  by_cases h:y=[]∧r=[]
  ·obtain⟨rfl,rfl⟩:=h
   simp[ZfD,tot]
  ·rw[ZfD]
   ·rw[Za3,Za3];simp at ih ⊢;lia
   all_goals
    intro q
    simp at q
    try exact h q
theorem ZdX:∀L:List (List Nat),tot (ZbO L)<=tot L∧(ZbO L).length<=L.length
 | []=>by simp[Zvr,Zse]
 | x::r=>by
  have ih:=ZdX r
  erw[rwl (Zse ..) ?_]
  cases h:ZbO r with
  | nil=>simp[Za3,ZpK]
  | cons y t=>
   rw[h,Za3] at ih
   have hl:(x.dropLast++y.tail).length<=x.length+y.length:=by erw[rwl (List.length_append ..) (rwl (List.length_dropLast ..) (rwl (List.length_tail ..) ?_))];exact Nat.add_le_add (Nat.sub_le _ _) (Nat.sub_le _ _)
   show _∧_
   erw[rwl (Za3 x r ..) ?_]
   dsimp only
   split
   ·erw[rwl (Za3 ..) ?_]
    exact⟨Nat.le_trans (Nat.add_le_add_right hl _) (Nat.add_assoc ..▸Nat.add_le_add_left ih.1 _),Nat.le_succ_of_le ih.2⟩
   ·erw[rwl (Za3 ..) (rwl (Za3 ..) ?_)]
    exact⟨Nat.add_le_add_left ih.1 _,Nat.succ_le_succ ih.2⟩
theorem ZiT{x:List Nat}:∀{L:List (List Nat)},x∈L->x.length<=tot L
 | y::L,h=>by
  erw[rwl (Za3 ..) ?_]
  rcases List.mem_cons.mp h with rfl | h
  ·lia
  ·have:=ZiT h;lia
theorem Zc2(c:Nat)(z:List Nat)(hz:z.length<=2)(l:List Nat):(Zbe c z l).length<=2 * l.length:=by
 induction l with
 | nil=>simp[Zbe]
 | cons a l ih=>
  have e:Zbe c z (a::l)=(if a=c then z else [a])++Zbe c z l:=by unfold Zbe;erw[rwl (List.flatMap_cons ..) ?_]
  erw[rwl (e ..) (rwl (List.length_append ..) ?_)]
  split<;>simp<;>lia
theorem Zog(l:List Nat):(ZfH l).length<=4 * l.length:=by
 have h1:=Zc2 92 [92,92] (by decide) l
 have h2:=Zc2 45 [92,45] (by decide) (Zbe 92 [92,92] l)
 unfold ZfH;lia
theorem Zgo:∀L:List (List Nat),tot (L.map ZfH)<=4 * tot L
 | []=>by simp[tot]
 | x::L=>by
  erw[rwl (List.map_cons ..) (rwl (Za3 ..) (rwl (Za3 ..) ?_))]
  have:=Zog x
  have:=Zgo L
  lia
theorem Zf0:∀L:List (List Nat),(ZbX [45] L).length<=tot L+L.length
 | []=>by simp[Zl6,Zle,Zim]
 | [x]=>by simp[Zl6,Zle,Zim,tot]
 | x::y::r=>by
  have:=Zf0 (y::r)
  erw[rwl (Zim ..) (rwl (Za3 ..) ?_)];simp at this ⊢;lia
section
variable {p:List Nat}{g:Addr}{res:List D}{s7 s8 s9 s10 s11 s12:Slot}{i:Nat}
theorem ZhD:∀(m:Nat) (pre R:List (List Nat)) (s11:Slot),pre.length=m->R≠[]->GoodC (pre++R)->tot (pre++R)<=1000->(pre++R).length<=1000->
  ∃t11,(s11.isApp 10=false->t11.isApp 10=false)∧forL 11 (ex ΓA fuel Zjk) (ZgX m) (stR p g res i s7 s8 s9 (.own ((pre++ZbO R).map .str)) s11 s12)=some (.next,stR p g res i s7 s8 s9 (.own ((ZbO (pre++R)).map .str)) t11 s12)
 | 0,pre,R,s11,hm,_,_,_,_=>by
  have:pre=[]:=List.eq_nil_of_length_eq_zero hm
  subst this
  exact⟨s11,id,rfl⟩
 | m+1,pre,R,s11,hm,hR,hg,ht,hl=>by
  obtain⟨pre',x,rfl⟩:∃pre' x,pre=pre'++[x]:=by
   rcases List.eq_nil_or_concat pre with h | ⟨a,b,h⟩
   ·rw[h] at hm;cases hm
   ·exact⟨a,b,by erw[rwl (h ..) ?_];simp⟩
  have hm':pre'.length=m:=by simpa using hm
  subst hm'
  have hgx:∀(P:List (List Nat)),GoodC (P++x::R)->GoodC (x::R):=by
   intro P
   induction P with
   | nil=>exact id
   | cons a P ih=>
    intro h
    rw[List.cons_append] at h
    generalize hQ:P++x::R=Q at h ih
    cases h with
    | one _=>simp at hQ
    | cons _ _ h=>exact ih h
  have hg1:=hgx pre' (by simpa using hg)
  cases hg1 with
  | one _=>exact absurd rfl hR
  | @cons _ _ c z t hx hp _=>
   have hpt:=ZdX R
   rw[hp] at hpt
   have hmx:x.length+tot R<=1000:=by
    have e:tot (pre'++[x]++R)=tot pre'+(x.length+tot R):=by unfold tot;simp
    lia
   have h1:=ZkR (p:=p) (g:=g) (res:=res) (s7:=s7) (s8:=s8) (s9:=s9) (s11:=s11) (s12:=s12) (i:=i) (pre:=pre') hx hp (by simp at hl hpt ⊢;lia) (by have:=hpt.1;rw[Za3] at this;simp at this;lia)
   obtain⟨t11,i11,ih⟩:=ZhD pre'.length pre' (x::R) (.fz (.int ((pre'.length+1:Nat):Int))) rfl (by simp) (by simpa using hg) (by simpa using ht) (by simpa using hl)
   refine⟨t11,λ_=>i11 rfl,?_⟩
   erw[rwl (hp ..) ?_]
   have e1:pre'++[x]++(c::z)::t=pre'++x::(c::z)::t:=by simp
   have e2:pre'++[x]++R=pre'++x::R:=by simp
   erw[rwl (e1 ..) (rwl (e2 ..) ?_)]
   exact Zkr h1 ih
theorem Znf{σ:Sg}{x:X}{m:Nat}(hx:ev ΓA σ x=some (.int (m:Int)))(hm:m<=1000):ev ΓA σ (.range3 x (.const (.int 0)) (.const (.int (-1))))=some (.list (ZgX m)):=by
 show(ev ΓA σ x).bind _=_
 refine Zag hx ((if_pos ?_).trans (by erw[rwl (Zkp ..) ?_]))
 rw[Zeg (Nat.le_trans hm (by decide))]
 rfl
theorem Zhy:∀m,(ZgX m).length=m
 | 0=>rfl
 | m+1=>by erw[rwl (Zvk ..) (rwl (List.length_cons ..) (rwl (Zhy m ..) ?_))]
theorem ZkJ{Γ:ZaC}{σ:Sg}{x:X}{l:List Nat}{c z:Nat}{zs:List Nat}(h:ev Γ σ x=some (.str l))(hl:l.length<=1000000)(hz:zs.length<=8):ev Γ σ (.repl x c z zs)=some (.str (Zbe c (z::zs) l)):=show(ev Γ σ x).bind _=_ from Zag h (if_pos ⟨hl,hz⟩)
theorem ZpH{σ:Sg}{L:List (List Nat)}(h:rdt σ 10=some (.list (L.map .str)))(ht:tot L<=200)(hl:L.length<=200)(h13:13 < σ.length) :
  ev ΓA σ (.joing (.const (.str [45])) 13 (.repl (.repl (.var 13) 92 92 [92]) 45 92 [45]) (.tvar 10))=some (.str (ZbX [45] (L.map ZfH))):=by
 have hc:ZbQ (λd=>(ev ΓA ((σ.map λ_=>Slot.un).set 13 (.fz d)) (.repl (.repl (.var 13) 92 92 [92]) 45 92 [45])).map some) (L.map .str)=some ((L.map ZfH).map .str):=by
  rw[ZgA (g:=λd=>match d with | .str l=>.str (ZfH l) | d=>d) λd hd=>?_]
  ·rw[List.map_map,List.map_map];rfl
  ·obtain⟨l,hl',rfl⟩:=List.mem_map.mp hd
   have hm:=ZiT hl'
   have e1:ev ΓA ((σ.map λ_=>Slot.un).set 13 (.fz (.str l))) (.var 13)=some (.str l):=by
    show rd _ _=_
    unfold rd;rw[List.getElem?_set_self (by simpa using h13)]
   have h2:=Zc2 92 [92,92] (by decide) l
   rw[ZkJ (ZkJ e1 (by lia) (by decide)) (by lia) (by decide)]
   rfl
 have hi:itemsOf (.list (L.map D.str))=some (L.map .str):=Zc9 (by simp;lia)
 show((rdt σ 10).bind itemsOf).bind _=_
 refine Zag (Zag h hi) (Zag hc (Zag (strs_map _) (if_pos ⟨by simp;lia,by decide,?_⟩)))
 have:=Zgo L
 have e:((L.map ZfH).map (·.length)).sum=tot (L.map ZfH):=rfl
 rw[e];lia
noncomputable def Zaz(b:List Nat):List (List Nat):=ZfD (if b.head?==some 33 then Zdd [33] 1 b.tail else Zdd [] 1 b)
theorem Zhg{b:List Nat}(hb:b≠[]):∃d rs,Zaz b=Zb4 rs d:=by
 unfold Zaz
 split
 ·rw[Zch _ _ (by simp)]
  exact⟨_,_,rfl⟩
 ·rw[Zch _ _ (by simpa using hb)]
  exact⟨_,_,rfl⟩
theorem ZfZ{b:List Nat}(hb:b≠[]):∃s,1<=s∧s<=2∧Zaz b=ZfD (Zdd [] s b)∧(s=2↔b.head? = some 33):=by
 cases b with
 | nil=>exact absurd rfl hb
 | cons c t=>
  by_cases hc:c=33
  ·subst hc
   refine⟨2,by decide,by decide,?_,by simp⟩
   unfold Zaz
   rw[if_pos (by simp)]
   congr 1
  ·refine⟨1,by decide,by decide,?_,by simpa using hc⟩
   unfold Zaz
   rw[if_neg (by simpa using hc)]
theorem Zip{b:List Nat}(hb:b≠[]){s:Nat}(hs:1<=s):Zdd [] s b≠[[]]:=by
 cases b with
 | nil=>exact absurd rfl hb
 | cons c t=>
  match s,hs with
  | s+1,_=>
   rw[Zg6,if_neg (by simp)]
   obtain⟨h,t',e,hh⟩:=ZhK t ([]++[c]) (s+1 - 1) (by simp)
   erw[rwl (e ..) ?_]
   intro q
   injection q with q1 _
   exact hh q1
theorem Zsw{Γ:ZaC}{N:Nat}{σ:Sg}{i c:Nat}{ds:List D}{l:List Nat}(ho:σ[i]? = some (.own (ds++[.str l])))(hl:l.length<=1000)(hd:ds.length<=1000):ex Γ N (.augL i c) σ=some (.next,σ.set i (.own (ds++[.str (l++[c])]))):=by
 show(ownOf σ i).bind _=_
 refine Zag (Zg0 ho) (Zag List.getLast?_concat (Zag (Zcn (by simp;lia)) ?_))
 have e:(ds++[D.str l]).set ((ds++[D.str l]).length - 1) (.str (l++[c]))=ds++[.str (l++[c])]:=by
  rw[List.set_append_right _ _ (by simp)]
  simp
 erw[rwl (e ..) ?_]
 exact if_pos (by simp;lia)
end
end
section
section
variable {p:List Nat}{g:Addr}{res:List D}{s7 s9 s10 s11 s12:Slot}{q r:List Nat}
theorem ZqS{k a:Nat}{cs:List (List Nat)}{b:List Nat}(hb:p=q++r)(hbr:b=r.take k)(hl:p.length<=40)(hk:k<=r.length)(hb0:b≠[]){s:Nat}(hs:1<=s)(hcut:Zdd [] s b=cs++[b.drop a])(hch:Zaz b=ZfD (Zdd [] s b))(h11:s11.isApp 10=false) :
  ∃t10 t11 t12,t10.isApp 10=false∧t11.isApp 10=false∧t12.isApp 10=false∧ex ΓA fuel Zo4 (stR p g res (q.length+a) s7 (jS q k) s9 (.own (cs.map .str)) s11 s12)=some (.next,stR p g res (q.length+a) s7 (jS q k) (.fz (.str (ZbX [45] ((ZbO (Zaz b)).map ZfH)))) t10 t11 t12):=by
 have hlen:p.length=q.length+r.length:=by erw[rwl (hb ..) ?_];simp
 have hbl:b.length<=40:=by erw[rwl (hbr ..) ?_];simp;lia
 have h0:=ZeO b [] s
 have h1:=ZgC (Zdd [] s b)
 rw[←hch] at h1
 have h2:=ZdX (Zaz b)
 simp only[List.length_nil,Nat.zero_add] at h0
 have hcl:cs.length+1<=41:=by
  have:=h0.2
  rw[hcut] at this
  simp at this
  lia
 have e1:ex ΓA fuel (.asg 12 (.slc (.var 0) (.var 5) (.var 8))) (stR p g res (q.length+a) s7 (jS q k) s9 (.own (cs.map .str)) s11 s12)=some (.next,stR p g res (q.length+a) s7 (jS q k) s9 (.own (cs.map .str)) s11 (.fz (.str (b.drop a)))):=by
  erw[rwl (hbr ..) ?_]
  exact Zaw (Zq9 (a:=a) (c:=k) hb rfl rfl rfl)
 have e2:ex ΓA fuel (.ifs (.tval (.var 12)) (.seq (.app 10 (.var 12)) .skip) (.seq (.augL 10 45) .skip)) (stR p g res (q.length+a) s7 (jS q k) s9 (.own (cs.map .str)) s11 (.fz (.str (b.drop a))))=some (.next,stR p g res (q.length+a) s7 (jS q k) s9 (.own ((Zaz b).map .str)) s11 (.fz (.str (b.drop a)))):=by
  erw[rwl (hch ..) (rwl (hcut ..) ?_)]
  by_cases hd:b.drop a=[]
  ·erw[rwl (hd ..) ?_]
   have hne:cs≠[]:=by
    intro z
    rw[z,hd] at hcut
    exact Zip hb0 hs hcut
   obtain⟨fr,y,rfl⟩:∃fr y,cs=fr++[y]:=by
    rcases List.eq_nil_or_concat cs with z | ⟨u,v,z⟩
    ·exact absurd z hne
    ·exact⟨u,v,by erw[rwl (z ..) ?_];simp⟩
   rw[Zi0 (y:=y) (by simp)]
   erw[rwl (List.dropLast_concat ..) ?_]
   refine x_f rfl (Zaf ?_)
   have hy:y.length<=tot (Zdd [] s b):=ZiT (by erw[rwl (hcut ..) ?_];simp)
   have:=Zsw (Γ:=ΓA) (N:=fuel) (σ:=stR p g res (q.length+a) s7 (jS q k) s9 (.own ((fr++[y]).map .str)) s11 (.fz (.str []))) (i:=10) (c:=45) (ds:=fr.map .str) (l:=y) (by simp[stR]) (by lia) (by simp at hcl ⊢;lia)
   erw[rwl (this ..) ?_]
   simp[stR]
  ·erw[rwl (Zk2 hd ..) ?_]
   refine x_t (Zcz rfl (by cases hz:b.drop a with
    | nil=>exact absurd hz hd
    | cons u v=>rfl)) (Zaf ?_)
   have:=Zel (Γ:=ΓA) (N:=fuel) (σ:=stR p g res (q.length+a) s7 (jS q k) s9 (.own (cs.map .str)) s11 (.fz (.str (b.drop a)))) (i:=10) (x:=.var 12) (ds:=cs.map .str) (d:=.str (b.drop a)) rfl rfl (by simp;lia)
   erw[rwl (this ..) ?_]
   simp[stR]
 obtain⟨d,rs,hcr⟩:=Zhg hb0
 have hg:GoodC (Zaz b):=hcr▸ZfY rs d
 obtain⟨L,z,hz⟩:∃L z,Zaz b=L++[z]:=by
  rcases List.eq_nil_or_concat (Zaz b) with w | ⟨u,v,w⟩
  ·exact absurd w (Zqx hg)
  ·exact⟨u,v,by erw[rwl (w ..) ?_];simp⟩
 obtain⟨t11,j11,e3⟩:=ZhD (p:=p) (g:=g) (res:=res) (s7:=s7) (s8:=jS q k) (s9:=s9) (s12:=.fz (.str (b.drop a))) (i:=q.length+a) L.length L [z] s11 rfl (by simp) (hz▸hg) (by erw[rwr (hz ..) ?_];lia) (by erw[rwr (hz ..) ?_];lia)
 rw[show ZbO [z]=[z] from rfl,←hz] at e3
 have e4:=Znf (σ:=stR p g res (q.length+a) s7 (jS q k) s9 (.own ((Zaz b).map .str)) s11 (.fz (.str (b.drop a)))) (x:=.bin .sub (.bfn .len (.tvar 10)) (.const (.int 1))) (m:=L.length)
  (ZaF (p:=.int ((Zaz b).length:Int)) (q:=.int 1) (Zdo rfl (by show some (D.int (((Zaz b).map D.str).length:Int))=_;erw[rwl (List.length_map ..) ?_])) rfl (by
   show some (D.int (((Zaz b).length:Int) - 1))=_
   congr 2
   erw[rwl (hz ..) ?_]
   simp)) (by
   have:=h1.2
   rw[hz] at this
   simp at this
   lia)
 have hL:L.length<=41:=by
  have:=h1.2
  rw[hz] at this
  simp at this
  lia
 refine⟨.own ((ZbO (Zaz b)).map .str),t11,.fz (.str (b.drop a)),rfl,j11 h11,rfl,Zaa e1 (Zaa e2 (Zaa (Zfg e4 (by erw[rwl (Zhy ..) ?_];lia) e3) (Zaf ?_)))⟩
 have:=ZpH (σ:=stR p g res (q.length+a) s7 (jS q k) s9 (.own ((ZbO (Zaz b)).map .str)) t11 (.fz (.str (b.drop a)))) (L:=ZbO (Zaz b)) rfl (by lia) (by lia) (by simp[stR])
 exact(show(ev ΓA _ (.joing _ _ _ _)).map _=_ from ZgR this rfl)
theorem ZlF{k:Nat}(hb:p=q++r)(hl:p.length<=40)(hk:k<=r.length){s:Nat}(hs:s<=2) :
  ∃(a':Nat) (fr:List (List Nat)),a'<=k∧Zdd [] s (r.take k)=fr++[(r.take k).drop a']∧
  ex ΓA fuel (.whl (.tval (.const (.bool true))) cutBody) (stR p g res q.length s7 (jS q k) s9 (.own []) (.fz (.int ((q.length+s:Nat):Int))) s12) =
   some (.next,stR p g res (q.length+a') s7 (jS q k) s9 (.own (fr.map .str)) (.fz (.int (-1))) s12):=by
 have hlen:p.length=q.length+r.length:=by erw[rwl (hb ..) ?_];simp
 obtain⟨a',fr,h1,h2,h3⟩:=Zjz (p:=p) (g:=g) (res:=res) (s7:=s7) (s9:=s9) (s12:=s12) hb (by lia) hk k 0 s [] fuel (by lia) (by lia) hs (by simp;lia) (by simp[fuel];lia)
 refine⟨a',fr,h1,by simpa using h2,?_⟩
 simp only[Nat.add_zero,Nat.zero_add,List.nil_append] at h3
 exact h3
theorem ZpC{k:Nat}(hb:p=q++r)(hl:p.length<=40)(hk:k<=r.length)(hb0:r.take k≠[])(h10:s10.isApp 10=false)(h7:s7.isApp 10=false)(h9:s9.isApp 10=false)(h11:s11.isApp 10=false)(h12:s12.isApp 10=false) :
  ∃i t10 t11 t12,t10.isApp 10=false∧t11.isApp 10=false∧t12.isApp 10=false∧ex ΓA fuel Zpg (stR p g res q.length s7 (jS q k) s9 s10 s11 s12)=some (.next,stR p g res i s7 (jS q k) (.fz (.str (ZbX [45] ((ZbO (Zaz (r.take k))).map ZfH)))) t10 t11 t12):=by
 have hlen:p.length=q.length+r.length:=by erw[rwl (hb ..) ?_];simp
 obtain⟨s,hs1,hs2,hch,hs3⟩:=ZfZ hb0
 obtain⟨a',fr,c1,c2,c3⟩:=ZlF (p:=p) (g:=g) (res:=res) (s7:=s7) (s9:=s9) (s12:=s12) hb hl hk hs2
 obtain⟨t10,t11,t12,j10,j11,j12,hlast⟩:=ZqS (p:=p) (g:=g) (res:=res) (s7:=s7) (s9:=s9) (s11:=.fz (.int (-1))) (s12:=s12) hb rfl hl hk hb0 hs1 c2 hch rfl
 have e0:ex ΓA fuel (.asgO 10 .nil) (stR p g res q.length s7 (jS q k) s9 s10 s11 s12)=some (.next,stR p g res q.length s7 (jS q k) s9 (.own []) s11 s12):=by
  refine Zmg ?_ rfl (by simp)
  show([Slot.fz _,.fz _,.fz _,.own res,.app 3,.fz _,.fz _,s7,jS q k,s9,s10,s11,s12,.un].all λs=>!s.isApp 10)=true
  simp only[List.all_cons,List.all_nil,h7,h9,h10,h11,h12]
  rfl
 obtain⟨c,t,hr⟩:∃c t,r=c::t:=by
  cases r with
  | nil=>simp at hb0
  | cons c t=>exact⟨c,t,rfl⟩
 have hc:p[q.length]? = some c:=by
  have:=ZbB q r 0
  rw[Nat.add_zero] at this
  erw[rwl (hb ..) (rwl (this ..) (rwl (hr ..) ?_))];rfl
 have hh:(r.take k).head? = some c:=by
  match k,hb0 with
  | k+1,_=>erw[rwl (hr ..) ?_];rfl
  | 0,hb0=>simp at hb0
 have ei:ev ΓA (stR p g res q.length s7 (jS q k) s9 (.own []) s11 s12) (.idx (.var 0) (.var 5))=some (.str [c]):=ZaL (p:=.str p) (q:=.int (q.length:Int)) rfl rfl (ZaV hc (by lia))
 have e1:ex ΓA fuel (.asg 11 (.ite (.tcmp .eq (.idx (.var 0) (.var 5)) (.const (.str [33]))) (.bin .add (.var 5) (.const (.int 2))) (.bin .add (.var 5) (.const (.int 1))))) (stR p g res q.length s7 (jS q k) s9 (.own []) s11 s12)=some (.next,stR p g res q.length s7 (jS q k) s9 (.own []) (.fz (.int ((q.length+s:Nat):Int))) s12):=by
  by_cases h:c=33
  ·have:s=2:=hs3.mpr (by erw[rwl (hh ..) (rwl (h ..) ?_)])
   subst this
   exact Zaw (ZeX (ZbV h ei rfl) (ZaF (p:=.int (q.length:Int)) (q:=.int 2) rfl rfl rfl))
  ·have:s=1:=by
    have:s≠2:=λz=>by
     have:=hs3.mp z
     rw[hh] at this
     exact h (by injection this)
    lia
   subst this
   exact Zaw (Zgq (ZaH h ei rfl) (ZaF (p:=.int (q.length:Int)) (q:=.int 1) rfl rfl rfl))
 exact⟨_,t10,t11,t12,j10,j11,j12,Zaa e0 (Zaa e1 (Zaa c3 hlast))⟩
end
end
section
theorem ZsW(c:Nat)(p:Pz):rm (c::p.1,p.2)=(c::(rm p).1,(rm p).2):=rfl
theorem ZlE{b:List Nat}(hb:b≠[]):Zd9 (ZbX [45] ((ZbO (Zaz b)).map ZfH))=Zbb b:=by
 erw[rwl (Zi8 ..) ?_]
 unfold Zaz Zbb
 split
 ·rw[Zch _ _ (by simp),ZfV]
  unfold Zdl
  erw[rwl (ZgJ ..) ?_]
  show Zh6 (rm (33::(Zao b.tail).1,(Zao b.tail).2))=_
  erw[rwl (ZsW ..) ?_]
  rfl
 ·rw[Zch _ _ (by simpa using hb),ZfV]
  unfold Zdl
  erw[rwl (ZgJ ..) ?_]
  rfl
theorem Zhp{b:List Nat}(h:45 ∉ b):Zh6 (rm (Zao b))=b.flatMap eC:=by
 erw[rwl (ZfB h ..) ?_]
 unfold rm Zh6 rmR
 simp
set_option tactic.hygienic true in
theorem Zit{b:List Nat}(h:45 ∉ b):Zd9 (Zbe 92 [92,92] b)=Zbb b:=by
 erw[rwl (Zlf h ..) ?_]
 unfold Zbb
 split
 ·rename_i h'
  cases b with
  | nil=>simp at h'
  | cons c t=>
   have:c=33:=by simpa using h'
   subst this
   erw[rwl (List.tail_cons ..) (rwl (Zhp λq=>h (List.mem_cons_of_mem _ q) ..) ?_)]
   rfl
 ·erw[rwl (Zhp h ..) ?_]
noncomputable def Zp5:List Nat->List Nat
 | []=>[]
 | c::t=>if c=33 then 94::t else if c=94∨c=91 then 92::c::t else c::t
theorem ZaZ(c:Nat)(t:List Nat):Zp5 (c::t)=if c=33 then 94::t else if c=94∨c=91 then 92::c::t else c::t:=rfl
noncomputable def ZaN(w:List Nat):List Nat:=if w=[] then [40,63,33,41] else if w=[33] then [46] else 91::Zp5 w++[93]
theorem Zlx(c:Nat):(eC c).length<=2:=by
 unfold eC
 split
 ·simp
 split
 ·simp
 split<;>simp
noncomputable def Ztu:S:=match Zva with
 | .seq _ b=>b
 | _=>.skip
noncomputable def Zuw:S:=match Ztu with
 | .seq _ (.seq _ b)=>b
 | _=>.skip
section
variable {p:List Nat}{g:Addr}{ps:List (Option (List Nat))}{s7 s8 s9 s10 s11 s12:Slot}{q r:List Nat}{i:Nat}
theorem ZsL{w:List Nat}(hw:w.length<=1000)(hm:ps.length<=1000) :
  ∃w',ex ΓA fuel Zuw (stR p g (ps.map (Zap g)) i s7 s8 (.fz (.str w)) s10 s11 s12)=some (.next,stR p g ((ZbE ps (some (ZaN w))).map (Zap g)) i s7 s8 (.fz (.str w')) s10 s11 s12):=by
 cases w with
 | nil=>exact⟨[],Zaf (x_t (Zfj (Zcz (b:=false) rfl rfl)) (Zgb rfl hm))⟩
 | cons c t=>
  have t0:tv ΓA (stR p g (ps.map (Zap g)) i s7 s8 (.fz (.str (c::t))) s10 s11 s12) (.tnot (.tval (.var 9)))=some false:=Zfj (Zcz (b:=true) rfl rfl)
  by_cases h1:c::t=[33]
  ·erw[rwl (h1 ..) ?_]
   exact⟨[33],Zaf (x_f (Zfj (Zcz (b:=true) rfl rfl)) (Zaf (x_t (Zaj (p:=.str [33]) (q:=.str [33]) rfl rfl rfl) (Zgb rfl hm))))⟩
  ·have t1:tv ΓA (stR p g (ps.map (Zap g)) i s7 s8 (.fz (.str (c::t))) s10 s11 s12) (.tcmp .eq (.var 9) (.const (.str [33])))=some false:=by
    refine Zaj (p:=.str (c::t)) (q:=.str [33]) rfl rfl ?_
    show some (c::t==[33])=_
    erw[rwl (beq_eq_false_iff_ne.mpr h1 ..) ?_]
   have ei:ev ΓA (stR p g (ps.map (Zap g)) i s7 s8 (.fz (.str (c::t))) s10 s11 s12) (.idx (.var 9) (.const (.int 0)))=some (.str [c]):=ZaL (p:=.str (c::t)) (q:=.int 0) rfl rfl (ZaV (i:=0) rfl (by lia))
   have fin:∀w',(Zp5 (c::t))=w'->ex ΓA fuel (.seq (.add 4 3 (.fstr [91] (.var 9) [93])) .skip) (stR p g (ps.map (Zap g)) i s7 s8 (.fz (.str w')) s10 s11 s12)=some (.next,stR p g ((ZbE ps (some (ZaN (c::t)))).map (Zap g)) i s7 s8 (.fz (.str w')) s10 s11 s12):=λw' hw'=>by
    have e:ZaN (c::t)=[91]++w'++[93]:=by
     unfold ZaN
     rw[if_neg (by simp),if_neg h1,hw']
     rfl
    have hl:w'.length<=1002:=by
     erw[rwr (hw' ..) (rwl (ZaZ ..) ?_)]
     have hw:t.length+1<=1000:=hw
     split
     ·show t.length+1<=1002
      lia
     ·split
      ·show t.length+1+1<=1002
       lia
      ·show t.length+1<=1002
       lia
    erw[rwl (e ..) ?_]
    exact Zgb (Zcn (by simp;lia)) hm
   by_cases h2:c=33
   ·refine⟨94::t,Zaf (x_f t0 (Zaf (x_f t1 (Zaa (x_t (ZbV h2 ei rfl) (Zaf (Zaw (d:=.str (94::t)) (ZaF (p:=.str [94]) (q:=.str t) rfl (Zco (p:=.str (c::t)) (q:=.int 1) (r:=.none) rfl rfl rfl ?_) (Zcn ?_))))) (fin _ ?_)))))⟩
    ·exact congrArg (λl=>some (D.str l)) (Zcf (c::t) 1)
    ·simp at hw ⊢;lia
    ·erw[rwl (ZaZ ..) (rwl (if_pos h2 ..) ?_)]
   ·have t3:tv ΓA (stR p g (ps.map (Zap g)) i s7 s8 (.fz (.str (c::t))) s10 s11 s12) (.tcmp .isin (.idx (.var 9) (.const (.int 0))) (.tuple (.cons (.const (.str [94])) (.cons (.const (.str [91])) .nil))))=some (decide (c=94∨c=91)):=by
     refine Zaj (p:=.str [c]) (q:=.tuple [.str [94],.str [91]]) ei rfl ?_
     show some ([[94],[91]].contains [c])=_
     congr 1
     erw[rwl (propext (Bool.eq_iff_iff ..)) ?_]
     simp
    by_cases h3:c=94∨c=91
    ·rw[decide_eq_true h3] at t3
     refine⟨92::c::t,Zaf (x_f t0 (Zaf (x_f t1 (Zaa (x_f (ZaH h2 ei rfl) (Zaf (x_t t3 (Zaf (Zaw (d:=.str (92::c::t)) (ZaF (p:=.str [92]) (q:=.str (c::t)) rfl rfl (Zcn ?_))))))) (fin _ ?_)))))⟩
     ·simp at hw ⊢;lia
     ·erw[rwl (ZaZ ..) (rwl (if_neg h2 ..) (rwl (if_pos h3 ..) ?_))]
    ·rw[decide_eq_false h3] at t3
     refine⟨c::t,Zaf (x_f t0 (Zaf (x_f t1 (Zaa (x_f (ZaH h2 ei rfl) (Zaf (x_f t3 rfl))) (fin _ ?_)))))⟩
     erw[rwl (ZaZ ..) (rwl (if_neg h2 ..) (rwl (if_neg h3 ..) ?_))]
theorem Zgk:∀l:List Nat,(l.flatMap eC).length<=2 * l.length
 | []=>by simp
 | c::l=>by
  have:=Zgk l
  have:=Zlx c
  erw[rwl (List.flatMap_cons ..) (rwl (List.length_append ..) (rwl (List.length_cons ..) ?_))];lia
theorem Zjn:∀b:List Nat,(Zh6 (rm (Zao b))).length<=2 * b.length:=by
 intro b
 have h:∀(rs:List (Nat×Nat×List Nat)) (d:List Nat),(Zh6 (d,rs)).length<=(List.length (d.flatMap eC))+(rs.map λt=>5+2 * t.2.2.length).sum:=by
  intro rs
  induction rs with
  | nil=>intro d;simp[Zh6]
  | cons t rs ih=>
   intro d
   have:=ih []
   have h1:=Zlx t.1
   have h2:=Zlx t.2.1
   have h3:=Zgk t.2.2
   simp only[Zh6,List.flatMap_cons,List.flatMap_nil,List.length_append,List.map_cons,List.sum_cons,List.nil_append,List.length_nil,List.length_cons] at this ⊢
   lia
 have hs:∀(rs:List (Nat×Nat×List Nat)),2 * (rmR rs).1.length+(((rmR rs).2).map λt=>5+2 * t.2.2.length).sum<=(rs.map λt=>5+2 * t.2.2.length).sum:=by
  intro rs
  induction rs with
  | nil=>simp[ZtP,Zry]
  | cons t rs ih=>
   obtain⟨lo,hi,d⟩:=t
   erw[rwl (Zry ..) ?_]
   split
   ·simp;lia
   ·simp;lia
 have hp:∀b:List Nat,2 * (Zao b).1.length+((Zao b).2.map λt=>5+2 * t.2.2.length).sum<=2 * b.length:=by
  intro b
  induction b using Zao.induct with
  | case1 a x r ih=>erw[rwl (Zjl ..) ?_];simp;lia
  | case2 a c x r hc ih=>erw[rwl (Zjl ..) (rwl (if_neg hc ..) ?_)];simp at ih ⊢;lia
  | case3 a c=>simp[Zp4,Zq1,ZqQ,Zjl]
  | case4 a=>simp[Zp4,Zq1,ZqQ,Zjl]
  | case5=>simp[Zp4,Zq1,ZqQ,Zjl]
 have h1:=h (rm (Zao b)).2 (rm (Zao b)).1
 have h2:=hs (Zao b).2
 have h3:=hp b
 have h4:=Zgk (rm (Zao b)).1
 have h5:(rm (Zao b)).1.length=(Zao b).1.length+(rmR (Zao b).2).1.length:=by unfold rm;simp
 have h6:(rm (Zao b)).2=(rmR (Zao b).2).2:=rfl
 rw[h6] at h1
 have h7:Zh6 ((rm (Zao b)).1,(rmR (Zao b).2).2)=Zh6 (rm (Zao b)):=rfl
 rw[h7] at h1
 lia
set_option tactic.hygienic true in
theorem Zfr(b:List Nat):(Zbb b).length<=2 * b.length:=by
 unfold Zbb
 split
 ·rename_i h
  cases b with
  | nil=>simp at h
  | cons c t=>
   have:=Zjn t
   simp at this ⊢;lia
 ·exact Zjn b
end
end
section
section
variable {p:List Nat}{g:Addr}{ps:List (Option (List Nat))}{s7 s8 s9 s10 s11 s12:Slot}{i:Nat}
noncomputable abbrev NoA(s7 s8 s9 s10 s11 s12:Slot):Prop:=(s7.isApp 10=false)∧(s8.isApp 10=false)∧(s9.isApp 10=false)∧(s10.isApp 10=false)∧(s11.isApp 10=false)∧(s12.isApp 10=false)
theorem NoA.a7{s7 s8 s9 s10 s11 s12:Slot}(slf:NoA s7 s8 s9 s10 s11 s12):s7.isApp 10=false:=slf.1
theorem NoA.a8{s7 s8 s9 s10 s11 s12:Slot}(slf:NoA s7 s8 s9 s10 s11 s12):s8.isApp 10=false:=slf.2.1
theorem NoA.a9{s7 s8 s9 s10 s11 s12:Slot}(slf:NoA s7 s8 s9 s10 s11 s12):s9.isApp 10=false:=slf.2.2.1
theorem NoA.a10{s7 s8 s9 s10 s11 s12:Slot}(slf:NoA s7 s8 s9 s10 s11 s12):s10.isApp 10=false:=slf.2.2.2.1
theorem NoA.a11{s7 s8 s9 s10 s11 s12:Slot}(slf:NoA s7 s8 s9 s10 s11 s12):s11.isApp 10=false:=slf.2.2.2.2.1
theorem NoA.a12{s7 s8 s9 s10 s11 s12:Slot}(slf:NoA s7 s8 s9 s10 s11 s12):s12.isApp 10=false:=slf.2.2.2.2.2
theorem Zqt{pre r:List Nat}(hb:p=pre++91::r)(hl:p.length<=40)(hm:ps.length<=1000)(hf:Zae 93 r (clS r)=none) :
  ∃t8,ex ΓA fuel Zdg (stR p g (ps.map (Zap g)) pre.length s7 s8 s9 s10 s11 s12)=some (.next,stR p g ((ZbE ps (some [92,91])).map (Zap g)) (pre.length+1) (.fz (.str [91])) (.fz t8) s9 s10 s11 s12):=by
 have hlen:p.length=pre.length+(r.length+1):=by erw[rwl (hb ..) ?_];simp
 have hb':p=(pre++[91])++r:=by erw[rwl (hb ..) ?_];simp
 have e:(pre++[91]).length=pre.length+1:=by simp
 have h:ex ΓA fuel Zrj (stR p g (ps.map (Zap g)) (pre++[91]).length (.fz (.str [91])) s8 s9 s10 s11 s12)=some (.next,stR p g ((ZbE ps (some [92,91])).map (Zap g)) (pre++[91]).length (.fz (.str [91])) (.fz (.int (((pre++[91]).length+r.length:Nat):Int))) s9 s10 s11 s12):=by
  refine ZlL hb' (by lia) ?_
  erw[rwl (hf ..) ?_]
  refine Zaf (x_t (Zaj (p:=.int (((pre++[91]).length+r.length:Nat):Int)) (q:=.int (p.length:Int)) rfl rfl ?_) (Zgb rfl hm))
  show some (decide ((p.length:Int)<=_))=_
  rw[decide_eq_true (by lia)]
 rw[e] at h
 exact⟨_,Zg5 hb (by lia) (Zaf (x_f (ZaH (by decide) rfl rfl) (Zaf (x_f (ZaH (by decide) rfl rfl) (Zaf (x_t (ZbV rfl rfl rfl) h))))))⟩
theorem Zr7{pre r:List Nat}{k:Nat}(hb:p=pre++91::r)(hl:p.length<=40)(hm:ps.length<=1000)(hf:Zae 93 r (clS r)=some k)(na:NoA s7 s8 s9 s10 s11 s12) :
  ∃t7 t8 t9 t10 t11 t12,NoA t7 t8 t9 t10 t11 t12∧ex ΓA fuel Zdg (stR p g (ps.map (Zap g)) pre.length s7 s8 s9 s10 s11 s12)=some (.next,stR p g ((ZbE ps (some (ZaN (Zbb (r.take k))))).map (Zap g)) (pre.length+1+(k+1)) t7 t8 t9 t10 t11 t12):=by
 have hlen:p.length=pre.length+(r.length+1):=by erw[rwl (hb ..) ?_];simp
 obtain⟨k1,k2,_⟩:=ZaT hf
 have hkl:k < r.length:=by
  rcases Nat.lt_or_ge k r.length with z | z
  ·exact z
  ·rw[List.getElem?_eq_none z] at k2;cases k2
 have hcl:1<=clS r:=by unfold clS;split<;>decide
 have hb':p=(pre++[91])++r:=by erw[rwl (hb ..) ?_];simp
 have hq:(pre++[91]).length=pre.length+1:=by simp
 have hb0:r.take k≠[]:=by
  intro z
  have:=congrArg List.length z
  rw[List.length_take,Nat.min_eq_left (by lia)] at this
  have this:k=0:=this
  lia
 have hbl:(r.take k).length<=40:=by simp;lia
 have key:∃t7 t8 t9 t10 t11 t12,NoA t7 t8 t9 t10 t11 t12∧ex ΓA fuel ZiE (stR p g (ps.map (Zap g)) (pre++[91]).length (.fz (.str [91])) (.fz (.int (((pre++[91]).length+ZqI r (Zae 93 r (clS r)):Nat):Int))) s9 s10 s11 s12)=some (.next,stR p g ((ZbE ps (some (ZaN (Zbb (r.take k))))).map (Zap g)) (pre.length+1+(k+1)) t7 t8 t9 t10 t11 t12):=by
  erw[rwl (hf ..) ?_]
  have t0:tv ΓA (stR p g (ps.map (Zap g)) (pre++[91]).length (.fz (.str [91])) (jS (pre++[91]) k) s9 s10 s11 s12) (.tcmp .ge (.var 8) (.var 6))=some false:=by
   refine Zaj (p:=.int (((pre++[91]).length+k:Nat):Int)) (q:=.int (p.length:Int)) rfl rfl ?_
   show some (decide ((p.length:Int)<=_))=_
   rw[decide_eq_false (by lia)]
  have e1:ex ΓA fuel (.asg 9 (.slc (.var 0) (.var 5) (.var 8))) (stR p g (ps.map (Zap g)) (pre++[91]).length (.fz (.str [91])) (jS (pre++[91]) k) s9 s10 s11 s12)=some (.next,stR p g (ps.map (Zap g)) (pre++[91]).length (.fz (.str [91])) (jS (pre++[91]) k) (.fz (.str (r.take k))) s10 s11 s12):=
   Zaw (Zq9 (a:=0) (c:=k) hb' rfl rfl rfl)
  have fin:∀(i:Nat) (w:List Nat) (t10 t11 t12:Slot),w.length<=1000->Zd9 w=Zbb (r.take k)->NoA (.fz (.str [91])) (jS (pre++[91]) k) (.fz (.str w)) t10 t11 t12->∃t9,t9.isApp 10=false∧ex ΓA fuel Ztu (stR p g (ps.map (Zap g)) i (.fz (.str [91])) (jS (pre++[91]) k) (.fz (.str w)) t10 t11 t12)=some (.next,stR p g ((ZbE ps (some (ZaN (Zbb (r.take k))))).map (Zap g)) (pre.length+1+(k+1)) (.fz (.str [91])) (jS (pre++[91]) k) t9 t10 t11 t12):=λi w t10 t11 t12 hw hs _=>by
   have hsl:(Zbb (r.take k)).length<=1000:=by have:=Zfr (r.take k);lia
   obtain⟨w',hp⟩:=ZsL (p:=p) (g:=g) (ps:=ps) (s7:=.fz (.str [91])) (s8:=jS (pre++[91]) k) (s10:=t10) (s11:=t11) (s12:=t12) (i:=pre.length+1+(k+1)) hsl hm
   refine⟨.fz (.str w'),rfl,Zaa (σ':=stR p g (ps.map (Zap g)) i (.fz (.str [91])) (jS (pre++[91]) k) (.fz (.str (Zbb (r.take k)))) t10 t11 t12) ?_ (Zaa (σ':=stR p g (ps.map (Zap g)) (pre.length+1+(k+1)) (.fz (.str [91])) (jS (pre++[91]) k) (.fz (.str (Zbb (r.take k)))) t10 t11 t12) ?_ hp)⟩
   ·have:ev ΓA (stR p g (ps.map (Zap g)) i (.fz (.str [91])) (jS (pre++[91]) k) (.fz (.str w)) t10 t11 t12) (.resub (.var 9))=some (.str (Zd9 w)):=by
     exact if_pos hw
    rw[hs] at this
    exact(show(ev ΓA _ (.resub _)).map _=_ from ZgR this rfl)
   ·refine Zaw (ZaF (p:=.int (((pre++[91]).length+k:Nat):Int)) (q:=.int 1) rfl rfl ?_)
    show some (D.int (_+1))=_
    congr 2
    erw[rwl (hq ..) ?_]
    lia
  have t1:tv ΓA (stR p g (ps.map (Zap g)) (pre++[91]).length (.fz (.str [91])) (jS (pre++[91]) k) (.fz (.str (r.take k))) s10 s11 s12) (.tcmp .notin (.const (.str [45])) (.var 9))=some (!(r.take k).contains 45):=Zaj (p:=.str [45]) (q:=.str (r.take k)) rfl rfl rfl
  cases hc:(r.take k).contains 45 with
  | false=>
   rw[hc] at t1
   have hn:45 ∉ r.take k:=by simpa using hc
   have hw:(Zbe 92 [92,92] (r.take k)).length<=1000:=by have:=Zc2 92 [92,92] (by decide) (r.take k);lia
   obtain⟨t9,j9,hfin⟩:=fin (pre++[91]).length (Zbe 92 [92,92] (r.take k)) s10 s11 s12 hw (Zit hn) ⟨rfl,rfl,rfl,na.a10,na.a11,na.a12⟩
   refine⟨.fz (.str [91]),jS (pre++[91]) k,t9,s10,s11,s12,⟨rfl,rfl,j9,na.a10,na.a11,na.a12⟩,Zaf (x_f t0 (Zaa e1 (Zaa (x_t t1 (Zaf (Zaw (ZkJ rfl (by lia) (by decide))))) hfin)))⟩
  | true=>
   rw[hc] at t1
   obtain⟨i,t10,t11,t12,j10,j11,j12,hd⟩:=ZpC (p:=p) (g:=g) (res:=ps.map (Zap g)) (s7:=.fz (.str [91])) (s9:=.fz (.str (r.take k))) (s10:=s10) (s11:=s11) (s12:=s12) hb' hl (Nat.le_of_lt hkl) hb0 na.a10 rfl rfl na.a11 na.a12
   have hw:(ZbX [45] ((ZbO (Zaz (r.take k))).map ZfH)).length<=1000:=by
    obtain⟨s,_,_,hch,_⟩:=ZfZ hb0
    have h0:=ZeO (r.take k) [] s
    have h1:=ZgC (Zdd [] s (r.take k))
    rw[←hch] at h1
    have h2:=ZdX (Zaz (r.take k))
    have h3:=Zgo (ZbO (Zaz (r.take k)))
    have h4:=Zf0 ((ZbO (Zaz (r.take k))).map ZfH)
    simp only[List.length_nil,Nat.zero_add,List.length_map] at h0 h4
    lia
   obtain⟨t9,j9,hfin⟩:=fin i _ t10 t11 t12 hw (ZlE hb0) ⟨rfl,rfl,rfl,j10,j11,j12⟩
   exact⟨.fz (.str [91]),jS (pre++[91]) k,t9,t10,t11,t12,⟨rfl,rfl,j9,j10,j11,j12⟩,Zaf (x_f t0 (Zaa e1 (Zaa (x_f t1 hd) hfin)))⟩
 obtain⟨t7,t8,t9,t10,t11,t12,hn,hk⟩:=key
 have h:=ZlL (s8:=s8) hb' (by lia) hk
 rw[hq] at h
 exact⟨t7,t8,t9,t10,t11,t12,hn,Zg5 hb (by lia) (Zaf (x_f (ZaH (by decide) rfl rfl) (Zaf (x_f (ZaH (by decide) rfl rfl) (Zaf (x_t (ZbV rfl rfl rfl) h))))))⟩
theorem ZuT(hi:i < p.length){res:List D}:tv ΓA (stR p g res i s7 s8 s9 s10 s11 s12) ZjW=some true:=by
 refine(lt_int (a:=(i:Int)) (b:=(p.length:Int)) rfl rfl).trans ?_
 rw[decide_eq_true (by lia)]
theorem Zsn(hi:i=p.length){res:List D}:tv ΓA (stR p g res i s7 s8 s9 s10 s11 s12) ZjW=some false:=by
 refine(lt_int (a:=(i:Int)) (b:=(p.length:Int)) rfl rfl).trans ?_
 rw[decide_eq_false (by lia)]
end
noncomputable def Zub:Sn->Option (Item×List Nat)
 | .star=>none
 | .any=>some ((true,[]),[46])
 | .set b=>some (Zh5 b,ZaN (Zbb b))
 | .lit c=>some ((false,[[c]]),Ze6 c)
noncomputable def ipL(p:List Nat):List (Option (Item×List Nat)):=(ZpD p).map Zub
theorem Zje(p:List Nat):Zaq p=(ipL p).map (·.map (·.1)):=(List.map_congr_left λx _=>by cases x<;>rfl).trans (List.map_map ..).symm
theorem Zk7{r:List Nat}{k:Nat}(h:Zae 93 r (clS r)=some k):ipL (91::r)=some (Zh5 (r.take k),ZaN (Zbb (r.take k)))::ipL (r.drop (k+1)):=congrArg (List.map Zub) (Ziq h)
theorem Zjv{c:Nat}{r:List Nat}(h1:c≠42)(h2:c≠63)(h3:c=91->Zae 93 r (clS r)=none):ipL (c::r)=some ((false,[[c]]),Ze6 c)::ipL r:=congrArg (List.map Zub) (ZgI h1 h2 h3)
theorem Zst:Ze6 91=[92,91]:=if_pos (by decide)
noncomputable def Zb6(ps:List (Option (List Nat)))(l:List (Option (Item×List Nat))):List (Option (List Nat)):=l.foldl (λps x=>ZbE ps (x.map (·.2))) ps
noncomputable def ZeA(p:List Nat):List (Option (List Nat)):=Zb6 [] (ipL p)
theorem ZgW(ps:List (Option (List Nat)))(x:Option (List Nat)):(ZbE ps x).length<=ps.length+1:=by
 unfold ZbE;split<;>simp
theorem ZkW{p:List Nat}{g:Addr}(hl:p.length<=40):∀(n:Nat) (r pre:List Nat) (ps:List (Option (List Nat))) (N:Nat) (s7 s8 s9 s10 s11 s12:Slot),r.length<=n->p=pre++r->ps.length+r.length<=1000->n < N->NoA s7 s8 s9 s10 s11 s12->
  ∃t7 t8 t9 t10 t11 t12,Zbj (λσ=>tv ΓA σ ZjW) (ex ΓA fuel Zdg) N (stR p g (ps.map (Zap g)) pre.length s7 s8 s9 s10 s11 s12)=some (.next,stR p g ((Zb6 ps (ipL r)).map (Zap g)) p.length t7 t8 t9 t10 t11 t12)
 | n,[],pre,ps,N+1,s7,s8,s9,s10,s11,s12,_,hb,_,_,_=>by
  have hp:pre.length=p.length:=by erw[rwl (hb ..) ?_];simp
  refine⟨s7,s8,s9,s10,s11,s12,?_⟩
  erw[rwl (ZcT (Zsn hp) ..) (rwl (hp ..) ?_)]
  rfl
 | n+1,c::r,pre,ps,N+1,s7,s8,s9,s10,s11,s12,hn,hb,hm,hN,na=>by
  simp at hn hm
  have go:=ZuT (g:=g) (res:=ps.map (Zap g)) (s7:=s7) (s8:=s8) (s9:=s9) (s10:=s10) (s11:=s11) (s12:=s12) (show pre.length < p.length by erw[rwl (hb ..) ?_];simp)
  have step:∀(it:Option (Item×List Nat)) (m:Nat),m<=r.length->(∃t7 t8 t9 t10 t11 t12,NoA t7 t8 t9 t10 t11 t12∧ex ΓA fuel Zdg (stR p g (ps.map (Zap g)) pre.length s7 s8 s9 s10 s11 s12)=some (.next,stR p g ((ZbE ps (it.map (·.2))).map (Zap g)) (pre.length+1+m) t7 t8 t9 t10 t11 t12))->ipL (c::r)=it::ipL (r.drop m)->
    ∃t7 t8 t9 t10 t11 t12,Zbj (λσ=>tv ΓA σ ZjW) (ex ΓA fuel Zdg) (N+1) (stR p g (ps.map (Zap g)) pre.length s7 s8 s9 s10 s11 s12)=some (.next,stR p g ((Zb6 ps (ipL (c::r))).map (Zap g)) p.length t7 t8 t9 t10 t11 t12):=λit m hmr ⟨t7,t8,t9,t10,t11,t12,hna,h⟩ e=>by
   have hpl:=ZgW ps (it.map (·.2))
   obtain⟨u7,u8,u9,u10,u11,u12,ih⟩:=ZkW hl n (r.drop m) (pre++c::r.take m) (ZbE ps (it.map (·.2))) N t7 t8 t9 t10 t11 t12 (by simp;lia) (by erw[rwl (hb ..) ?_];simp) (by simp;lia) (by lia) hna
   have e1:(pre++c::r.take m).length=pre.length+1+m:=by simp;lia
   rw[e1] at ih
   refine⟨u7,u8,u9,u10,u11,u12,ZiJ go h (ih.trans ?_)⟩
   erw[rwl (e ..) ?_];rfl
  by_cases h1:c=42
  ·subst h1
   exact step none 0 (Nat.zero_le _) ⟨_,_,_,_,_,_,⟨rfl,na.a8,na.a9,na.a10,na.a11,na.a12⟩,Zp1 hb (by lia) (by lia)⟩ rfl
  ·by_cases h2:c=63
   ·subst h2
    exact step (some ((true,[]),[46])) 0 (Nat.zero_le _) ⟨_,_,_,_,_,_,⟨rfl,na.a8,na.a9,na.a10,na.a11,na.a12⟩,Zvy hb (by lia) (by lia)⟩ rfl
   ·by_cases h3:c=91
    ·subst h3
     cases hk:Zae 93 r (clS r) with
     | none=>
      obtain⟨t8,h⟩:=Zqt (p:=p) (g:=g) (ps:=ps) (s7:=s7) (s8:=s8) (s9:=s9) (s10:=s10) (s11:=s11) (s12:=s12) hb hl (by lia) hk
      exact step (some ((false,[[91]]),[92,91])) 0 (Nat.zero_le _) ⟨_,_,_,_,_,_,⟨rfl,rfl,na.a9,na.a10,na.a11,na.a12⟩,h⟩ (by erw[rwl (Zjv h1 h2 λ_=>hk ..) (rwl (Zst ..) ?_)];rfl)
     | some k=>
      obtain⟨k1,k2,_⟩:=ZaT hk
      have hkl:k < r.length:=by
       rcases Nat.lt_or_ge k r.length with z | z
       ·exact z
       ·rw[List.getElem?_eq_none z] at k2;cases k2
      exact step (some (Zh5 (r.take k),ZaN (Zbb (r.take k)))) (k+1) (by lia) (Zr7 hb hl (by lia) hk na) (Zk7 hk)
    ·exact step (some ((false,[[c]]),Ze6 c)) 0 (Nat.zero_le _) ⟨_,_,_,_,_,_,⟨rfl,na.a8,na.a9,na.a10,na.a11,na.a12⟩,Zsb hb h1 h2 h3 (by lia) (by lia)⟩ (Zjv h1 h2 λq=>absurd q h3)
 | 0,_::_,_,_,_,_,_,_,_,_,_,hn,_,_,_,_=>by simp at hn
 | n,_,_,_,0,_,_,_,_,_,_,_,_,_,hN,_=>absurd hN (Nat.not_lt_zero _)
theorem ZpY{p:List Nat}{g:Addr}(hl:p.length<=40):Zt3 [.str p,.obj g,.str [46]]=some (.list ((ZeA p).map (Zap g))):=by
 refine Zbc rfl ?_
 obtain⟨t7,t8,t9,t10,t11,t12,h⟩:=ZkW (g:=g) hl p.length p [] [] fuel .un .un .un .un .un .un (Nat.le_refl _) rfl (by simp;lia) (by simp[fuel];lia) ⟨rfl,rfl,rfl,rfl,rfl,rfl⟩
 refine⟨_,Zaa (σ':=[.fz (.str p),.fz (.obj g),.fz (.str [46]),.own [],.un,.un,.un,.un,.un,.un,.un,.un,.un,.un]) rfl (Zaa (σ':=[.fz (.str p),.fz (.obj g),.fz (.str [46]),.own [],.app 3,.un,.un,.un,.un,.un,.un,.un,.un,.un]) rfl (Zaa (σ':=stR p g [] 0 .un .un .un .un .un .un) rfl (Zaa h (Zaa (σ':=stR p g ((ZeA p).map (Zap g)) p.length t7 t8 t9 t10 t11 t12) ?_ (Za6 (ZbF rfl))))))⟩
 have:tv ΓA (stR p g ((Zb6 [] (ipL p)).map (Zap g)) p.length t7 t8 t9 t10 t11 t12) (.tcmp .eq (.var 5) (.var 6))=some true:=(eq_int (a:=(p.length:Int)) (b:=(p.length:Int)) rfl rfl).trans (by erw[rwl (decide_eq_true rfl ..) ?_])
 exact Zns this
end
section
noncomputable def Zar{α:Type}:List (Option α)->List (List α)
 | []=>[[]]
 | some x::l=>match Zar l with
  | y::t=>(x::y)::t
  | []=>[[x]]
 | none::l=>match l with
  | none::_=>Zar l
  | _=>[]::Zar l
theorem Zvf{α:Type}:Zar ([]:List (Option α))=[[]]:=rfl
theorem Zm2{α:Type}(x:α)(l:List (Option α)):Zar (some x::l)=match Zar l with
  | y::t=>(x::y)::t
  | []=>[[x]]:=rfl
theorem Zvn{α:Type}(l:List (Option α)):Zar (none::l)=match l with
  | none::_=>Zar l
  | _=>[]::Zar l:=rfl
noncomputable def Zal{α:Type}:List (List α)->List (Option α)
 | []=>[]
 | [x]=>x.map some
 | x::y::t=>x.map some++none::Zal (y::t)
theorem Zvc{α:Type}:Zal ([]:List (List α))=[]:=rfl
theorem Zvt{α:Type}(x:List α):Zal [x]=x.map some:=rfl
noncomputable def ZiR{α:Type}:List (List α)->Prop
 | []=>True
 | [_]=>True
 | x::y::r=>x≠[]∧ZiR (y::r)
theorem ZaS{α:Type}:∀l:List (Option α),∃y t,Zar l=y::t∧ZiR t∧(l.head? = some none->y=[]∧t≠[])∧((∃x,l.head? = some (some x))->y≠[])
 | []=>⟨[],[],rfl,trivial,by simp,by simp⟩
 | some x::l=>by
  obtain⟨y,t,e,h1,_,_⟩:=ZaS l
  exact⟨x::y,t,by erw[rwl (Zm2 ..) (rwl (e ..) ?_)],h1,by simp,by simp⟩
 | none::[]=>⟨[],[[]],rfl,trivial,by simp,by simp⟩
 | none::none::l=>by
  obtain⟨y,t,e,h1,h2,h3⟩:=ZaS (none::l)
  exact⟨y,t,e,h1,λ_=>h2 rfl,by simp⟩
 | none::some x::l=>by
  obtain⟨y,t,e,h1,h2,h3⟩:=ZaS (some x::l)
  refine⟨[],y::t,congrArg (List.cons []) e,?_,by simp,by simp⟩
  cases t with
  | nil=>trivial
  | cons z t=>exact⟨h3 ⟨x,rfl⟩,h1⟩
theorem ZbS{α:Type}(x:α)(l:List (Option α)):Zar (none::some x::l)=[]::Zar (some x::l):=rfl
noncomputable def Zc5:List (Option (List Nat))->List (Option (List Nat))
 | none::r=>r
 | r=>r
theorem Zvm:Zc5 []=[]:=rfl
theorem Zvd(r:List (Option (List Nat))):Zc5 (none::r)=r:=rfl
theorem dst2(x:List Nat)(r:List (Option (List Nat))):Zc5 (some x::r)=some x::r:=rfl
theorem Zhe{α:Type}{y:List α}{t:List (List α)}:Zal ([]::y::t)=none::Zal (y::t):=rfl
theorem ZcZ{α:Type}(x:α)(y:List α)(t:List (List α)):Zal ((x::y)::t)=some x::Zal (y::t):=by
 cases t<;>rfl
noncomputable def ZbY(R:List (List (Item×List Nat))):List (List (List Nat)):=R.map (·.map (·.2))
theorem ZcN:∀(l:List (Option (Item×List Nat))) (ps:List (Option (List Nat))),Zb6 ps l=ps++(if ps.getLast? = some none then Zc5 (Zal (ZbY (Zar l))) else Zal (ZbY (Zar l)))
 | [],ps=>by
  show ps=_
  have e:Zal (ZbY (Zar ([]:List (Option (Item×List Nat)))))=[]:=rfl
  rw[e]
  split<;>simp[Zvm,Zvd,dst2]
 | some x::l,ps=>by
  obtain⟨y,t,e,_⟩:=ZaS l
  have e1:Zb6 ps (some x::l)=Zb6 (ps++[some x.2]) l:=by
   show Zb6 (ZbE ps (some x.2)) l=_
   rw[ZbE,if_neg (λq=>by cases q.1)]
  have e2:Zal (ZbY (Zar (some x::l)))=some x.2::Zal (ZbY (Zar l)):=by
   rw[Zm2,e]
   exact ZcZ x.2 (y.map (·.2)) (ZbY t)
  rw[e1,ZcN l,e2,if_neg (by simp)]
  split<;>simp[Zvm,Zvd,dst2]
 | none::l,ps=>by
  have e1:Zb6 ps (none::l)=Zb6 (ZbE ps none) l:=rfl
  obtain⟨y,t,e,_,h2,h3⟩:=ZaS l
  have key:Zal (ZbY (Zar (none::l)))=none::Zc5 (Zal (ZbY (Zar l))):=by
   cases l with
   | nil=>rfl
   | cons a l=>
    cases a with
    | none=>
     obtain⟨rfl,ht⟩:=h2 rfl
     show Zal (ZbY (Zar (none::l)))=_
     obtain⟨z,t',rfl⟩:∃z t',t=z::t':=by
      cases t with
      | nil=>exact absurd rfl ht
      | cons z t'=>exact⟨z,t',rfl⟩
     rw[e]
     rfl
    | some x=>
     rw[ZbS,e]
     ·obtain⟨c,y',rfl⟩:∃c y',y=c::y':=by
       cases y with
       | nil=>exact absurd rfl (h3 ⟨x,rfl⟩)
       | cons c y'=>exact⟨c,y',rfl⟩
      have q:=ZcZ c.2 (y'.map (·.2)) (ZbY t)
      show none::Zal (ZbY ((c::y')::t))=none::Zc5 (Zal (ZbY ((c::y')::t)))
      have q2:Zal (ZbY ((c::y')::t))=some c.2::Zal ((y'.map (·.2))::ZbY t):=q
      rw[q2]
      rfl
  rw[e1,ZcN l,key]
  by_cases h:ps.getLast? = some none
  ·rw[ZbE,if_pos ⟨rfl,h⟩,if_pos h,if_pos h];rfl
  ·rw[ZbE,if_neg (λq=>h q.2),if_neg h,if_pos (by simp)];simp
theorem ZiG(p:List Nat):ZeA p=Zal (ZbY (Zar (ipL p))):=by
 unfold ZeA
 erw[rwl (ZcN ..) ?_]
 simp
noncomputable def Zga:List (List (List Nat))->List Nat
 | []=>[]
 | [run]=>[46,42]++run.flatten
 | run::r::t=>[40,63,62,46,42,63]++run.flatten++[41]++Zga (r::t)
theorem Zjd:Zga []=[]:=rfl
theorem ZjP(run:List (List Nat)):Zga [run]=[46,42]++run.flatten:=rfl
theorem Zjb(run r:List (List Nat))(t:List (List (List Nat))):Zga (run::r::t)=[40,63,62,46,42,63]++run.flatten++[41]++Zga (r::t):=rfl
noncomputable def ZdL:List (List (List Nat))->List Nat
 | []=>[]
 | run::t=>[40,63,115,58]++(run.flatten++Zga t)++[41,92,90]
theorem ZhH:∀l:List (List Nat),ZbX [] l=l.flatten
 | []=>rfl
 | [x]=>by simp[Zl6,Zle,Zim]
 | x::y::r=>by erw[rwl (Zim ..) (rwl (ZhH (y::r) ..) ?_)];simp
noncomputable def Zi1:X:=match ZaA with
 | .seq _ (.seq _ (.seq _ (.seq (.whl t _) _)))=>t
 | _=>.nil
noncomputable def Zqr:S:=match ZaA with
 | .seq _ (.seq _ (.seq _ (.seq (.whl _ b) _)))=>b
 | _=>.skip
noncomputable def Zls:S:=match ZaA with
 | .seq _ (.seq _ (.seq _ (.seq _ (.seq (.whl _ b) _))))=>b
 | _=>.skip
noncomputable def ZsX:S:=match Zls with
 | .seq _ (.seq _ (.seq _ (.seq _ (.seq _ b))))=>b
 | _=>.skip
noncomputable def Zp3:S:=match ZsX with
 | .seq (.whl _ b) _=>b
 | _=>.skip
noncomputable def stJ(inp:List (Option (List Nat)))(g:Addr)(L:List (List Nat))(i:Nat)(s6:Slot):Sg:=[.fz (.list (inp.map (Zap g))),.fz (.obj g),.own (L.map .str),.app 2,.fz (.int (i:Int)),.fz (.int (inp.length:Int)),s6]
section
variable {inp:List (Option (List Nat))}{g:Addr}{L:List (List Nat)}{s6:Slot}
theorem Zni{pre r:List (Option (List Nat))}{x:Option (List Nat)}(hb:inp=pre++x::r)(hl:inp.length<=1000):ev noΓ (stJ inp g L pre.length s6) (.idx (.var 0) (.var 4))=some (Zap g x):=by
 have hlen:inp.length=pre.length+(r.length+1):=by erw[rwl (hb ..) ?_];simp
 refine ZaL (p:=.list (inp.map (Zap g))) (q:=.int (pre.length:Int)) rfl rfl (ZaM ?_ (by lia))
 erw[rwl (List.getElem?_map ..) (rwl (hb ..) ?_)]
 have:=ZbB pre (x::r) 0
 rw[Nat.add_zero] at this
 erw[rwl (this ..) ?_];rfl
theorem ZiV{pre r:List (Option (List Nat))}{x:Option (List Nat)}(hb:inp=pre++x::r)(hl:inp.length<=1000):tv noΓ (stJ inp g L pre.length s6) (.tcmp .isnt (.idx (.var 0) (.var 4)) (.var 1))=some x.isSome:=by
 refine Zaj (Zni hb hl) (q:=.obj g) rfl ?_
 cases x with
 | none=>
  show((if g=g then some true else none).map (!·))=some false
  rw[if_pos (by simp)];rfl
 | some t=>rfl
theorem Zua{pre r:List (Option (List Nat))}{x:Option (List Nat)}(hb:inp=pre++x::r)(hl:inp.length<=1000):tv noΓ (stJ inp g L pre.length s6) (.tcmp .is_ (.idx (.var 0) (.var 4)) (.var 1))=some x.isNone:=by
 refine Zaj (Zni hb hl) (q:=.obj g) rfl ?_
 cases x with
 | none=>
  show(if g=g then some true else none)=some true
  rw[if_pos (by simp)]
 | some t=>rfl
theorem Zma{i:Nat}:tv noΓ (stJ inp g L i s6) (.tcmp .lt (.var 4) (.var 5))=some (decide (i < inp.length)):=by
 refine(lt_int (a:=(i:Int)) (b:=(inp.length:Int)) rfl rfl).trans ?_
 congr 1
 erw[rwl (propext (Bool.eq_iff_iff ..)) ?_];simp
theorem ZpF{i:Nat}:tv noΓ (stJ inp g L i s6) (.tcmp .eq (.var 4) (.var 5))=some (decide (i=inp.length)):=by
 refine(eq_int (a:=(i:Int)) (b:=(inp.length:Int)) rfl rfl).trans ?_
 congr 1
 erw[rwl (propext (Bool.eq_iff_iff ..)) ?_];simp only[decide_eq_true_eq];lia
noncomputable def Stop(r:List (Option (List Nat))):Prop:=∀x r',r=x::r'->x=none
theorem ZlT{pre r:List (Option (List Nat))}(hs:Stop r)(hb:inp=pre++r)(hl:inp.length<=1000):tv noΓ (stJ inp g L pre.length s6) Zi1=some false:=by
 cases r with
 | nil=>
  have:inp.length=pre.length:=by erw[rwl (hb ..) ?_];simp
  exact Zav (Zma.trans (by rw[decide_eq_false (by lia)]))
 | cons x r=>
  have:=hs x r rfl
  subst this
  exact ZaK (Zma.trans (by rw[hb,decide_eq_true (by simp)])) (Zav (ZiV hb hl))
theorem Ztp{pre r:List (Option (List Nat))}{t:List Nat}(hb:inp=pre++some t::r)(hl:inp.length<=1000):tv noΓ (stJ inp g L pre.length s6) Zi1=some true:=
 ZaK (Zma.trans (by rw[hb,decide_eq_true (by simp)])) (ZaK (ZiV hb hl) rfl)
theorem Zhl{i:Nat}{x:X}{t:List Nat}(he:ev noΓ (stJ inp g L i s6) x=some (.str t))(hm:L.length<=5000):ex noΓ fuel (.add 3 2 x) (stJ inp g L i s6)=some (.next,stJ inp g (L++[t]) i s6):=by
 have:=ZqZ (Γ:=noΓ) (N:=fuel) (σ:=stJ inp g L i s6) (i:=2) (j:=3) (x:=x) (ds:=L.map .str) (d:=.str t) rfl rfl he (by simp;lia)
 erw[rwl (this ..) ?_]
 simp[stJ]
theorem Zjo(hl:inp.length<=1000):∀(run:List (List Nat)) (pre r:List (Option (List Nat))) (L:List (List Nat)) (N:Nat),inp=pre++(run.map some++r)->Stop r->L.length+run.length<=5000->run.length < N->
  Zbj (λσ=>tv noΓ σ Zi1) (ex noΓ fuel Zqr) N (stJ inp g L pre.length s6)=some (.next,stJ inp g (L++run) (pre.length+run.length) s6)
 | [],pre,r,L,N+1,hb,hs,_,_=>by
  rw[ZcT (ZlT hs (by simpa using hb) hl)]
  simp
 | t::run,pre,r,L,N+1,hb,hs,hm,hN=>by
  simp at hm hN
  have hb1:inp=pre++some t::(run.map some++r):=by erw[rwl (hb ..) ?_];simp
  have ih:=Zjo hl run (pre++[some t]) r (L++[t]) N (by erw[rwl (hb ..) ?_];simp) hs (by simp;lia) (by lia)
  have e:(pre++[some t]).length=pre.length+1:=by simp
  rw[e] at ih
  refine ZiJ (Ztp hb1 hl) (Zaa (Zhl (Zni hb1 hl) (by lia)) (Zaf (ZcK (p:=.int (pre.length:Int)) (q:=.int 1) rfl rfl rfl))) (ih.trans ?_)
  erw[rwl (List.length_cons ..) (rwl (Nat.add_assoc ..) (rwl (Nat.add_comm 1 ..) ?_))]
  simp
 | _,_,_,_,0,_,_,_,hN=>absurd hN (Nat.not_lt_zero _)
theorem ZjL(hl:inp.length<=1000):∀(run:List (List Nat)) (pre r:List (Option (List Nat))) (F:List (List Nat)) (N:Nat),inp=pre++(run.map some++r)->Stop r->F.length+run.length<=5000->run.length < N->
  Zbj (λσ=>tv noΓ σ Zi1) (ex noΓ fuel Zp3) N (stJ inp g L pre.length (.own (F.map .str)))=some (.next,stJ inp g L (pre.length+run.length) (.own ((F++run).map .str)))
 | [],pre,r,F,N+1,hb,hs,_,_=>by
  rw[ZcT (ZlT hs (by simpa using hb) hl)]
  simp
 | t::run,pre,r,F,N+1,hb,hs,hm,hN=>by
  simp at hm hN
  have hb1:inp=pre++some t::(run.map some++r):=by erw[rwl (hb ..) ?_];simp
  have ih:=ZjL hl run (pre++[some t]) r (F++[t]) N (by erw[rwl (hb ..) ?_];simp) hs (by simp;lia) (by lia)
  have e:(pre++[some t]).length=pre.length+1:=by simp
  rw[e] at ih
  have a1:ex noΓ fuel (.app 6 (.idx (.var 0) (.var 4))) (stJ inp g L pre.length (.own (F.map .str)))=some (.next,stJ inp g L pre.length (.own ((F++[t]).map .str))):=by
   have:=Zel (Γ:=noΓ) (N:=fuel) (σ:=stJ inp g L pre.length (.own (F.map .str))) (i:=6) (ds:=F.map .str) rfl (Zni (s6:=.own (F.map .str)) (L:=L) (g:=g) hb1 hl) (by simp;lia)
   erw[rwl (this ..) ?_]
   simp[stJ,ZvD,ZvC]
  refine ZiJ (Ztp hb1 hl) (Zaa a1 (Zaf (ZcK (p:=.int (pre.length:Int)) (q:=.int 1) rfl rfl rfl))) (ih.trans ?_)
  erw[rwl (List.length_cons ..) (rwl (Nat.add_assoc ..) (rwl (Nat.add_comm 1 ..) ?_))]
  simp
 | _,_,_,_,0,_,_,_,hN=>absurd hN (Nat.not_lt_zero _)
end
end
section
noncomputable def Zdc:List (List (List Nat))->List (Option (List Nat))
 | []=>[]
 | y::t=>none::Zal (y::t)
theorem ZsG:Zdc []=[]:=rfl
theorem Zs1(y:List (List Nat))(t:List (List (List Nat))):Zdc (y::t)=none::Zal (y::t):=rfl
theorem Zez(y:List (List Nat))(t:List (List (List Nat))):Zal (y::t)=y.map some++Zdc t:=by
 cases t with
 | nil=>simp[Zvc,Zvt,ZsG,Zs1]
 | cons z t=>rfl
theorem ZhM(t:List (List (List Nat))):Stop (Zdc t):=by
 intro x r' h
 cases t with
 | nil=>cases h
 | cons z t=>injection h with h1 _;exact h1.symm
theorem Zos{t:List (List (List Nat))}(h:t≠[]):0 < (Zdc t).length:=by
 cases t with
 | nil=>exact absurd rfl h
 | cons z t=>simp[ZsG,Zs1]
theorem Zk5{Γ:ZaC}{σ:Sg}{x:X}{F:List (List Nat)}(h:ev Γ σ x=some (.list (F.map .str)))(h1:F.length<=1000000)(h2:F.flatten.length<=1000000):ev Γ σ (.join (.const (.str [])) x)=some (.str F.flatten):=by
 show(ev Γ σ x).bind _=_
 refine Zag h (Zag (strs_map F) ((if_pos ⟨h1,Nat.zero_le _,?_⟩).trans (by erw[rwl (ZhH ..) ?_])))
 rw[List.length_flatten] at h2
 exact h2
section
variable {inp:List (Option (List Nat))}{g:Addr}{L:List (List Nat)}{s6:Slot}
theorem Zsy{y:List (List Nat)}{t:List (List (List Nat))}{pre:List (Option (List Nat))}(hl:inp.length<=900)(hb:inp=pre++(y.map some++Zdc t))(hm:L.length<=4000)(hT:(Zga (y::t)).length<=100000) :
  ∃(L':List (List Nat)) (d:D),L'.length<=L.length+2∧L'.flatten=L.flatten++(if t=[] then [46,42]++y.flatten else [40,63,62,46,42,63]++y.flatten++[41])∧
   ex noΓ fuel ZsX (stJ inp g L pre.length (.own []))=some (.next,stJ inp g L' (pre.length+y.length) (.fz d)):=by
 have hlen:inp.length=pre.length+(y.length+(Zdc t).length):=by erw[rwl (hb ..) ?_];simp
 have hyT:y.flatten.length<=100000:=by
  cases t with
  | nil=>simp[Zjd,ZjP,Zjb] at hT ⊢;lia
  | cons z t=>simp[Zjd,ZjP,Zjb] at hT ⊢;lia
 have l3:=ZjL (g:=g) (L:=L) (by lia) y pre (Zdc t) [] fuel hb (ZhM t) (by simp;lia) (by simp[fuel];lia)
 rw[List.nil_append] at l3
 have e6:ex noΓ fuel (.asg 6 (.join (.const (.str [])) (.tvar 6))) (stJ inp g L (pre.length+y.length) (.own (y.map .str)))=some (.next,stJ inp g L (pre.length+y.length) (.fz (.str y.flatten))):=
  Zaw (Zk5 (F:=y) rfl (by lia) (by lia))
 have te:=ZpF (inp:=inp) (g:=g) (L:=L) (s6:=.fz (.str y.flatten)) (i:=pre.length+y.length)
 by_cases ht:t=[]
 ·have h0:(Zdc t).length=0:=by erw[rwl (ht ..) ?_];rfl
  rw[decide_eq_true (by lia)] at te
  refine⟨L++[[46,42]]++[y.flatten],.str y.flatten,by simp,by erw[rwl (if_pos ht ..) ?_];simp,Zaa l3 (Zaa e6 (Zaf (x_t te (Zaa (Zhl rfl (by lia)) (Zaf (Zhl rfl (by simp;lia)))))))⟩
 ·have h0:=Zos ht
  rw[decide_eq_false (by lia)] at te
  exact⟨L++[[40,63,62,46,42,63]++y.flatten++[41]],.str y.flatten,by simp,by erw[rwl (if_neg ht ..) ?_];simp,Zaa l3 (Zaa e6 (Zaf (x_f te (Zaf (Zhl (Zcn (by simp only[List.length_append,List.length_cons,List.length_nil];lia)) (by lia))))))⟩
theorem Zja(hl:inp.length<=900):∀(rest:List (List (List Nat))) (pre:List (Option (List Nat))) (L:List (List Nat)) (s6:Slot) (N:Nat),inp=pre++Zdc rest->ZiR rest->L.length+2 * rest.length<=4000->(Zga rest).length<=100000->rest.length < N->s6.isApp 6=false->
  ∃(L':List (List Nat)) (t6:Slot),L'.length<=L.length+2 * rest.length∧L'.flatten=L.flatten++Zga rest∧
   Zbj (λσ=>tv noΓ σ (.tcmp .lt (.var 4) (.var 5))) (ex noΓ fuel Zls) N (stJ inp g L pre.length s6)=some (.next,stJ inp g L' inp.length t6)
 | [],pre,L,s6,N+1,hb,_,_,_,_,_=>by
  have hlen:inp.length=pre.length:=by erw[rwl (hb ..) ?_];simp[ZsG,Zs1]
  refine⟨L,s6,by simp,by simp[Zjd,ZjP,Zjb],?_⟩
  rw[ZcT (Zma.trans (by rw[decide_eq_false (by lia)])),hlen]
 | y::t,pre,L,s6,N+1,hb,hok,hm,hT,hN,h6=>by
  have hb1:inp=pre++none::Zal (y::t):=hb
  have hb2:inp=(pre++[none])++(y.map some++Zdc t):=by erw[rwl (hb1 ..) (rwl (Zez ..) ?_)];simp
  have hlen:inp.length=pre.length+(1+(y.length+(Zdc t).length)):=by erw[rwl (hb2 ..) ?_];simp;lia
  have go:tv noΓ (stJ inp g L pre.length s6) (.tcmp .lt (.var 4) (.var 5))=some true:=Zma.trans (by rw[decide_eq_true (by lia)])
  have a1:ex noΓ fuel (.asr (.tcmp .is_ (.idx (.var 0) (.var 4)) (.var 1))) (stJ inp g L pre.length s6)=some (.next,stJ inp g L pre.length s6):=Zns (Zua hb1 (by lia))
  have a2:ex noΓ fuel (.aug 4 .add (.const (.int 1))) (stJ inp g L pre.length s6)=some (.next,stJ inp g L (pre.length+1) s6):=ZcK (p:=.int (pre.length:Int)) (q:=.int 1) rfl rfl rfl
  have te:=ZpF (inp:=inp) (g:=g) (L:=L) (s6:=s6) (i:=pre.length+1)
  simp at hm hN
  cases y with
  | nil=>
   have ht:t=[]:=by
    cases t with
    | nil=>rfl
    | cons z t=>exact absurd rfl hok.1
   subst ht
   simp[ZsG,Zs1] at hlen
   rw[decide_eq_true (by lia)] at te
   refine⟨L++[[46,42]],s6,by simp,by simp[Zjd,ZjP,Zjb],Zs0 go (Zaa a1 (Zaa a2 (ZnI (x_t te (Zaa (Zhl rfl (by lia)) (ZnI rfl))))))|>.trans ?_⟩
   erw[rwl (hlen ..) ?_]
  | cons x y=>
   rw[decide_eq_false (by simp at hlen;lia)] at te
   have e1:(pre++[none]).length=pre.length+1:=by simp
   have a3:ex noΓ fuel (.asr (.tcmp .isnt (.idx (.var 0) (.var 4)) (.var 1))) (stJ inp g L (pre.length+1) s6)=some (.next,stJ inp g L (pre.length+1) s6):=by
    have:=ZiV (inp:=inp) (g:=g) (L:=L) (s6:=s6) (pre:=pre++[none]) (x:=some x) (r:=y.map some++Zdc t) (by erw[rwl (hb2 ..) ?_];simp) (by lia)
    rw[e1] at this
    exact Zns this
   have a4:ex noΓ fuel (.asgO 6 .nil) (stJ inp g L (pre.length+1) s6)=some (.next,stJ inp g L (pre.length+1) (.own [])):=by
    refine Zmg ?_ rfl (by simp)
    show([Slot.fz _,.fz _,.own _,.app 2,.fz _,.fz _,s6].all λs=>!s.isApp 6)=true
    simp only[List.all_cons,List.all_nil,h6]
    rfl
   obtain⟨L',d,r1,r2,r3⟩:=Zsy (inp:=inp) (g:=g) (L:=L) (y:=x::y) (t:=t) (pre:=pre++[none]) hl hb2 (by lia) hT
   rw[e1] at r3
   have hT2:(Zga t).length<=100000:=by
    cases t with
    | nil=>simp[Zjd,ZjP,Zjb]
    | cons z t=>simp[Zjd,ZjP,Zjb] at hT ⊢;lia
   have hok2:ZiR t:=by
    cases t with
    | nil=>trivial
    | cons z t=>exact hok.2
   obtain⟨L2,t6,i1,i2,i3⟩:=Zja hl t (pre++[none]++(x::y).map some) L' (.fz d) N (by erw[rwl (hb2 ..) ?_];simp) hok2 (by lia) hT2 (by lia) rfl
   have e2:(pre++[none]++(x::y).map some).length=pre.length+1+(x::y).length:=by simp;lia
   rw[e2] at i3
   refine⟨L2,t6,by simp;lia,?_,ZiJ go (Zaa a1 (Zaa a2 (Zaa (x_f te rfl) (Zaa a3 (Zaa a4 r3))))) i3⟩
   erw[rwl (i2 ..) (rwl (r2 ..) ?_)]
   cases t with
   | nil=>simp[Zjd,ZjP,Zjb]
   | cons z t=>simp[Zjd,ZjP,Zjb]
 | _,_,_,_,0,_,_,_,_,hN,_=>absurd hN (Nat.not_lt_zero _)
end
theorem ZqD{run:List (List Nat)}{t:List (List (List Nat))}{g:Addr}(hl:(Zal (run::t)).length<=500)(hok:ZiR t)(hT:(run.flatten++Zga t).length<=50000) :
  ZuA [.list ((Zal (run::t)).map (Zap g)),.obj g]=some (.str (ZdL (run::t))):=by
 have hu:=Zez run t
 have hlen:(Zal (run::t)).length=run.length+(Zdc t).length:=by erw[rwl (hu ..) ?_];simp
 have htl:t.length<=(Zdc t).length:=by
  clear hl hok hT hu hlen
  have:∀(t:List (List (List Nat))) (y:List (List Nat)),t.length<=(Zal (y::t)).length:=by
   intro t
   induction t with
   | nil=>intro y;simp
   | cons z t ih=>
    intro y
    have:=ih z
    show _<=(y.map some++none::Zal (z::t)).length
    simp;lia
  cases t with
  | nil=>simp
  | cons z t=>
   have:=this t z
   simp[ZsG,Zs1];lia
 generalize hi:Zal (run::t)=inp at *
 have hrl:run.flatten.length+(Zga t).length<=50000:=by simpa using hT
 have l1:=Zjo (g:=g) (s6:=.un) (show inp.length<=1000 by lia) run [] (Zdc t) [] fuel (by erw[rwl (hu ..) ?_];simp) (ZhM t) (by simp;lia) (by simp[fuel];lia)
 simp only[List.length_nil,Nat.zero_add,List.nil_append] at l1
 obtain⟨L',t6,i1,i2,i3⟩:=Zja (g:=g) (show inp.length<=900 by lia) t (run.map some) run .un fuel hu hok (by lia) (by lia) (by simp[fuel];lia) rfl
 rw[List.length_map] at i3
 have hf:L'.flatten.length<=100000:=by erw[rwl (i2 ..) ?_];simp;simp at hrl;lia
 refine Zbc rfl ?_
 refine⟨_,Zaa (σ':=[.fz (.list (inp.map (Zap g))),.fz (.obj g),.own [],.un,.un,.un,.un]) rfl (Zaa (σ':=[.fz (.list (inp.map (Zap g))),.fz (.obj g),.own [],.app 2,.un,.un,.un]) rfl (Zaa (σ':=stJ inp g [] 0 .un) ?_ (Zaa l1 (Zaa i3 (Zaa (σ':=stJ inp g L' inp.length t6) ?_ (Zaa (σ':=[.fz (.list (inp.map (Zap g))),.fz (.obj g),.fz (.str L'.flatten),.app 2,.fz (.int (inp.length:Int)),.fz (.int (inp.length:Int)),t6]) ?_ (Za6 (ZbF (d:=.str (ZdL (run::t))) ?_))))))))⟩
 ·show some (Fl.next,([.fz (.list (inp.map (Zap g))),.fz (.obj g),.own [],.app 2,.fz (.int 0),.fz (.int ((inp.map (Zap g)).length:Int)),.un]:Sg))=_
  erw[rwl (List.length_map ..) ?_];rfl
 ·exact Zns (ZpF.trans (by erw[rwl (decide_eq_true rfl ..) ?_]))
 ·exact Zaw (Zk5 (F:=L') rfl (by lia) (by lia))
 ·refine(Zcn (l:=[40,63,115,58]++L'.flatten++[41,92,90]) (by simp only[List.length_append,List.length_cons,List.length_nil];lia)).trans ?_
  erw[rwl (i2 ..) ?_]
  rfl
end
section
noncomputable def ZkE:List (Option (Item×List Nat))->Nat
 | []=>0
 | none::l=>ZkE l
 | some x::l=>x.2.length+ZkE l
theorem ZqH:ZkE []=0:=rfl
theorem Zpw(l:List (Option (Item×List Nat))):ZkE (none::l)=ZkE l:=rfl
theorem Zqz(x:Item×List Nat)(l:List (Option (Item×List Nat))):ZkE (some x::l)=x.2.length+ZkE l:=rfl
noncomputable def Zfi:List (List (List Nat))->Nat
 | []=>0
 | run::t=>(run.flatten++Zga t).length
theorem Zci:∀l:List (Option (Item×List Nat)),Zfi (ZbY (Zar l))<=ZkE l+8 * l.length
 | []=>by simp[Zvf,Zm2,Zvn,ZbY,Zfi,Zjd,ZjP,Zjb]
 | some x::l=>by
  obtain⟨y,t,e,_⟩:=ZaS l
  have ih:=Zci l
  erw[rwl (Zm2 ..) (rwl (e ..) ?_)]
  rw[e] at ih
  simp[ZbY,Zfi,ZqH,Zpw,Zqz] at ih ⊢
  lia
 | none::[]=>by simp[Zvf,Zm2,Zvn,ZbY,Zfi,Zjd,ZjP,Zjb,ZqH,Zpw,Zqz]
 | none::none::l=>by
  have ih:=Zci (none::l)
  erw[rwl (show Zar (none::none::l)=Zar (none::l) from rfl ..) ?_]
  simp[ZqH,Zpw,Zqz] at ih ⊢
  lia
 | none::some x::l=>by
  obtain⟨y,t,e,_⟩:=ZaS (some x::l)
  have ih:=Zci (some x::l)
  erw[rwl (ZbS ..) (rwl (e ..) ?_)]
  rw[e] at ih
  have hm:∀(y:List (List Nat)) (t:List (List (List Nat))),(Zga (y::t)).length<=(y.flatten++Zga t).length+7:=λy t=>by
   cases t with
   | nil=>simp[Zjd,ZjP,Zjb]
   | cons z t=>simp only[Zjd,ZjP,Zjb,List.length_append,List.length_cons,List.length_nil];lia
  have:=hm (y.map (·.2)) (ZbY t)
  have h2:Zfi (ZbY ([]::y::t))=(Zga (y.map (·.2)::ZbY t)).length:=by simp[ZbY,Zfi]
  have h3:Zfi (ZbY (y::t))=((y.map (·.2)).flatten++Zga (ZbY t)).length:=rfl
  erw[rwl (h2 ..) ?_]
  rw[h3] at ih
  have h4:ZkE (none::some x::l)=ZkE (some x::l):=rfl
  erw[rwl (h4 ..) ?_]
  simp only[List.length_cons] at ih ⊢
  lia
theorem ZqR(w:List Nat):(Zp5 w).length<=w.length+1:=by
 cases w with
 | nil=>simp[Zp5]
 | cons c t=>
  erw[rwl (ZaZ ..) ?_]
  split
  ·simp
  ·split<;>simp
theorem Zgf(w:List Nat):(ZaN w).length<=w.length+4:=by
 have:=ZqR w
 unfold ZaN
 split
 ·simp
 ·split
  ·simp
  ·simp;lia
theorem ZoA(c:Nat):(Ze6 c).length<=2:=by unfold Ze6;split<;>simp
theorem Zmh(p:List Nat):(ipL p).length<=p.length∧ZkE (ipL p)<=5 * p.length:=by
 refine ZgL (P:=λp=>(ipL p).length<=p.length∧ZkE (ipL p)<=5 * p.length) ⟨Nat.le_refl _,Nat.zero_le _⟩ (λr ih=>?_) (λr ih=>?_) (λr k hk ih=>?_) (λc r h1 h2 h3 ih=>?_) p.length p (Nat.le_refl _)
 ·erw[rwl (show ipL (42::r)=none::ipL r from rfl ..) ?_];simp[ZqH,Zpw,Zqz];lia
 ·erw[rwl (show ipL (63::r)=some ((true,[]),[46])::ipL r from rfl ..) ?_];simp[ZqH,Zpw,Zqz];lia
 ·erw[rwl (Zk7 hk ..) ?_]
  obtain⟨k1,k2,_⟩:=ZaT hk
  have hkl:=ZdY k2
  have l1:=Zgf (Zbb (r.take k))
  have l2:=Zfr (r.take k)
  have l3:(r.take k).length=k:=by simp;lia
  simp[ZqH,Zpw,Zqz] at ih ⊢;lia
 ·erw[rwl (Zjv h1 h2 h3 ..) ?_]
  have:=ZoA c
  simp[ZqH,Zpw,Zqz];lia
theorem Zf2:∀(l:List (Option (Item×List Nat))) (ps:List (Option (List Nat))),(Zb6 ps l).length<=ps.length+l.length
 | [],ps=>by simp[Zb6]
 | x::l,ps=>by
  have h1:=ZgW ps (x.map (·.2))
  have h2:=Zf2 l (ZbE ps (x.map (·.2)))
  have e:Zb6 ps (x::l)=Zb6 (ZbE ps (x.map (·.2))) l:=rfl
  erw[rwl (e ..) ?_];simp;lia
noncomputable def trT(p:List Nat):List Nat:=ZdL (ZbY (Zar (ipL p)))
theorem Zmn:∀{R:List (List (Item×List Nat))},ZiR R->ZiR (ZbY R)
 | [],_=>trivial
 | [_],_=>trivial
 | x::y::r,h=>⟨λq=>h.1 (by simpa using q),Zmn h.2⟩
theorem Zrm{p:List Nat}(hl:p.length<=40):ZoR [.str p]=some (.str (trT p)):=by
 refine Zpl ⟨_,rfl,λg=>?_⟩
 obtain⟨y,t,e,hok,_⟩:=ZaS (ipL p)
 have hip:=Zmh p
 have hw:=Zci (ipL p)
 rw[e] at hw
 have hp:ZeA p=Zal ((y.map (·.2))::ZbY t):=by erw[rwl (ZiG ..) (rwl (e ..) ?_)];rfl
 have hpl:=Zf2 (ipL p) []
 have h4:=ZqD (run:=y.map (·.2)) (t:=ZbY t) (g:=g) (by erw[rwr (hp ..) ?_];unfold ZeA;simp at hpl;lia) (Zmn hok) (by
  have h3:Zfi (ZbY (y::t))=((y.map (·.2)).flatten++Zga (ZbY t)).length:=rfl
  rw[h3] at hw
  lia)
 rw[←hp] at h4
 have h3:=ZpY (p:=p) (g:=g) hl
 have ht:trT p=ZdL ((y.map (·.2))::ZbY t):=by unfold trT;erw[rwl (e ..) ?_];rfl
 erw[rwl (ht ..) ?_]
 refine⟨_,Zaa (σ':=[.fz (.str p),.fz (.obj g),.fz (.list ((ZeA p).map (Zap g)))]) (Zaw (Zbd (ds:=[.str p,.obj g,.str [46]]) rfl h3)) (Za6 (ZbF (Zbd (ds:=[.list ((ZeA p).map (Zap g)),.obj g]) rfl h4)))⟩
end
section
noncomputable abbrev Zdz:=List Nat×List Nat
noncomputable def CT(c:Nat)(t:List Nat):Prop:=(t=[c]∧c≠92)∨(t=[92,c]∧Zg3 c=false)
inductive Un:Zdz->Prop
 | one {c:Nat} {t:List Nat}:CT c t->Un ([c],t)
 | rng {lo hi:Nat} {tl th:List Nat}:CT lo tl->CT hi th->lo<=hi->th.head?≠some 93->Un ([lo,45,hi],tl++45::th)
noncomputable def UnN(u:Zdz):Prop:=Un u∧u.2.head?≠some 93∧u.2.head?≠some 45
noncomputable def Zdv:List Zdz->Prop
 | []=>True
 | u::us=>Un u∧∀v∈us,UnN v
noncomputable def ZmJ:X:=match ZcG with
 | .seq _ (.seq _ (.seq _ (.seq _ (.seq (.whl t _) _))))=>t
 | _=>.nil
noncomputable def Zmo:S:=match ZcG with
 | .seq _ (.seq _ (.seq _ (.seq _ (.seq (.whl _ b) _))))=>b
 | _=>.skip
noncomputable def clA:S:=match Zmo with
 | .seq a _=>a
 | _=>.skip
noncomputable def stC(x:List Nat)(i:Nat)(bar:Bool)(ms:List D)(s5:Slot):Sg:=[.fz (.str x),.fz (.int (i:Int)),.fz (.bool bar),.own ms,.fz (.bool false),s5]
section
variable {x:List Nat}{bar:Bool}{ms:List D}{s5:Slot}
theorem ZfG{pre r:List Nat}{c:Nat}(hb:x=pre++c::r)(hl:x.length<=100000):ev ΓA (stC x pre.length bar ms s5) (.idx (.var 0) (.var 1))=some (.str [c]):=by
 have hlen:x.length=pre.length+(r.length+1):=by erw[rwl (hb ..) ?_];simp
 exact ZaL (p:=.str x) (q:=.int (pre.length:Int)) rfl rfl (ZaV (by erw[rwl (hb ..) ?_];exact ZbB pre _ 0) (by lia))
theorem Ztr{pre r:List Nat}{c d:Nat}(hb:x=pre++c::d::r)(hl:x.length<=100000):ev ΓA (stC x pre.length bar ms s5) (.idx (.var 0) (.bin .add (.var 1) (.const (.int 1))))=some (.str [d]):=by
 have hlen:x.length=pre.length+(r.length+2):=by erw[rwl (hb ..) ?_];simp
 exact ZaL (p:=.str x) (q:=.int ((pre.length+1:Nat):Int)) rfl rfl (ZaV (by erw[rwl (hb ..) ?_];exact ZbB pre _ 1) (by lia))
theorem Zhd{i:Nat}:ex ΓA fuel (.aug 1 .add (.const (.int 1))) (stC x i bar ms s5)=some (.next,stC x (i+1) bar ms s5):=ZcK (p:=.int (i:Int)) (q:=.int 1) rfl rfl rfl
theorem Zrg{pre r:List Nat}{c:Nat}{t:List Nat}(h:CT c t)(hb:x=pre++(t++r))(hl:x.length<=100000) :
  ∃pre',x=pre'++c::r∧pre'.length+1=pre.length+t.length∧ex ΓA fuel clA (stC x pre.length bar ms s5)=some (.next,stC x pre'.length bar ms s5):=by
 rcases h with⟨rfl,hc⟩ | ⟨rfl,hw⟩
 ·exact⟨pre,hb,by simp,x_f (ZaH hc (ZfG hb hl) rfl) rfl⟩
 ·refine⟨pre++[92],by erw[rwl (hb ..) ?_];simp,by simp,x_t (ZbV rfl (ZfG hb hl) rfl) ?_⟩
  have e:(pre++[92]).length=pre.length+1:=by simp
  erw[rwl (e ..) ?_]
  refine Zaa Zhd (Zaf (Zaw (d:=.bool false) ?_))
  have ei:ev ΓA (stC x (pre.length+1) bar ms s5) (.idx (.var 0) (.var 1))=some (.str [c]):=by
   have:=ZfG (x:=x) (bar:=bar) (ms:=ms) (s5:=s5) (pre:=pre++[92]) (c:=c) (r:=r) (by erw[rwl (hb ..) ?_];simp) hl
   rwa [e] at this
  show Zk6 _ _ _=_
  refine ZcJ (a:=false) rfl (λ_=>ZeS ?_) nofun
  refine Zbd (ds:=[.str [c]]) (Zb8 ei) ?_
  show ZrI _=_
  erw[rwl (Zmc ..) (rwl (hw ..) ?_)]
set_option tactic.hygienic true in
theorem Zqi{u:Zdz}(hu:Un u){pre r:List Nat}{z:Nat}(hz:z≠45)(hb:x=pre++(u.2++z::r))(hl:x.length<=100000)(hm:ms.length<=100000) :
  ∃t5,ex ΓA fuel Zmo (stC x pre.length bar ms s5)=some (.next,stC x (pre.length+u.2.length) bar (ms++[.str u.1]) t5):=by
 cases hu with
 | one h=>
  rename_i c t
  obtain⟨pre',e1,e2,e3⟩:=Zrg (bar:=bar) (ms:=ms) (s5:=s5) h hb hl
  have e0:(pre'++[c]).length=pre'.length+1:=by simp
  have hb2:x=(pre'++[c])++z::r:=by erw[rwl (e1 ..) ?_];simp
  have ez:ev ΓA (stC x (pre'.length+1) bar ms (.fz (.str [c]))) (.idx (.var 0) (.var 1))=some (.str [z]):=by
   have:=ZfG (bar:=bar) (ms:=ms) (s5:=.fz (.str [c])) hb2 hl
   rwa [e0] at this
  refine⟨.fz (.str [c]),Zaa e3 (Zaa (σ':=stC x pre'.length bar ms (.fz (.str [c]))) (Zaw (ZfG e1 hl)) (Zaa Zhd (Zaa (x_f (Zav (ZaH hz ez rfl)) rfl) (Zaf ?_))))⟩
  erw[rwl (show pre.length+([c],t).2.length=pre'.length+1 from e2.symm ..) ?_]
  exact Zel (ds:=ms) rfl rfl (by lia)
 | @rng lo hi tl th h1 h2 hle h93=>
  have hb1:x=pre++(tl++(45::(th++z::r))):=by erw[rwl (hb ..) ?_];simp
  obtain⟨pre',e1,e2,e3⟩:=Zrg (bar:=bar) (ms:=ms) (s5:=s5) h1 hb1 hl
  obtain⟨w,th',hth⟩:∃w th',th=w::th':=by
   rcases h2 with⟨rfl,_⟩ | ⟨rfl,_⟩
   ·exact⟨_,_,rfl⟩
   ·exact⟨_,_,rfl⟩
  have hw:w≠93:=λq=>h93 (by erw[rwl (hth ..) (rwl (q ..) ?_)];rfl)
  have e0:(pre'++[lo]).length=pre'.length+1:=by simp
  have hb2:x=(pre'++[lo])++45::(th++z::r):=by erw[rwl (e1 ..) ?_];simp
  have hb2':x=(pre'++[lo])++45::w::(th'++z::r):=by erw[rwl (hb2 ..) (rwl (hth ..) ?_)];simp
  have ez:ev ΓA (stC x (pre'.length+1) bar ms (.fz (.str [lo]))) (.idx (.var 0) (.var 1))=some (.str [45]):=by
   have:=ZfG (bar:=bar) (ms:=ms) (s5:=.fz (.str [lo])) hb2 hl
   rwa [e0] at this
  have ew:ev ΓA (stC x (pre'.length+1) bar ms (.fz (.str [lo]))) (.idx (.var 0) (.bin .add (.var 1) (.const (.int 1))))=some (.str [w]):=by
   have:=Ztr (bar:=bar) (ms:=ms) (s5:=.fz (.str [lo])) hb2' hl
   rwa [e0] at this
  have t2:tv ΓA (stC x (pre'.length+1) bar ms (.fz (.str [lo]))) (.tcmp .ne (.idx (.var 0) (.bin .add (.var 1) (.const (.int 1)))) (.const (.str [93])))=some true:=by
   refine Zaj ew (q:=.str [93]) rfl ?_
   show some (!([w]==[93]))=_
   rw[beq_eq_false_iff_ne.mpr (by simpa using hw)];rfl
  have hb3:x=(pre'++[lo,45])++(th++z::r):=by erw[rwl (e1 ..) ?_];simp
  have e4:(pre'++[lo,45]).length=pre'.length+2:=by simp
  obtain⟨pre2,f1,f2,f3⟩:=Zrg (bar:=bar) (ms:=ms) (s5:=.fz (.str [lo])) h2 hb3 hl
  rw[e4] at f2 f3
  have eh:=ZfG (bar:=bar) (ms:=ms) (s5:=.fz (.str [lo])) f1 hl
  have g1:ex ΓA fuel (.asg 4 (.bor (.cons (.var 4) (.cons (.cmp .lt (.idx (.var 0) (.var 1)) (.var 5)) .nil)))) (stC x pre2.length bar ms (.fz (.str [lo])))=some (.next,stC x pre2.length bar ms (.fz (.str [lo]))):=by
   refine Zaw (d:=.bool false) ?_
   show Zk6 _ _ _=_
   refine ZcJ (a:=false) rfl (λ_=>ZeS (ZhX (q:=.str [lo]) eh rfl ?_)) nofun
   show some (ltL [hi] [lo])=_
   rw[lt1,decide_eq_false (by lia)]
  have g2:ex ΓA fuel (.aug 5 .add (.bin .add (.const (.str [45])) (.idx (.var 0) (.var 1)))) (stC x pre2.length bar ms (.fz (.str [lo])))=some (.next,stC x pre2.length bar ms (.fz (.str [lo,45,hi]))):=
   ZcK (p:=.str [lo]) (q:=.str [45,hi]) rfl (ZaF (p:=.str [45]) (q:=.str [hi]) rfl eh rfl) rfl
  refine⟨.fz (.str [lo,45,hi]),Zaa e3 (Zaa (σ':=stC x pre'.length bar ms (.fz (.str [lo]))) (Zaw (ZfG e1 hl)) (Zaa Zhd (Zaa (x_t (ZaK (ZbV rfl ez rfl) (ZaK t2 rfl)) (Zaa Zhd (Zaa f3 (Zaa g1 (Zaa g2 (Zaf Zhd)))))) (Zaf ?_))))⟩
  have e5:pre.length+(([lo,45,hi]:List Nat),tl++45::th).2.length=pre2.length+1:=by simp;lia
  erw[rwl (e5 ..) ?_]
  exact Zel (ds:=ms) rfl rfl (by lia)
theorem ZuL{pre r:List Nat}{z:Nat}(hz:ms=[]∨z≠93)(hb:x=pre++z::r)(hl:x.length<=100000):tv ΓA (stC x pre.length bar ms s5) ZmJ=some true:=by
 cases ms with
 | nil=>exact ZeI (Zaj rfl rfl rfl)
 | cons m ms=>
  have hz:z≠93:=by rcases hz with h | h;cases h;exact h
  refine Zjc (Zaj (p:=.list (m::ms)) (q:=.list []) rfl rfl rfl) (ZeI (Zaj (ZfG hb hl) (q:=.str [93]) rfl ?_))
  show some (!([z]==[93]))=_
  rw[beq_eq_false_iff_ne.mpr (by simpa using hz)];rfl
theorem ZpZ{pre r:List Nat}(hm:ms≠[])(hb:x=pre++93::r)(hl:x.length<=100000):tv ΓA (stC x pre.length bar ms s5) ZmJ=some false:=by
 cases ms with
 | nil=>exact absurd rfl hm
 | cons m ms=>exact Zjc (Zaj (p:=.list (m::ms)) (q:=.list []) rfl rfl rfl) (Zjc (Zaj (ZfG hb hl) (q:=.str [93]) rfl rfl) rfl)
theorem Zn2{u:Zdz}(h:Un u):∃z t,u.2=z::t:=by
 have ct:∀{c t},CT c t->∃z t',t=z::t':=by
  intro c t h
  rcases h with⟨rfl,_⟩ | ⟨rfl,_⟩
  ·exact⟨_,_,rfl⟩
  ·exact⟨_,_,rfl⟩
 cases h with
 | one h=>exact ct h
 | rng h _ _ _=>
  obtain⟨z,t',rfl⟩:=ct h
  exact⟨z,_,rfl⟩
theorem ZlM(hl:x.length<=100000):∀(us:List Zdz) (pre r:List Nat) (ms:List D) (s5:Slot) (N:Nat),x=pre++(us.flatMap (·.2)++93::r)->(ms=[]->us≠[])->(∀u∈us,Un u)->(∀u∈us.tail,UnN u)->(ms≠[]->∀u∈us,UnN u)->ms.length+us.length<=100000->us.length < N->
  ∃t5,Zbj (λσ=>tv ΓA σ ZmJ) (ex ΓA fuel Zmo) N (stC x pre.length bar ms s5)=some (.next,stC x (pre.length+(us.flatMap (·.2)).length) bar (ms++us.map λu=>.str u.1) t5)
 | [],pre,r,ms,s5,N+1,hb,hne,_,_,_,_,_=>by
  refine⟨s5,?_⟩
  rw[ZcT (ZpZ (λq=>hne q rfl) (by simpa using hb) hl)]
  simp
 | u::us,pre,r,ms,s5,N+1,hb,hne,hU,hT,hM,hm,hN=>by
  simp at hm hN
  obtain⟨z,t,hz⟩:=Zn2 (hU u List.mem_cons_self)
  have hzn:ms=[]∨z≠93:=by
   by_cases q:ms=[]
   ·exact .inl q
   ·exact .inr λh=>(hM q u List.mem_cons_self).2.1 (by erw[rwl (hz ..) (rwl (h ..) ?_)];rfl)
  have hb1:x=pre++(u.2++(us.flatMap (·.2)++93::r)):=by erw[rwl (hb ..) ?_];simp
  obtain⟨y,r',hy,hy45⟩:∃y r',us.flatMap (·.2)++93::r=y::r'∧y≠45:=by
   cases us with
   | nil=>exact⟨93,r,rfl,by decide⟩
   | cons v us=>
    have hv:=hT v List.mem_cons_self
    obtain⟨a,b,hab⟩:=Zn2 hv.1
    exact⟨a,b++(us.flatMap (·.2)++93::r),by erw[rwl (List.flatMap_cons ..) (rwl (hab ..) ?_)];simp,λq=>hv.2.2 (by erw[rwl (hab ..) (rwl (q ..) ?_)];rfl)⟩
  have go:=ZuL (x:=x) (bar:=bar) (s5:=s5) hzn (show x=pre++z::(t++(us.flatMap (·.2)++93::r)) by erw[rwl (hb1 ..) (rwl (hz ..) ?_)];simp) hl
  obtain⟨t5,hs⟩:=Zqi (bar:=bar) (ms:=ms) (s5:=s5) (hU u List.mem_cons_self) hy45 (by erw[rwl (hb1 ..) (rwl (hy ..) ?_)]) hl (by lia)
  obtain⟨u5,ih⟩:=ZlM hl us (pre++u.2) r (ms++[.str u.1]) t5 N (by erw[rwl (hb1 ..) ?_];simp) (by simp) (λv hv=>hU v (List.mem_cons_of_mem _ hv)) (λv hv=>hT v (List.mem_of_mem_tail hv)) (λ_ v hv=>hT v hv) (by simp;lia) (by lia)
  rw[List.length_append] at ih
  refine⟨u5,ZiJ go hs (ih.trans ?_)⟩
  erw[rwl (List.flatMap_cons ..) (rwl (List.length_append ..) (rwl (List.map_cons ..) (rwl (Nat.add_assoc ..) ?_)))]
  simp
end
noncomputable def Zd4(bar:Bool):List Nat:=if bar then [94] else []
theorem ZnM{x pre r:List Nat}{bar:Bool}{us:List Zdz}(hne:us≠[])(hu:Zdv us)(h94:bar=false->(us.flatMap (·.2)).head?≠some 94)(hb:x=pre++(Zd4 bar++(us.flatMap (·.2)++93::r)))(hl:x.length<=100000)(hn:us.length<=900) :
  Znq [.str x,.int (pre.length:Int)]=some (.tuple [ZaU (bar,us.map (·.1)),.int ((pre.length+((Zd4 bar).length+((us.flatMap (·.2)).length+1)):Nat):Int),.bool false]):=by
 obtain⟨u,vs,rfl⟩:∃u vs,us=u::vs:=by
  cases us with
  | nil=>exact absurd rfl hne
  | cons u vs=>exact⟨u,vs,rfl⟩
 obtain⟨z,t,hz⟩:=Zn2 hu.1
 refine Zbc rfl ?_
 have hU:∀v∈u::vs,Un v:=λv hv=>by
  rcases List.mem_cons.mp hv with rfl | hv
  ·exact hu.1
  ·exact(hu.2 v hv).1
 have hb':x=(pre++Zd4 bar)++((u::vs).flatMap (·.2)++93::r):=by erw[rwl (hb ..) ?_];simp
 obtain⟨t5,hloop⟩:=ZlM (x:=x) (bar:=bar) hl (u::vs) (pre++Zd4 bar) r [] .un fuel hb' (λ_=>by simp) hU hu.2 (λq=>absurd rfl q) (by simp at hn ⊢;lia) (by simp[fuel] at hn ⊢;lia)
 rw[List.length_append,List.nil_append] at hloop
 have s0:ex ΓA fuel (.asg 2 (.cmp .eq (.idx (.var 0) (.var 1)) (.const (.str [94])))) (ZeV 6 [.str x,.int (pre.length:Int)])=some (.next,[.fz (.str x),.fz (.int (pre.length:Int)),.fz (.bool bar),.un,.un,.un]):=by
  have hc:∃c r',x=pre++c::r'∧(c==94)=bar:=by
   cases bar with
   | true=>exact⟨94,_,hb,rfl⟩
   | false=>
    refine⟨z,t++(vs.flatMap (·.2)++93::r),by erw[rwl (hb ..) (rwl (List.flatMap_cons ..) (rwl (hz ..) ?_))];simp[Zd4],?_⟩
    have:=h94 rfl
    rw[List.flatMap_cons,hz] at this
    simpa using this
  obtain⟨c,r',h1,h2⟩:=hc
  have hlen:x.length=pre.length+(r'.length+1):=by erw[rwl (h1 ..) ?_];simp
  refine Zaw (ZhX (p:=.str [c]) (q:=.str [94]) (ZaL (p:=.str x) (q:=.int (pre.length:Int)) rfl rfl (ZaV (by erw[rwl (h1 ..) ?_];exact ZbB pre _ 0) (by lia))) rfl ?_)
  show some ([c]==[94])=some bar
  erw[rwr (h2 ..) ?_]
  cases hh:(c==94)<;>simp_all
 have s1:ex ΓA fuel (.ifs (.tval (.var 2)) (.seq (.aug 1 .add (.const (.int 1))) .skip) .skip) [.fz (.str x),.fz (.int (pre.length:Int)),.fz (.bool bar),.un,.un,.un]=some (.next,[.fz (.str x),.fz (.int ((pre.length+(Zd4 bar).length:Nat):Int)),.fz (.bool bar),.un,.un,.un]):=by
  cases bar with
  | true=>exact x_t rfl (Zaf (ZcK (p:=.int (pre.length:Int)) (q:=.int 1) rfl rfl rfl))
  | false=>exact x_f rfl rfl
 refine⟨_,Zaa s0 (Zaa s1 (Zaa (σ':=[.fz (.str x),.fz (.int ((pre.length+(Zd4 bar).length:Nat):Int)),.fz (.bool bar),.own [],.un,.un]) rfl (Zaa (σ':=stC x (pre.length+(Zd4 bar).length) bar [] .un) rfl (Zaa hloop (Za6 (ZbF ?_))))))⟩
 show some (D.tuple [D.tuple [.bool bar,.list ((u::vs).map λu=>.str u.1)],.int (((pre.length+(Zd4 bar).length+((u::vs).flatMap (·.2)).length:Nat):Int)+1),.bool false])=_
 have e1:(((pre.length+(Zd4 bar).length+((u::vs).flatMap (·.2)).length:Nat):Int)+1)=((pre.length+((Zd4 bar).length+(((u::vs).flatMap (·.2)).length+1)):Nat):Int):=by lia
 erw[rwl (e1 ..) ?_]
 unfold ZaU
 erw[rwl (List.map_map ..) ?_]
 rfl
end
section
noncomputable def sg(c:Nat):Zdz:=([c],eC c)
noncomputable def ZaB(p:Pz):List Zdz:=p.1.map sg++p.2.flatMap λt=>([t.1,45,t.2.1],eC t.1++45::eC t.2.1)::t.2.2.map sg
noncomputable def ZfJ(p:Pz):List Nat:=p.1++p.2.flatMap λt=>t.1::t.2.1::t.2.2
noncomputable def Zrb(p:Pz):Prop:=∀t∈p.2,t.1<=t.2.1
theorem ZdW(c:Nat):eC c=[c]∧c≠92∧c≠45∨eC c=[92,c]∧Zg3 c=false∧c≠33∧c≠94∧c≠91∧c≠93:=by
 unfold eC
 by_cases h1:c=92
 ·subst h1;exact .inr (by decide)
 ·erw[rwl (if_neg h1 ..) ?_]
  by_cases h2:c=45
  ·subst h2;exact .inr (by decide)
  ·erw[rwl (if_neg h2 ..) ?_]
   by_cases h3:c=38∨c=126∨c=124
   ·erw[rwl (if_pos h3 ..) ?_]
    rcases h3 with rfl | rfl | rfl<;>exact .inr (by decide)
   ·erw[rwl (if_neg h3 ..) ?_]
    exact .inl ⟨rfl,h1,h2⟩
theorem Znb(c:Nat):CT c (eC c):=by
 rcases ZdW c with⟨h,h1,_⟩ | ⟨h,h1,_⟩
 ·exact .inl ⟨h,h1⟩
 ·exact .inr ⟨h,h1⟩
theorem Ztv(c:Nat)(l:List Nat):(eC c++l).head?≠some 45:=by
 rcases ZdW c with⟨h,_,h1⟩ | ⟨h,_⟩
 ·erw[rwl (h ..) ?_];simpa using h1
 ·erw[rwl (h ..) ?_];simp
theorem Ztm{c:Nat}(hc:c≠93)(l:List Nat):(eC c++l).head?≠some 93:=by
 rcases ZdW c with⟨h,_⟩ | ⟨h,_⟩
 ·erw[rwl (h ..) ?_];simpa using hc
 ·erw[rwl (h ..) ?_];simp
theorem ZoW{c:Nat}(hc:c≠93):(eC c).head?≠some 93:=by
 have:=Ztm hc []
 rwa [List.append_nil] at this
theorem Ztx(c:Nat):Un (sg c):=.one (Znb c)
theorem ZuH{c:Nat}(hc:c≠93):UnN (sg c):=⟨Ztx c,ZoW hc,by have:=Ztv c [];rwa [List.append_nil] at this⟩
theorem ZlA{lo hi:Nat}{tl:List Nat}(h1:CT lo tl)(h:lo<=hi)(hh:hi≠93):Un ([lo,45,hi],tl++45::eC hi):=.rng h1 (Znb hi) h (ZoW hh)
theorem Zlt:∀{p:Pz},(∀c∈ZfJ p,c≠93)->Zrb p->∀u∈ZaB p,UnN u:=by
 intro p hf hr u hu
 rcases List.mem_append.mp hu with hu | hu
 ·obtain⟨c,hc,rfl⟩:=List.mem_map.mp hu
  exact ZuH (hf c (List.mem_append_left _ hc))
 ·obtain⟨t,ht,hu⟩:=List.mem_flatMap.mp hu
  have hin:∀c∈t.1::t.2.1::t.2.2,c≠93:=λc hc=>hf c (List.mem_append_right _ (List.mem_flatMap.mpr ⟨t,ht,hc⟩))
  rcases List.mem_cons.mp hu with rfl | hu
  ·exact⟨ZlA (Znb _) (hr t ht) (hin _ (by simp)),Ztm (hin _ (by simp)) _,Ztv _ _⟩
  ·obtain⟨c,hc,rfl⟩:=List.mem_map.mp hu
   exact ZuH (hin c (by simp[hc]))
theorem Zkb(c:Nat)(d:List Nat)(rs:List (Nat×Nat×List Nat)):ZaB (c::d,rs)=sg c::ZaB (d,rs):=rfl
theorem Zfd(lo hi:Nat)(e:List Nat)(rs:List (Nat×Nat×List Nat)):ZaB ([],(lo,hi,e)::rs)=([lo,45,hi],eC lo++45::eC hi)::ZaB (e,rs):=by
 simp[ZaB]
theorem Zgs(lo hi:Nat)(e:List Nat)(rs:List (Nat×Nat×List Nat)):ZfJ ([],(lo,hi,e)::rs)=lo::hi::ZfJ (e,rs):=by
 simp[ZfJ]
theorem ZjT{p:Pz}(hf:∀c∈(ZfJ p).tail,c≠93)(hr:Zrb p):Zdv (ZaB p):=by
 obtain⟨d,rs⟩:=p
 cases d with
 | cons c d=>exact⟨Ztx c,Zlt (p:=(d,rs)) hf hr⟩
 | nil=>
  cases rs with
  | nil=>trivial
  | cons t rs=>
   obtain⟨lo,hi,e⟩:=t
   rw[Zgs] at hf
   erw[rwl (Zfd ..) ?_]
   exact⟨ZlA (Znb _) (hr (lo,hi,e) (by simp)) (hf hi (by simp)),Zlt (p:=(e,rs)) (λc hc=>hf c (by simp[hc])) λt ht=>hr t (by simp[ht])⟩
theorem ZhO(p:Pz):Zrw p=(ZaB p).map (·.1):=by
 unfold Zrw ZaB
 erw[rwl (List.map_append ..) (rwl (List.map_map ..) (rwl (List.map_flatMap ..) ?_))]
 congr 1
 ·congr 1
  funext t
  erw[rwl (List.map_cons ..) (rwl (List.map_map ..) ?_)]
  rfl
theorem Zhk(p:Pz):Zh6 p=(ZaB p).flatMap (·.2):=by
 unfold Zh6 ZaB
 erw[rwl (List.flatMap_append ..) (rwl (List.flatMap_map ..) (rwl (List.flatMap_assoc ..) ?_))]
 congr 1
 ·congr 1
  funext t
  erw[rwl (List.flatMap_cons ..) (rwl (List.flatMap_map ..) ?_)]
  show eC t.1++[45]++eC t.2.1++t.2.2.flatMap eC=(eC t.1++45::eC t.2.1)++_
  simp[sg]
theorem ZlK:∀(rs:List (Nat×Nat×List Nat)),∀t∈(rmR rs).2,t.1<=t.2.1
 | [],t,h=>by simp[ZtP,Zry] at h
 | (lo,hi,d)::rs,t,h=>by
  rw[ZgH] at h
  split at h
  ·exact ZlK rs t h
  ·rcases List.mem_cons.mp h with rfl | h
   ·show lo<=hi
    lia
   ·exact ZlK rs t h
theorem Zue(p:Pz):Zrb (rm p):=ZlK p.2
theorem Zjm:∀(rs:List (Nat×Nat×List Nat)),((rmR rs).1++(rmR rs).2.flatMap λt=>t.1::t.2.1::t.2.2).Sublist (rs.flatMap λt=>t.1::t.2.1::t.2.2)
 | []=>by simp[ZtP,Zry]
 | (lo,hi,d)::rs=>by
  have ih:=Zjm rs
  erw[rwl (ZgH ..) (rwl (List.flatMap_cons ..) ?_)]
  split
  ·show(d++(rmR rs).1++_).Sublist (lo::hi::d++_)
   erw[rwl (List.append_assoc ..) ?_]
   exact((List.Sublist.append (List.Sublist.refl d) ih).cons hi).cons lo
  ·show([]++List.flatMap _ ((lo,hi,d++(rmR rs).1)::(rmR rs).2)).Sublist (lo::hi::d++_)
   erw[rwl (List.nil_append ..) (rwl (List.flatMap_cons ..) ?_)]
   show(lo::hi::(d++(rmR rs).1)++_).Sublist (lo::hi::d++_)
   erw[rwl (List.cons_append ..) (rwl (List.cons_append ..) (rwl (List.append_assoc ..) ?_))]
   exact((List.Sublist.append (List.Sublist.refl d) ih).cons_cons hi).cons_cons lo
theorem Zrk(p:Pz):(ZfJ (rm p)).Sublist (ZfJ p):=by
 unfold ZfJ rm
 erw[rwl (List.append_assoc ..) ?_]
 exact List.Sublist.append (List.Sublist.refl _) (Zjm p.2)
theorem ZjZ(b:List Nat):(ZfJ (Zao b)).Sublist b:=by
 induction b using Zao.induct with
 | case1 a x r ih=>
  erw[rwl (Zjl ..) (rwl (if_pos rfl ..) (rwl (Zgs ..) ?_))]
  exact((ih.cons_cons x).cons 45).cons_cons a
 | case2 a c x r hc ih=>
  erw[rwl (Zjl ..) (rwl (if_neg hc ..) ?_)]
  exact ih.cons_cons a
 | case3 a c=>exact List.Sublist.refl _
 | case4 a=>exact List.Sublist.refl _
 | case5=>exact List.Sublist.refl _
inductive ItT:Item×List Nat->Prop
 | any:ItT ((true,[]),[46])
 | none:ItT ((false,[]),[40,63,33,41])
 | esc {c:Nat}:Zg3 c=false->ItT ((false,[[c]]),[92,c])
 | lit {c:Nat}:c ∉ specials->ItT ((false,[[c]]),[c])
 | set {bar:Bool} {us:List Zdz}:us≠[]->Zdv us->(bar=false->(us.flatMap (·.2)).head?≠some 94)->us.length<=900->ItT ((bar,us.map (·.1)),91::(Zd4 bar++(us.flatMap (·.2)++[93])))
set_option tactic.hygienic true in
theorem Zg4{c:Nat}{t:List Nat}{r:List (List Nat)}(h:c≠33):ZbD false ((c::t)::r)=(false,(c::t)::r):=by
 unfold ZbD
 split
 ·rename_i e;cases e;exact absurd rfl h
 ·rfl
theorem ZfR{t:List Nat}{r:List (List Nat)}:ZbD false ((33::t)::r)=(true,t.map (λc=>[c])++r):=rfl
theorem Zek{c d:Nat}{t:List Nat}:ZaN (c::d::t)=91::Zp5 (c::d::t)++[93]:=by
 unfold ZaN
 rw[if_neg (by simp),if_neg (by simp)]
theorem ZdZ{c:Nat}{t:List Nat}(h:c≠33):ZaN (c::t)=91::Zp5 (c::t)++[93]:=by
 unfold ZaN
 rw[if_neg (by simp),if_neg (by simp;intro q;exact absurd q h)]
theorem ZlG:∀{us:List Zdz},(∀u∈us,Un u)->us.length<=(us.flatMap (·.2)).length
 | [],_=>by simp
 | u::us,h=>by
  have ih:=ZlG λv hv=>h v (List.mem_cons_of_mem u hv)
  obtain⟨z,t,hz⟩:=Zn2 (h u List.mem_cons_self)
  erw[rwl (List.flatMap_cons ..) (rwl (List.length_append ..) (rwl (hz ..) (rwl (List.length_cons ..) (rwl (List.length_cons ..) ?_))))]
  lia
theorem Zts{us:List Zdz}(h:Zdv us):∀u∈us,Un u:=by
 cases us with
 | nil=>simp
 | cons u us=>
  intro v hv
  rcases List.mem_cons.mp hv with rfl | hv
  ·exact h.1
  ·exact(h.2 v hv).1
theorem Zu6{us:List Zdz}(h:∀u∈us,UnN u):Zdv us:=by
 cases us with
 | nil=>trivial
 | cons u us=>exact⟨(h u List.mem_cons_self).1,λv hv=>h v (List.mem_cons_of_mem _ hv)⟩
theorem Zdu{bar:Bool}{us:List Zdz}{w:List Nat}(hne:us≠[])(hu:Zdv us)(h94:bar=false->(us.flatMap (·.2)).head?≠some 94)(hw:w=91::(Zd4 bar++us.flatMap (·.2))++[93])(hl:w.length<=900):ItT ((bar,us.map (·.1)),w):=by
 have hn:=ZlG (Zts hu)
 have:w=91::(Zd4 bar++(us.flatMap (·.2)++[93])):=by erw[rwl (hw ..) ?_];simp
 rw[this] at hl ⊢
 refine .set hne hu h94 ?_
 simp at hl hn ⊢
 lia
theorem Zhz{p:Pz}(h:(ZaB p).flatMap (·.2)=[])(hu:Zdv (ZaB p)):ZaB p=[]:=by
 have:=ZlG (Zts hu)
 rw[h] at this
 exact List.eq_nil_of_length_eq_zero (by simpa using this)
theorem Zsl{b:List Nat}(h:∀c∈(if b.head?==some 33 then b.tail else b).tail,c≠93)(hl:b.length<=40):ItT (Zh5 b,ZaN (Zbb b)):=by
 have hsl:=Zfr b
 have htl:=Zgf (Zbb b)
 have hwl:(ZaN (Zbb b)).length<=900:=by lia
 clear hsl htl
 unfold Zh5 Zbb at *
 generalize hb':(if(b.head?==some 33)=true then b.tail else b)=b' at *
 erw[rwl (ZbJ ..) ?_]
 have hf:∀c∈(ZfJ (rm (Zao b'))).tail,c≠93:=λc hc=>h c ((((Zrk _).trans (ZjZ b')).tail).subset hc)
 have hr:=Zue (Zao b')
 cases h33:(b.head?==some 33) with
 | true=>
  rw[h33] at hb' hwl
  rw[if_pos rfl] at hb' hwl ⊢
  rw[hb'] at hwl ⊢
  generalize rm (Zao b')=P at *
  have hu:=ZjT hf hr
  erw[rwl (Ze9 ..) (rwl (ZhO ..) ?_)]
  rw[Zhk] at hwl ⊢
  cases ht:(ZaB P).flatMap (·.2) with
  | nil=>
   have:=Zhz ht hu
   erw[rwl (this ..) ?_]
   exact .any
  | cons c t=>
   rw[ht] at hwl
   refine Zdu ?_ hu nofun ?_ hwl
   ·intro q;rw[q] at ht;cases ht
   ·erw[rwl (Zek ..) (rwl (ZaZ ..) (rwl (if_pos rfl ..) (rwl (ht ..) ?_)))];rfl
 | false=>
  rw[h33] at hb' hwl
  rw[if_neg nofun] at hb' hwl ⊢
  rw[hb'] at hwl ⊢
  generalize rm (Zao b')=P at *
  have hu:=ZjT hf hr
  erw[rwl (ZhO ..) ?_]
  rw[Zhk] at hwl ⊢
  obtain⟨d,rs⟩:=P
  cases d with
  | cons c d=>
   rw[Zkb] at hu hwl ⊢
   erw[rwl (List.map_cons ..) (rwl (List.flatMap_cons ..) ?_)]
   rw[List.flatMap_cons] at hwl
   have hn:∀u∈ZaB (d,rs),UnN u:=hu.2
   by_cases hc:c=33
   ·subst hc
    have e33:(sg 33).2=[33]:=rfl
    rw[e33] at hwl ⊢
    show ItT (ZbD false ([33]::_),_)
    erw[rwl (ZfR ..) ?_]
    cases ht:(ZaB (d,rs)).flatMap (·.2) with
    | nil=>
     have:=Zhz ht (Zu6 hn)
     erw[rwl (this ..) ?_]
     exact .any
    | cons e t=>
     rw[ht] at hwl
     refine Zdu (us:=ZaB (d,rs)) ?_ (Zu6 hn) nofun ?_ hwl
     ·intro q;rw[q] at ht;cases ht
     ·show ZaN (33::e::t)=_
      erw[rwl (Zek ..) (rwl (ZaZ ..) (rwl (if_pos rfl ..) (rwl (ht ..) ?_)))];rfl
   ·show ItT (ZbD false ([c]::_),_)
    erw[rwl (Zg4 hc ..) ?_]
    by_cases h2:c=94∨c=91
    ·have ec:(sg c).2=[c]:=by rcases h2 with rfl | rfl<;>rfl
     rw[ec] at hwl ⊢
     have ew:ZaN ([c]++(ZaB (d,rs)).flatMap (·.2))=91::(92::c::(ZaB (d,rs)).flatMap (·.2))++[93]:=by
      show ZaN (c::_)=_
      erw[rwl (ZdZ hc ..) (rwl (ZaZ ..) (rwl (if_neg hc ..) (rwl (if_pos h2 ..) ?_)))]
      rfl
     exact Zdu (bar:=false) (us:=([c],[92,c])::ZaB (d,rs)) (by simp) ⟨.one (.inr ⟨rfl,by rcases h2 with rfl | rfl<;>decide⟩),hn⟩ (λ_=>by simp) (by erw[rwl (ew ..) ?_];simp[Zd4]) hwl
    ·have ew:∃z t,(sg c).2=z::t∧z≠33∧z≠94∧z≠91:=by
      rcases ZdW c with⟨q,_⟩ | ⟨q,_⟩
      ·exact⟨c,[],q,hc,λw=>h2 (.inl w),λw=>h2 (.inr w)⟩
      ·exact⟨92,[c],q,by decide,by decide,by decide⟩
     obtain⟨z,t,hz,z1,z2,z3⟩:=ew
     have e2:ZaN ((sg c).2++(ZaB (d,rs)).flatMap (·.2))=91::((sg c).2++(ZaB (d,rs)).flatMap (·.2))++[93]:=by
      erw[rwl (hz ..) ?_]
      show ZaN (z::(t++_))=_
      rw[ZdZ z1,ZaZ,if_neg z1,if_neg (by rintro(q | q);exact z2 q;exact z3 q)]
      rfl
     exact Zdu (bar:=false) (us:=sg c::ZaB (d,rs)) (by simp) hu (λ_=>by erw[rwl (List.flatMap_cons ..) (rwl (hz ..) ?_)];simpa using z2) (by erw[rwl (e2 ..) ?_];simp[Zd4]) hwl
  | nil=>
   cases rs with
   | nil=>exact .none
   | cons t rs=>
    obtain⟨lo,hi,e⟩:=t
    rw[Zgs] at hf
    have hn:∀u∈ZaB (e,rs),UnN u:=by rw[Zfd] at hu;exact hu.2
    have hhi:hi≠93:=hf hi (by simp)
    have hle:lo<=hi:=hr (lo,hi,e) (by simp)
    rw[Zfd] at hu hwl ⊢
    erw[rwl (List.map_cons ..) (rwl (List.flatMap_cons ..) ?_)]
    rw[List.flatMap_cons] at hwl
    by_cases hc:lo=33
    ·subst hc
     show ItT (ZbD false ([33,45,hi]::_),_)
     erw[rwl (ZfR ..) ?_]
     have e33:eC 33=[33]:=rfl
     have ew:ZaN ((eC 33++45::eC hi)++(ZaB (e,rs)).flatMap (·.2))=91::(94::45::(eC hi++(ZaB (e,rs)).flatMap (·.2)))++[93]:=by
      erw[rwl (e33 ..) ?_]
      show ZaN (33::45::_)=_
      erw[rwl (Zek ..) (rwl (ZaZ ..) (rwl (if_pos rfl ..) ?_))]
      rfl
     exact Zdu (bar:=true) (us:=([45],[45])::sg hi::ZaB (e,rs)) (by simp) ⟨.one (.inl ⟨rfl,by decide⟩),λv hv=>by
      rcases List.mem_cons.mp hv with rfl | hv
      ·exact ZuH hhi
      ·exact hn v hv⟩ nofun (by erw[rwl (ew ..) ?_];simp[Zd4,sg]) hwl
    ·show ItT (ZbD false ([lo,45,hi]::_),_)
     erw[rwl (Zg4 hc ..) ?_]
     by_cases h2:lo=94∨lo=91
     ·have ec:eC lo=[lo]:=by rcases h2 with rfl | rfl<;>rfl
      have ew:ZaN ((eC lo++45::eC hi)++(ZaB (e,rs)).flatMap (·.2))=91::(92::lo::45::(eC hi++(ZaB (e,rs)).flatMap (·.2)))++[93]:=by
       erw[rwl (ec ..) ?_]
       show ZaN (lo::_)=_
       erw[rwl (ZdZ hc ..) (rwl (ZaZ ..) (rwl (if_neg hc ..) (rwl (if_pos h2 ..) ?_)))]
       rfl
      exact Zdu (bar:=false) (us:=([lo,45,hi],[92,lo]++45::eC hi)::ZaB (e,rs)) (by simp) ⟨ZlA (.inr ⟨rfl,by rcases h2 with rfl | rfl<;>decide⟩) hle hhi,hn⟩ (λ_=>by simp) (by erw[rwl (ew ..) ?_];simp[Zd4]) hwl
     ·have ew:∃z t,eC lo=z::t∧z≠33∧z≠94∧z≠91:=by
       rcases ZdW lo with⟨q,_⟩ | ⟨q,_⟩
       ·exact⟨lo,[],q,hc,λw=>h2 (.inl w),λw=>h2 (.inr w)⟩
       ·exact⟨92,[lo],q,by decide,by decide,by decide⟩
      obtain⟨z,t,hz,z1,z2,z3⟩:=ew
      have e2:ZaN ((eC lo++45::eC hi)++(ZaB (e,rs)).flatMap (·.2))=91::((eC lo++45::eC hi)++(ZaB (e,rs)).flatMap (·.2))++[93]:=by
       erw[rwl (hz ..) ?_]
       show ZaN (z::(t++45::eC hi++_))=_
       rw[ZdZ z1,ZaZ,if_neg z1,if_neg (by rintro(q | q);exact z2 q;exact z3 q)]
       rfl
      exact Zdu (bar:=false) (us:=([lo,45,hi],eC lo++45::eC hi)::ZaB (e,rs)) (by simp) hu (λ_=>by erw[rwl (List.flatMap_cons ..) (rwl (hz ..) ?_)];simpa using z2) (by erw[rwl (e2 ..) ?_];simp[Zd4]) hwl
set_option tactic.hygienic true in
theorem Zqb(c:Nat):ItT ((false,[[c]]),Ze6 c):=by
 unfold Ze6
 split
 ·rename_i h
  refine .esc ?_
  have:∀c∈specials,Zg3 c=false:=by decide
  exact this c h
 ·rename_i h
  exact .lit h
set_option tactic.hygienic true in
theorem Zud{p:List Nat}:p.length<=40->∀x,some x∈ipL p->ItT x:=by
 refine ZgL (P:=λp=>p.length<=40->∀x,some x∈ipL p->ItT x) (λ_ x hx=>absurd hx List.not_mem_nil) (λr ih hl x hx=>?_) (λr ih hl x hx=>?_) (λr k hk ih hl x hx=>?_) (λc r h1 h2 h3 ih hl x hx=>?_) p.length p (Nat.le_refl _)
 ·exact(List.mem_cons.mp (show some x∈none::ipL r from hx)).elim (λe=>nn e.symm) (ih (Nat.le_of_succ_le hl) x)
 ·exact(List.mem_cons.mp (show some x∈some ((true,[]),[46])::ipL r from hx)).elim (λe=>Option.some.inj e▸.any) (ih (Nat.le_of_succ_le hl) x)
 ·rw[Zk7 hk] at hx
  have hl':r.length < 40:=hl
  refine(List.mem_cons.mp hx).elim (λe=>Option.some.inj e▸Zsl ?_ (Nat.le_trans (List.length_take_le' ..) (by lia))) (ih (Nat.le_trans (Zd6 ..) (Nat.le_of_succ_le hl)) x)
  obtain⟨k1,k2,k3⟩:=ZaT hk
  have hcl:1<=clS r:=by unfold clS;split<;>decide
  have hh:((r.take k).head?==some 33)=(r.head?==some 33):=by
   cases r with
   | nil=>simp
   | cons a r=>
    match k,k1 with
    | k+1,_=>rfl
    | 0,k1=>exact absurd (Nat.le_trans hcl k1) (Nat.not_succ_le_zero 0)
  have he:(if((r.take k).head?==some 33)=true then(r.take k).tail else r.take k).tail=(r.take k).drop (clS r):=by
   erw[rwl (hh ..) ?_]
   unfold clS
   split
   ·erw[rwr (List.drop_one ..) (rwr (List.drop_one ..) (rwl (List.drop_drop ..) ?_))]
   ·erw[rwr (List.drop_one ..) ?_]
  intro c hc
  rw[he] at hc
  obtain⟨i,hi⟩:=List.getElem?_of_mem hc
  rw[List.getElem?_drop,List.getElem?_take] at hi
  split at hi
  ·rename_i hik
   intro q
   exact k3 (clS r+i) (by lia) hik (by erw[rwl (hi ..) (rwl (q ..) ?_)])
  ·cases hi
 ·rw[Zjv h1 h2 h3] at hx
  exact(List.mem_cons.mp hx).elim (λe=>Option.some.inj e▸Zqb c) (ih (Nat.le_of_succ_le hl) x)
end
section
noncomputable def Zet:X:=match Zdt with
 | .seq _ (.seq _ (.seq _ (.seq _ (.seq (.whl t _) _))))=>t
 | _=>.nil
noncomputable def Zev:S:=match Zdt with
 | .seq _ (.seq _ (.seq _ (.seq _ (.seq (.whl _ b) _))))=>b
 | _=>.skip
noncomputable def ZtD:S:=match Zev with
 | .seq _ (.seq _ b)=>b
 | _=>.skip
theorem gB9:ΓB 9=ZrI:=rfl
theorem ZvH:ΓB 10=Znq:=rfl
noncomputable def ZhR(R:List (List Item)):List (List D):=R.map (·.map ZaU)
noncomputable def stD(x:List Nat)(R:List (List Item))(ins:Bool)(i:Nat)(s5 s6 s7:Slot):Sg:=[.fz (.str x),.own2 (ZhR R),.fz (.bool true),.fz (.bool ins),.fz (.int (i:Int)),s5,s6,s7]
noncomputable def Go(L:Nat)(σ:Sg)(P:Option (Fl×Sg)->Prop):Prop:=∀N,L < N->P (Zbj (λσ=>tv ΓB σ Zet) (ex ΓB fuel Zev) N σ)
theorem Zgm{L L':Nat}{σ σ':Sg}{P:Option (Fl×Sg)->Prop}(ht:tv ΓB σ Zet=some true)(hb:ex ΓB fuel Zev σ=some (.next,σ'))(k:Go L' σ' P)(hL:L' < L):Go L σ P:=by
 intro N hN
 match N,hN with
 | N+1,hN=>
  erw[rwl (ZiJ ht hb rfl ..) ?_]
  exact k N (by lia)
theorem Zph{L:Nat}{σ:Sg}{P:Option (Fl×Sg)->Prop}(ht:tv ΓB σ Zet=some false)(h:P (some (.next,σ))):Go L σ P:=by
 intro N hN
 match N,hN with
 | N+1,hN=>
  erw[rwl (ZcT ht ..) ?_]
  exact h
theorem c_f{Γ:ZaC}{N:Nat}{σ σ':Sg}{t:X}{a b:S}(h:tv Γ σ t=some false)(k:ex Γ N b σ=some (.next,σ')):ex Γ N (.seq (.ifs t a b) .skip) σ=some (.next,σ'):=Zaf (x_f h k)
theorem c_t{Γ:ZaC}{N:Nat}{σ σ':Sg}{t:X}{a b:S}(h:tv Γ σ t=some true)(k:ex Γ N a σ=some (.next,σ')):ex Γ N (.seq (.ifs t a b) .skip) σ=some (.next,σ'):=Zaf (x_t h k)
section
variable {x:List Nat}{R:List (List Item)}{cur:List Item}{ins:Bool}{s5 s6 s7:Slot}
theorem Zj5{i:Nat}:tv ΓB (stD x R ins i s5 s6 s7) Zet=some (decide (i+3 < x.length)):=by
 refine(lt_int (a:=(i:Int)) (b:=(x.length:Int) - 3) rfl rfl).trans ?_
 congr 1
 erw[rwl (propext (Bool.eq_iff_iff ..)) ?_];simp only[decide_eq_true_eq];lia
theorem ZhP{y:X}{it:Item}{i:Nat}(h:ev ΓB (stD x (R++[cur]) ins i s5 s6 s7) y=some (ZaU it))(hR:R.length<=100000)(hc:cur.length<=100000) :
  ex ΓB fuel (.lst2 1 y) (stD x (R++[cur]) ins i s5 s6 s7)=some (.next,stD x (R++[cur++[it]]) ins i s5 s6 s7):=by
 have e1:Zdk (stD x (R++[cur]) ins i s5 s6 s7) 1=some (ZhR (R++[cur])):=rfl
 have e2:(ZhR (R++[cur])).getLast? = some (cur.map ZaU):=by unfold ZhR;simp
 have e3:(ZhR (R++[cur])).dropLast++[cur.map ZaU++[ZaU it]]=ZhR (R++[cur++[it]]):=by unfold ZhR;simp
 show(Zdk (stD x (R++[cur]) ins i s5 s6 s7) 1).bind _=_
 refine Zag e1 (Zag h (Zag e2 ?_))
 erw[rwl (e3 ..) ?_]
 refine if_pos ⟨?_,?_⟩
 ·unfold ZhR;simp;lia
 ·unfold ZhR;simp;lia
theorem ZoJ{i:Nat}(hR:R.length<=100000):ex ΓB fuel (.new2 1) (stD x R ins i s5 s6 s7)=some (.next,stD x (R++[[]]) ins i s5 s6 s7):=by
 have e1:Zdk (stD x R ins i s5 s6 s7) 1=some (ZhR R):=rfl
 have e3:ZhR R++[[]]=ZhR (R++[[]]):=by unfold ZhR;simp
 show(Zdk (stD x R ins i s5 s6 s7) 1).bind _=_
 refine Zag e1 ?_
 erw[rwl (e3 ..) ?_]
 refine if_pos ⟨?_,?_⟩
 ·unfold ZhR;simp;lia
 ·unfold ZhR;simp
theorem Zme{q r:List Nat}{n:Nat}(hb:x=q++r):ev ΓB (stD x R ins q.length s5 s6 s7) (.slc (.var 0) (.var 4) (.bin .add (.var 4) (.const (.int (n:Int)))))=some (.str (r.take n)):=by
 refine Zco (p:=.str x) (q:=.int (q.length:Int)) (r:=.int ((q.length+n:Nat):Int)) rfl rfl rfl ?_
 show some (D.str (slice x _ _))=_
 have:=ZbR q r 0 n
 rw[Nat.add_zero,List.drop_zero] at this
 erw[rwl (hb ..) (rwl (this ..) ?_)]
theorem Zoc{q r:List Nat}{c:Nat}(hb:x=q++c::r)(hl:x.length<=100000):ev ΓB (stD x R ins q.length s5 s6 s7) (.idx (.var 0) (.var 4))=some (.str [c]):=by
 have hlen:x.length=q.length+(r.length+1):=by erw[rwl (hb ..) ?_];simp
 exact ZaL (p:=.str x) (q:=.int (q.length:Int)) rfl rfl (ZaV (by erw[rwl (hb ..) ?_];exact ZbB q _ 0) (by lia))
theorem Zer{pre r:List Nat}{c:Nat}(hb:x=pre++c::r)(hl:x.length<=100000){o:Option (Fl×Sg)}(k:ex ΓB fuel ZtD (stD x R ins (pre++[c]).length (.fz (.str [c])) s6 s7)=o) :
  ex ΓB fuel Zev (stD x R ins pre.length s5 s6 s7)=o:=by
 have e:(pre++[c]).length=pre.length+1:=by simp
 rw[e] at k
 exact Zaa (σ':=stD x R ins pre.length (.fz (.str [c])) s6 s7) (Zaw (Zoc hb hl)) (Zaa (σ':=stD x R ins (pre.length+1) (.fz (.str [c])) s6 s7) (ZcK (p:=.int (pre.length:Int)) (q:=.int 1) rfl rfl rfl) k)
theorem ZrT{Γ:ZaC}{σ:Sg}{y:X}{c:Nat}(h:ev Γ σ y=some (.str [c])):ev Γ σ (.tuple (.cons (.const (.bool false)) (.cons (.list (.cons y .nil)) .nil)))=some (ZaU (false,[[c]])):=ZiL (ds:=[.bool false,.list [.str [c]]]) (ZaP rfl (Zb8 (ZnD (Zb8 h) (Nat.le_of_ble_eq_true rfl)))) (Nat.le_of_ble_eq_true rfl)
theorem Zps{u:Item×List Nat}(hu:ItT u){pre post:List Nat}{z:Nat}(hz:z≠42)(hb:x=pre++(u.2++z::post))(hl:x.length<=100000)(hR:R.length<=100000)(hc:cur.length<=100000) :
  ∃t5 t6 t7,ex ΓB fuel Zev (stD x (R++[cur]) ins pre.length s5 s6 s7)=some (.next,stD x (R++[cur++[u.1]]) ins (pre.length+u.2.length) t5 t6 t7):=by
 cases hu with
 | any=>
  have hb1:x=pre++46::(z::post):=hb
  have hb2:x=(pre++[46])++z::post:=by erw[rwl (hb1 ..) ?_];simp
  have e:pre.length+([46]:List Nat).length=(pre++[46]).length:=by simp
  refine⟨.fz (.str [46]),s6,s7,Zer hb1 hl ?_⟩
  show _=some (Fl.next,stD x (R++[cur++[(true,[])]]) ins (pre.length+([46]:List Nat).length) (.fz (.str [46])) s6 s7)
  erw[rwl (e ..) ?_]
  refine c_f (Zav (ZaH (by decide) rfl rfl)) ?_
  refine c_f (Zav (ZaH (by decide) rfl rfl)) ?_
  refine c_f (ZaK (ZbV rfl rfl rfl) (Zav (ZaH hz (Zoc hb2 hl) rfl))) ?_
  refine c_f (Zav (ZaH (by decide) rfl rfl)) ?_
  refine c_t (ZbV rfl rfl rfl) ?_
  exact Zaf (ZhP (it:=(true,[])) rfl hR hc)
 | none=>
  have hb1:x=pre++40::(63::33::41::z::post):=hb
  have hb2:x=(pre++[40])++(63::33::41::z::post):=by erw[rwl (hb1 ..) ?_];simp
  refine⟨.fz (.str [40]),s6,s7,Zer hb1 hl ?_⟩
  have e:pre.length+([40,63,33,41]:List Nat).length=(pre++[40]).length+3:=by simp
  show _=some (Fl.next,stD x (R++[cur++[(false,[])]]) ins (pre.length+([40,63,33,41]:List Nat).length) (.fz (.str [40])) s6 s7)
  erw[rwl (e ..) ?_]
  have t1:tv ΓB (stD x (R++[cur]) ins (pre++[40]).length (.fz (.str [40])) s6 s7) (.tcmp .eq (.slc (.var 0) (.var 4) (.bin .add (.var 4) (.const (.int 5)))) (.const (.str [63,62,46,42,63])))=some false:=Zaj (Zme (n:=5) hb2) rfl (by
   show some (_==_)=_
   rw[beq_eq_false_iff_ne.mpr (by simp)])
  have t4:tv ΓB (stD x (R++[cur]) ins (pre++[40]).length (.fz (.str [40])) s6 s7) (.tcmp .eq (.slc (.var 0) (.var 4) (.bin .add (.var 4) (.const (.int 3)))) (.const (.str [63,33,41])))=some true:=Zaj (Zme (n:=3) hb2) rfl rfl
  refine c_f (ZaK (ZbV rfl rfl rfl) (Zav t1)) ?_
  refine c_f (Zav (ZaH (by decide) rfl rfl)) ?_
  refine c_f (Zav (ZaH (by decide) rfl rfl)) ?_
  refine c_t (ZaK (ZbV rfl rfl rfl) (ZaK t4 rfl)) ?_
  exact Zaa (ZhP (it:=(false,[])) rfl hR hc) (Zaf (ZcK (p:=.int ((pre++[40]).length:Int)) (q:=.int 3) rfl rfl rfl))
 | @esc c hw=>
  have hb1:x=pre++92::(c::z::post):=hb
  have hb2:x=(pre++[92])++c::(z::post):=by erw[rwl (hb1 ..) ?_];simp
  refine⟨.fz (.str [92]),s6,s7,Zer hb1 hl ?_⟩
  have e:pre.length+([92,c]:List Nat).length=(pre++[92]).length+1:=by simp
  show _=some (Fl.next,stD x (R++[cur++[(false,[[c]])]]) ins (pre.length+([92,c]:List Nat).length) (.fz (.str [92])) s6 s7)
  erw[rwl (e ..) ?_]
  have ei:=Zoc (R:=R++[cur]) (ins:=ins) (s5:=.fz (.str [92])) (s6:=s6) (s7:=s7) hb2 hl
  have t7:tv ΓB (stD x (R++[cur]) ins (pre++[92]).length (.fz (.str [92])) s6 s7) (.tnot (.tval (.call 9 (.cons (.idx (.var 0) (.var 4)) .nil))))=some true:=by
   refine Zfj (b:=false) (Zcz (d:=.bool false) (Zbd (ds:=[.str [c]]) (Zb8 ei) ?_) rfl)
   refine(congrFun gB9 _).trans ?_
   erw[rwl (Zmc ..) (rwl (hw ..) ?_)]
  refine c_f (Zav (ZaH (by decide) rfl rfl)) ?_
  refine c_f (Zav (ZaH (by decide) rfl rfl)) ?_
  refine c_f (Zav (ZaH (by decide) rfl rfl)) ?_
  refine c_f (Zav (ZaH (by decide) rfl rfl)) ?_
  refine c_f (ZaH (by decide) rfl rfl) ?_
  refine c_f (ZaH (by decide) rfl rfl) ?_
  refine c_t (ZaK (ZbV rfl rfl rfl) (ZaK t7 rfl)) ?_
  exact Zaa (ZhP (it:=(false,[[c]])) (ZrT ei) hR hc) (Zaf (ZcK (p:=.int ((pre++[92]).length:Int)) (q:=.int 1) rfl rfl rfl))
 | @lit c hs=>
  have hb1:x=pre++c::(z::post):=hb
  have n40:c≠40:=λq=>hs (by erw[rwl (q ..) ?_];decide)
  have n41:c≠41:=λq=>hs (by erw[rwl (q ..) ?_];decide)
  have n46:c≠46:=λq=>hs (by erw[rwl (q ..) ?_];decide)
  have n91:c≠91:=λq=>hs (by erw[rwl (q ..) ?_];decide)
  have n92:c≠92:=λq=>hs (by erw[rwl (q ..) ?_];decide)
  refine⟨.fz (.str [c]),s6,s7,Zer hb1 hl ?_⟩
  have e:pre.length+([c]:List Nat).length=(pre++[c]).length:=by simp
  show _=some (Fl.next,stD x (R++[cur++[(false,[[c]])]]) ins (pre.length+([c]:List Nat).length) (.fz (.str [c])) s6 s7)
  erw[rwl (e ..) ?_]
  have hin:([40,41,42,43,63,123,124,94,36,92]:List Nat).contains c=false:=by
   erw[rwl (propext (Bool.eq_false_iff ..)) ?_]
   intro q
   have q:=List.contains_iff_mem.mp q
   exact hs ((by decide:∀a∈([40,41,42,43,63,123,124,94,36,92]:List Nat),a∈specials) c q)
  have g2:ex ΓB fuel (.asg 2 (.band (.cons (.var 2) (.cons (.cmp .notin (.var 5) (.const (.str [40,41,42,43,63,123,124,94,36,92]))) .nil)))) (stD x (R++[cur++[(false,[[c]])]]) ins (pre++[c]).length (.fz (.str [c])) s6 s7)=some (.next,stD x (R++[cur++[(false,[[c]])]]) ins (pre++[c]).length (.fz (.str [c])) s6 s7):=by
   refine Zaw (d:=.bool true) ?_
   show ZeW _ _ _=_
   refine Zc7 (a:=true) rfl (λ_=>ZdJ (ZhX (p:=.str [c]) rfl rfl ?_)) nofun
   show some (!(([40,41,42,43,63,123,124,94,36,92]:List Nat).contains c))=_
   erw[rwl (hin ..) ?_];rfl
  refine c_f (Zav (ZaH n40 rfl rfl)) ?_
  refine c_f (Zav (ZaH n41 rfl rfl)) ?_
  refine c_f (Zav (ZaH n46 rfl rfl)) ?_
  refine c_f (Zav (ZaH n40 rfl rfl)) ?_
  refine c_f (ZaH n46 rfl rfl) ?_
  refine c_f (ZaH n91 rfl rfl) ?_
  refine c_f (Zav (ZaH n92 rfl rfl)) ?_
  exact Zaa (ZhP (it:=(false,[[c]])) (ZrT rfl) hR hc) (Zaf g2)
 | @set bar us hne huo h94 hn=>
  have hb1:x=pre++91::(Zd4 bar++(us.flatMap (·.2)++93::(z::post))):=by erw[rwl (hb ..) ?_];simp
  have hb2:x=(pre++[91])++(Zd4 bar++(us.flatMap (·.2)++93::(z::post))):=by erw[rwl (hb1 ..) ?_];simp
  have hs:=ZnM hne huo h94 hb2 hl hn
  have ec:ev ΓB (stD x (R++[cur]) ins (pre++[91]).length (.fz (.str [91])) s6 s7) (.call 10 (.cons (.var 0) (.cons (.var 4) .nil)))=some (.tuple [ZaU (bar,us.map (·.1)),.int (((pre++[91]).length+((Zd4 bar).length+((us.flatMap (·.2)).length+1)):Nat):Int),.bool false]):=
   Zbd (ds:=[.str x,.int ((pre++[91]).length:Int)]) rfl ((congrFun ZvH _).trans hs)
  have g1:ex ΓB fuel (.unp [6,4,7] (.call 10 (.cons (.var 0) (.cons (.var 4) .nil)))) (stD x (R++[cur]) ins (pre++[91]).length (.fz (.str [91])) s6 s7)=some (.next,stD x (R++[cur]) ins ((pre++[91]).length+((Zd4 bar).length+((us.flatMap (·.2)).length+1))) (.fz (.str [91])) (.fz (ZaU (bar,us.map (·.1)))) (.fz (.bool false))):=by
   exact ZmE ec rfl
  have e:pre.length+(91::(Zd4 bar++(us.flatMap (·.2)++[93]))).length=(pre++[91]).length+((Zd4 bar).length+((us.flatMap (·.2)).length+1)):=by
   simp only[List.length_cons,List.length_append,List.length_nil];lia
  refine⟨.fz (.str [91]),.fz (ZaU (bar,us.map (·.1))),.fz (.bool false),Zer hb1 hl ?_⟩
  show _=some (Fl.next,stD x (R++[cur++[(bar,us.map (·.1))]]) ins (pre.length+(91::(Zd4 bar++(us.flatMap (·.2)++[93]))).length) (.fz (.str [91])) (.fz (ZaU (bar,us.map (·.1)))) (.fz (.bool false)))
  erw[rwl (e ..) ?_]
  have g2:ex ΓB fuel (.asg 2 (.band (.cons (.var 2) (.cons (.not (.var 7)) .nil)))) (stD x (R++[cur++[(bar,us.map (·.1))]]) ins ((pre++[91]).length+((Zd4 bar).length+((us.flatMap (·.2)).length+1))) (.fz (.str [91])) (.fz (ZaU (bar,us.map (·.1)))) (.fz (.bool false)))=some (.next,stD x (R++[cur++[(bar,us.map (·.1))]]) ins ((pre++[91]).length+((Zd4 bar).length+((us.flatMap (·.2)).length+1))) (.fz (.str [91])) (.fz (ZaU (bar,us.map (·.1)))) (.fz (.bool false))):=rfl
  refine c_f (Zav (ZaH (by decide) rfl rfl)) ?_
  refine c_f (Zav (ZaH (by decide) rfl rfl)) ?_
  refine c_f (Zav (ZaH (by decide) rfl rfl)) ?_
  refine c_f (Zav (ZaH (by decide) rfl rfl)) ?_
  refine c_f (ZaH (by decide) rfl rfl) ?_
  refine c_t (ZbV rfl rfl rfl) ?_
  exact Zaa g1 (Zaa (ZhP (it:=(bar,us.map (·.1))) rfl hR hc) (Zaf g2))
end
end
section
noncomputable abbrev IT:=Item×List Nat
theorem ZkZ{u:IT}(h:ItT u):∃z t,u.2=z::t∧z≠42:=by
 cases h with
 | any=>exact⟨_,_,rfl,by decide⟩
 | none=>exact⟨_,_,rfl,by decide⟩
 | esc=>exact⟨_,_,rfl,by decide⟩
 | lit h=>exact⟨_,_,rfl,λq=>h (by erw[rwl (q ..) ?_];decide)⟩
 | set=>exact⟨_,_,rfl,by decide⟩
section
variable {x:List Nat}{ins:Bool}{P:Option (Fl×Sg)->Prop}
theorem Zi5(hl:x.length<=100000):∀(run:List IT) (pre post:List Nat) (z:Nat) (R:List (List Item)) (cur:List Item) (s5 s6 s7:Slot),(∀u∈run,ItT u)->z≠42->2<=post.length->x=pre++(run.flatMap (·.2)++z::post)->R.length<=100000->cur.length+run.length<=100000->
  (∀t5 t6 t7,Go (z::post).length (stD x (R++[cur++run.map (·.1)]) ins (pre++run.flatMap (·.2)).length t5 t6 t7) P)->Go (run.flatMap (·.2)++z::post).length (stD x (R++[cur]) ins pre.length s5 s6 s7) P
 | [],pre,post,z,R,cur,s5,s6,s7,_,_,_,_,_,_,k=>by
  have:=k s5 s6 s7
  simpa using this
 | u::run,pre,post,z,R,cur,s5,s6,s7,hI,hz,hp,hb,hR,hc,k=>by
  simp at hc
  obtain⟨w,t,hw,hw42⟩:=ZkZ (hI u List.mem_cons_self)
  obtain⟨y,r',hy,hy42⟩:∃y r',run.flatMap (·.2)++z::post=y::r'∧y≠42:=by
   cases run with
   | nil=>exact⟨z,post,rfl,hz⟩
   | cons v run=>
    obtain⟨a,b,hab,ha⟩:=ZkZ (hI v (by simp))
    exact⟨a,b++(run.flatMap (·.2)++z::post),by erw[rwl (List.flatMap_cons ..) (rwl (hab ..) ?_)];simp,ha⟩
  have hb1:x=pre++(u.2++(run.flatMap (·.2)++z::post)):=by erw[rwl (hb ..) ?_];simp
  obtain⟨t5,t6,t7,hs⟩:=Zps (x:=x) (R:=R) (cur:=cur) (ins:=ins) (s5:=s5) (s6:=s6) (s7:=s7) (hI u List.mem_cons_self) hy42 (by erw[rwl (hb1 ..) (rwl (hy ..) ?_)]) hl hR (by lia)
  have hlen:x.length=pre.length+(u.2.length+((run.flatMap (·.2)).length+(post.length+1))):=by erw[rwl (hb1 ..) ?_];simp
  have hul:u.2.length=t.length+1:=by erw[rwl (hw ..) ?_];rfl
  have go:tv ΓB (stD x (R++[cur]) ins pre.length s5 s6 s7) Zet=some true:=Zj5.trans (by rw[decide_eq_true (by lia)])
  have ih:=Zi5 hl run (pre++u.2) post z R (cur++[u.1]) t5 t6 t7 (λv hv=>hI v (List.mem_cons_of_mem _ hv)) hz hp (by erw[rwl (hb1 ..) ?_];simp) hR (by simp;lia) (λa b c=>by
   have:=k a b c
   simpa using this)
  rw[show(pre++u.2).length=pre.length+u.2.length from List.length_append] at ih
  refine Zgm go hs ih ?_
  erw[rwl (List.flatMap_cons ..) ?_]
  simp only[List.length_append,List.length_cons]
  lia
noncomputable def mids(rest:List (List IT)):List Nat:=Zga (ZbY rest)++[41,92,90]
theorem ZjG(y:List IT):mids [y]=46::42::(y.flatMap (λu:IT=>u.2)++[41,92,90]):=by
 unfold mids ZbY
 erw[rwl (List.flatMap_def ..) ?_]
 simp[Zjd,ZjP,Zjb]
theorem ZjM(y z:List IT)(t:List (List IT)):mids (y::z::t)=40::63::62::46::42::63::(y.flatMap (λu:IT=>u.2)++41::mids (z::t)):=by
 unfold mids ZbY
 erw[rwl (List.flatMap_def ..) ?_]
 simp[Zjd,ZjP,Zjb]
theorem ZhI(z:List IT)(t:List (List IT)):(∃r,mids (z::t)=46::42::r)∨(∃r,mids (z::t)=40::63::62::r):=by
 cases t with
 | nil=>exact .inl ⟨_,ZjG z⟩
 | cons y t=>exact .inr ⟨_,ZjM z y t⟩
theorem ZjR:∀rest:List (List IT),3<=(mids rest).length
 | rest=>by unfold mids;simp
noncomputable def ZoG(R:List (List IT)):List (List Item):=R.map (·.map (·.1))
noncomputable def Done(x:List Nat)(R:List (List Item))(o:Option (Fl×Sg)):Prop:=∃t5 t6 t7,o=some (.next,stD x R false (x.length - 3) t5 t6 t7)
theorem Zo1(hl:x.length<=100000):∀(rest:List (List IT)) (pre:List Nat) (R:List (List Item)) (s5 s6 s7:Slot),(∀y∈rest,∀u∈y,ItT u)->(∀y∈rest,y.length<=10000)->x=pre++mids rest->R.length+rest.length<=10000->
  Go (mids rest).length (stD x R false pre.length s5 s6 s7) (Done x (R++ZoG rest))
 | [],pre,R,s5,s6,s7,_,_,hb,_=>by
  have hlen:x.length=pre.length+3:=by erw[rwl (hb ..) (rwl (List.length_append ..) ?_)];rfl
  refine Zph (Zj5.trans (by rw[decide_eq_false (by lia)])) ⟨s5,s6,s7,?_⟩
  erw[rwl (hlen ..) ?_]
  simp[ZoG]
 | [y],pre,R,s5,s6,s7,hI,hL,hb,hR=>by
  rw[ZjG] at hb ⊢
  simp at hR
  have hb2:x=(pre++[46])++42::(y.flatMap (λu:IT=>u.2)++[41,92,90]):=by erw[rwl (hb ..) ?_];simp
  have hb3:x=(pre++[46,42])++(y.flatMap (λu:IT=>u.2)++[41,92,90]):=by erw[rwl (hb ..) ?_];simp
  have hlen:x.length=pre.length+(2+((y.flatMap (λu:IT=>u.2)).length+3)):=by erw[rwl (hb ..) ?_];simp;lia
  have go:tv ΓB (stD x R false pre.length s5 s6 s7) Zet=some true:=Zj5.trans (by rw[decide_eq_true (by lia)])
  have e:(pre++[46,42]).length=(pre++[46]).length+1:=by simp
  have hs:ex ΓB fuel Zev (stD x R false pre.length s5 s6 s7)=some (.next,stD x (R++[[]]) false (pre++[46,42]).length (.fz (.str [46])) s6 s7):=by
   refine Zer hb hl ?_
   erw[rwl (e ..) ?_]
   refine c_f (Zav (ZaH (by decide) rfl rfl)) ?_
   refine c_f (Zav (ZaH (by decide) rfl rfl)) ?_
   refine c_t (ZaK (ZbV rfl rfl rfl) (ZaK (ZbV rfl (Zoc hb2 hl) rfl) (ZaK (Zfj (b:=false) (Zcz rfl rfl)) rfl))) ?_
   exact Zaa (ZoJ (by lia)) (Zaf (ZcK (p:=.int ((pre++[46]).length:Int)) (q:=.int 1) rfl rfl rfl))
  have hy:=hL y (by simp)
  refine Zgm go hs (Zi5 hl y (pre++[46,42]) [92,90] 41 R [] _ _ _ (hI y (by simp)) (by decide) (by decide) hb3 (by lia) (by simp;lia) λt5 t6 t7=>?_) (by simp)
  refine Zph (Zj5.trans ?_) ⟨t5,t6,t7,?_⟩
  ·rw[decide_eq_false (by simp only[List.length_append,List.length_cons,List.length_nil];lia)]
  ·have e2:(pre++[46,42]++y.flatMap (λu:IT=>u.2)).length=x.length - 3:=by simp only[List.length_append,List.length_cons,List.length_nil];lia
   erw[rwl (e2 ..) ?_]
   rfl
 | y::w::t,pre,R,s5,s6,s7,hI,hL,hb,hR=>by
  rw[ZjM] at hb ⊢
  simp at hR
  have h3:=ZjR (w::t)
  have hb2:x=(pre++[40])++63::62::46::42::63::(y.flatMap (λu:IT=>u.2)++41::mids (w::t)):=by erw[rwl (hb ..) ?_];simp
  have hb3:x=(pre++[40,63,62,46,42,63])++(y.flatMap (λu:IT=>u.2)++41::mids (w::t)):=by erw[rwl (hb ..) ?_];simp
  have hb4:x=((pre++[40,63,62,46,42,63])++y.flatMap (λu:IT=>u.2))++41::mids (w::t):=by erw[rwl (hb ..) ?_];simp
  have hb5:x=((pre++[40,63,62,46,42,63])++y.flatMap (λu:IT=>u.2)++[41])++mids (w::t):=by erw[rwl (hb ..) ?_];simp
  have hlen:x.length=pre.length+(6+((y.flatMap (λu:IT=>u.2)).length+(1+(mids (w::t)).length))):=by erw[rwl (hb ..) ?_];simp;lia
  have go:tv ΓB (stD x R false pre.length s5 s6 s7) Zet=some true:=Zj5.trans (by rw[decide_eq_true (by lia)])
  have e:(pre++[40,63,62,46,42,63]).length=(pre++[40]).length+5:=by simp
  have hs:ex ΓB fuel Zev (stD x R false pre.length s5 s6 s7)=some (.next,stD x (R++[[]]) true (pre++[40,63,62,46,42,63]).length (.fz (.str [40])) s6 s7):=by
   refine Zer hb hl ?_
   erw[rwl (e ..) ?_]
   have t1:tv ΓB (stD x R false (pre++[40]).length (.fz (.str [40])) s6 s7) (.tcmp .eq (.slc (.var 0) (.var 4) (.bin .add (.var 4) (.const (.int 5)))) (.const (.str [63,62,46,42,63])))=some true:=Zaj (Zme (n:=5) hb2) rfl rfl
   refine c_t (ZaK (ZbV rfl rfl rfl) (ZaK t1 (ZaK (Zfj (b:=false) (Zcz rfl rfl)) rfl))) ?_
   exact Zaa (ZoJ (by lia)) (Zaa (σ':=stD x (R++[[]]) true (pre++[40]).length (.fz (.str [40])) s6 s7) (Zaw (d:=.bool true) rfl) (Zaf (ZcK (p:=.int ((pre++[40]).length:Int)) (q:=.int 5) rfl rfl rfl)))
  have hy:=hL y (by simp)
  refine Zgm go hs (Zi5 hl y (pre++[40,63,62,46,42,63]) (mids (w::t)) 41 R [] _ _ _ (hI y (by simp)) (by decide) (by lia) hb3 (by lia) (by simp;lia) λt5 t6 t7=>?_) (by simp;lia)
  have go2:tv ΓB (stD x (R++[[]++y.map (·.1)]) true ((pre++[40,63,62,46,42,63])++y.flatMap (λu:IT=>u.2)).length t5 t6 t7) Zet=some true:=Zj5.trans (by rw[decide_eq_true (by simp only[List.length_append,List.length_cons,List.length_nil];lia)])
  have hs2:ex ΓB fuel Zev (stD x (R++[[]++y.map (·.1)]) true ((pre++[40,63,62,46,42,63])++y.flatMap (λu:IT=>u.2)).length t5 t6 t7)=some (.next,stD x (R++[[]++y.map (·.1)]) false ((pre++[40,63,62,46,42,63])++y.flatMap (λu:IT=>u.2)++[41]).length (.fz (.str [41])) t6 t7):=by
   refine Zer hb4 hl ?_
   have a2:=Zme (R:=R++[[]++y.map (·.1)]) (ins:=true) (s5:=.fz (.str [41])) (s6:=t6) (s7:=t7) (n:=2) hb5
   have a3:=Zme (R:=R++[[]++y.map (·.1)]) (ins:=true) (s5:=.fz (.str [41])) (s6:=t6) (s7:=t7) (n:=3) hb5
   refine c_f (Zav (ZaH (by decide) rfl rfl)) ?_
   refine c_t (ZaK (ZbV rfl rfl rfl) (ZaK (Zcz (d:=.bool true) rfl rfl) (ZaK ?_ rfl))) (Zaf (Zaw (d:=.bool false) rfl))
   rcases ZhI w t with⟨r,hr⟩ | ⟨r,hr⟩
   ·rw[hr] at a2
    exact ZeI (Zaj a2 (q:=.str [46,42]) rfl rfl)
   ·rw[hr] at a2 a3
    exact Zjc (Zaj a2 (q:=.str [46,42]) rfl (by
     show some (_==_)=_
     rw[beq_eq_false_iff_ne.mpr (by simp)])) (ZeI (Zaj a3 (q:=.str [40,63,62]) rfl rfl))
  have ih:=Zo1 hl (w::t) ((pre++[40,63,62,46,42,63])++y.flatMap (λu:IT=>u.2)++[41]) (R++[[]++y.map (·.1)]) (.fz (.str [41])) t6 t7 (λv hv=>hI v (by simp at hv ⊢;exact .inr hv)) (λv hv=>hL v (by simp at hv ⊢;exact .inr hv)) hb5 (by simp;lia)
  have ef:R++[[]++y.map (·.1)]++ZoG (w::t)=R++ZoG (y::w::t):=by simp[ZoG]
  rw[ef] at ih
  exact Zgm go2 hs2 ih (by simp)
end
theorem Zka{α:Type}(l r:List α)(n:Nat)(h:r.length=n)(hn:0 < n):slice (l++r) (some (-(n:Int))) none=r:=by
 unfold slice
 simp only[Option.map_some,Option.map_none,Option.getD_none,Option.getD_some]
 have e:ZdH (l++r).length (-(n:Int))=l.length:=by
  exact(ZgE _ n hn).trans (by erw[rwl (List.length_append ..) (rwl (h ..) (rwl (Nat.add_sub_cancel ..) ?_))])
 erw[rwl (e ..) (rwl (List.take_length ..) (rwl (List.drop_left ..) ?_))]
theorem ZnT{y:List IT}{t:List (List IT)}(hI:∀r∈y::t,∀u∈r,ItT u)(hL:∀r∈y::t,r.length<=900)(hT:t.length<=900)(hx:(ZdL (ZbY (y::t))).length<=900) :
  Zla [.str (ZdL (ZbY (y::t)))]=some (.list ((ZoG (y::t)).map Zhq)):=by
 have ex0:ZdL (ZbY (y::t))=[40,63,115,58]++(y.flatMap (λu:IT=>u.2)++mids t):=by
  unfold mids
  erw[rwl (List.flatMap_def ..) ?_]
  simp[ZdL,ZbY]
 have ex1:ZdL (ZbY (y::t))=([40,63,115,58]++(y.flatMap (λu:IT=>u.2)++Zga (ZbY t)))++[41,92,90]:=by
  erw[rwl (ex0 ..) ?_];unfold mids;simp
 generalize ZdL (ZbY (y::t))=x at *
 have h3:=ZjR t
 obtain⟨z,post,hz,hz42⟩:∃z post,mids t=z::post∧z≠42:=by
  cases t with
  | nil=>exact⟨41,[92,90],rfl,by decide⟩
  | cons w t=>
   rcases ZhI w t with⟨r,hr⟩ | ⟨r,hr⟩
   ·exact⟨_,_,hr,by decide⟩
   ·exact⟨_,_,hr,by decide⟩
 have hpl:(mids t).length=post.length+1:=by erw[rwl (hz ..) ?_];rfl
 have hgo:Go (y.flatMap (λu:IT=>u.2)++z::post).length (stD x ([]++[[]]) false ([40,63,115,58]:List Nat).length .un .un .un) (Done x (ZoG (y::t))):=by
  refine Zi5 (by lia) y [40,63,115,58] post z [] [] .un .un .un (hI y (by simp)) hz42 (by lia) (by erw[rwl (ex0 ..) (rwl (hz ..) ?_)]) (by simp) (by have:=hL y (by simp);simp;lia) λt5 t6 t7=>?_
  have hm:=Zo1 (x:=x) (by lia) t ([40,63,115,58]++y.flatMap (λu:IT=>u.2)) [[]++y.map (·.1)] t5 t6 t7 (λr hr=>hI r (List.mem_cons_of_mem _ hr)) (λr hr=>by have:=hL r (List.mem_cons_of_mem _ hr);lia) (by erw[rwl (ex0 ..) ?_];simp) (by simp;lia)
  rw[hz] at hm
  exact hm
 have hlen:(y.flatMap (λu:IT=>u.2)++z::post).length < fuel:=by
  have:x.length=4+(y.flatMap (λu:IT=>u.2)++z::post).length:=by erw[rwl (ex0 ..) (rwl (hz ..) ?_)];simp;lia
  simp only[fuel];lia
 obtain⟨t5,t6,t7,hloop⟩:=hgo fuel hlen
 refine Zbc rfl ⟨_,Zaa (σ':=[.fz (.str x),.own2 [[]],.un,.un,.un,.un,.un,.un]) rfl (Zaa (σ':=[.fz (.str x),.own2 [[]],.fz (.bool true),.un,.un,.un,.un,.un]) ?_ (Zaa (σ':=[.fz (.str x),.own2 [[]],.fz (.bool true),.fz (.bool false),.un,.un,.un,.un]) rfl (Zaa (σ':=stD x [[]] false 4 .un .un .un) rfl (Zaa hloop (Za6 (ZbF ?_))))))⟩
 ·refine Zaw (ZhX (p:=.str [40,63,115,58,41,92,90]) (q:=.str [40,63,115,58,41,92,90]) (ZaF (p:=.str [40,63,115,58]) (q:=.str [41,92,90]) (Zco (p:=.str x) (q:=.none) (r:=.int 4) rfl rfl rfl ?_) (Zco (p:=.str x) (q:=.int (-3)) (r:=.none) rfl rfl rfl ?_) rfl) rfl rfl)
  ·show some (D.str (slice x none (some ((4:Nat):Int))))=_
   erw[rwl (ZdU ..) (rwl (ex0 ..) ?_)];rfl
  ·show some (D.str (slice x (some (-((3:Nat):Int))) none))=_
   rw[ex1,Zka _ _ 3 rfl (by decide)]
 ·refine ZeX (ZaK (Zcz (d:=.bool true) rfl rfl) (ZaK (Zfj (b:=false) (Zcz rfl rfl)) rfl)) ?_
  show some (D.list ((ZhR (ZoG (y::t))).map .list))=_
  unfold ZhR
  erw[rwl (List.map_map ..) ?_]
  rfl
end
section
section
variable (name:List Nat)
noncomputable def mtN:List (Option Item)->Nat->Prop
 | [],i=>i=name.length
 | some it::l,i=>i < name.length∧ZgN it (name.getD i 0)=true∧mtN l (i+1)
 | none::l,i=>∃j,i<=j∧j<=name.length∧mtN l j
noncomputable def Zp0(run:List Item)(p:Nat):Prop:=p+run.length<=name.length∧∀i,i < run.length->ZgN (run.getD i (false,[])) (name.getD (p+i) 0)=true
theorem ZtU:∀{l:List (Option Item)} {i:Nat},mtN name l i->i<=name.length
 | [],_,h=>Nat.le_of_eq h
 | some _::_,_,h=>Nat.le_of_lt h.1
 | none::_,_,⟨_,h1,h2,_⟩=>Nat.le_trans h1 h2
theorem ZqY{l:List (Option Item)}{i j:Nat}(h:i<=j)(m:mtN name (none::l) j):mtN name (none::l) i:=by
 obtain⟨k,h1,h2,h3⟩:=m
 exact⟨k,Nat.le_trans h h1,h2,h3⟩
theorem ZjA:∀(run:List Item) (l:List (Option Item)) (p:Nat),mtN name (run.map some++l) p↔Zp0 name run p∧mtN name l (p+run.length)
 | [],l,p=>by
  constructor
  ·intro h
   exact⟨⟨ZtU name (l:=l) h,λi hi=>by simp at hi⟩,h⟩
  ·intro h;exact h.2
 | it::run,l,p=>by
  have ih:=ZjA run l (p+1)
  show(p < name.length∧ZgN it (name.getD p 0)=true∧mtN name (run.map some++l) (p+1))↔_
  rw[ih]
  have e:p+1+run.length=p+(it::run).length:=by simp;lia
  rw[e]
  constructor
  ·rintro⟨h1,h2,⟨h3,h4⟩,h5⟩
   refine⟨⟨by lia,λi hi=>?_⟩,h5⟩
   cases i with
   | zero=>exact h2
   | succ i=>
    have:=h4 i (by simpa using hi)
    rw[show p+(i+1)=p+1+i by lia]
    exact this
  ·rintro⟨⟨h1,h2⟩,h3⟩
   simp at h1
   refine⟨by lia,h2 0 (by simp),⟨by lia,λi hi=>?_⟩,h3⟩
   have:=h2 (i+1) (by simpa using hi)
   rw[show p+(i+1)=p+1+i by lia] at this
   exact this
noncomputable def tlU:List (List Item)->List (Option Item)
 | []=>[]
 | y::t=>none::Zal (y::t)
theorem Zec(y:List Item)(t:List (List Item)):Zal (y::t)=y.map some++tlU t:=by
 cases t with
 | nil=>simp[Zvc,Zvt,tlU]
 | cons z t=>rfl
theorem Zdp{first last:Bool}{run:List Item}{i p:Nat}:p∈Zas first last run name i↔i<=p∧Zp0 name run p∧(first=true->p=0)∧(last=true->p+run.length=name.length):=by
 unfold Zas
 rw[List.mem_filter,List.mem_range'_1]
 unfold ZnE Zp0
 simp only[Bool.and_eq_true,Bool.or_eq_true,Bool.not_eq_true',beq_iff_eq,List.all_eq_true,List.mem_range]
 constructor
 ·rintro⟨⟨h1,h2⟩,⟨h3,h4⟩,h5⟩
  refine⟨h1,⟨(ZpE h1).mp h2,h5⟩,λq=>?_,λq=>?_⟩
  ·rcases h3 with h3 | h3
   ·rw[q] at h3;cases h3
   ·exact h3
  ·rcases h4 with h4 | h4
   ·rw[q] at h4;cases h4
   ·exact h4
 ·rintro⟨h1,⟨h2,h3⟩,h4,h5⟩
  refine⟨⟨h1,(ZpE h1).mpr h2⟩,⟨?_,?_⟩,h3⟩
  ·cases first with
   | false=>exact .inl rfl
   | true=>exact .inr (h4 rfl)
  ·cases last with
   | false=>exact .inl rfl
   | true=>exact .inr (h5 rfl)
theorem Zli{first last:Bool}{run:List Item}{i p:Nat}{r:List Nat}(h:Zas first last run name i=p::r):∀j∈Zas first last run name i,p<=j:=by
 have hp:(Zas first last run name i).Pairwise (· < ·):=by
  unfold Zas
  exact List.Pairwise.filter _ List.pairwise_lt_range'
 rw[h] at hp ⊢
 intro j hj
 rcases List.mem_cons.mp hj with rfl | hj
 ·exact Nat.le_refl _
 ·exact Nat.le_of_lt ((List.pairwise_cons.mp hp).1 j hj)
theorem Zox:∀(rest:List (List Item)) (run:List Item) (i:Nat),Zb7 name false (run::rest) i=true↔mtN name (none::Zal (run::rest)) i:=by
 intro rest
 induction rest with
 | nil=>
  intro run i
  rw[Zqv,Zec]
  show _↔∃j,i<=j∧j<=name.length∧mtN name (run.map some++tlU []) j
  simp only[ZjA]
  cases hF:Zas false ([]:List (List Item)).isEmpty run name i with
  | nil=>
   constructor
   ·intro h;cases h
   ·rintro⟨j,h1,h2,h3,h4⟩
    have:j∈Zas false ([]:List (List Item)).isEmpty run name i:=(Zdp name).mpr ⟨h1,h3,nofun,λ_=>h4⟩
    rw[hF] at this;cases this
  | cons p r=>
   have hp:p∈Zas false ([]:List (List Item)).isEmpty run name i:=by rw[hF];exact List.mem_cons_self
   obtain⟨h1,h2,_,h4⟩:=(Zdp name).mp hp
   constructor
   ·intro _
    exact⟨p,h1,by have:=h2.1;lia,h2,h4 rfl⟩
   ·intro _;simp[Zut,Zqv]
 | cons y t ih=>
  intro run i
  rw[Zqv,Zec]
  show _↔∃j,i<=j∧j<=name.length∧mtN name (run.map some++tlU (y::t)) j
  simp only[ZjA]
  cases hF:Zas false (y::t).isEmpty run name i with
  | nil=>
   constructor
   ·intro h;cases h
   ·rintro⟨j,h1,h2,h3,h4⟩
    have:j∈Zas false (y::t).isEmpty run name i:=(Zdp name).mpr ⟨h1,h3,nofun,nofun⟩
    rw[hF] at this;cases this
  | cons p r=>
   have hp:p∈Zas false (y::t).isEmpty run name i:=by rw[hF];exact List.mem_cons_self
   obtain⟨h1,h2,_,_⟩:=(Zdp name).mp hp
   show Zb7 name false (y::t) (p+run.length)=true↔_
   rw[ih]
   constructor
   ·intro h
    exact⟨p,h1,by have:=h2.1;lia,h2,h⟩
   ·rintro⟨j,j1,j2,j3,j4⟩
    have hj:j∈Zas false (y::t).isEmpty run name i:=(Zdp name).mpr ⟨j1,j3,nofun,nofun⟩
    have hle:=Zli name hF j hj
    exact ZqY name (show p+run.length<=j+run.length by lia) j4
theorem ZkV(rest:List (List Item))(run:List Item):Zb7 name true (run::rest) 0=true↔mtN name (Zal (run::rest)) 0:=by
 rw[Zqv,Zec,ZjA]
 cases hF:Zas true rest.isEmpty run name 0 with
 | nil=>
  constructor
  ·intro h;cases h
  ·rintro⟨h3,h4⟩
   have:0∈Zas true rest.isEmpty run name 0:=(Zdp name).mpr ⟨Nat.le_refl _,h3,λ_=>rfl,λq=>by
    have:rest=[]:=List.isEmpty_iff.mp q
    subst this
    exact h4⟩
   rw[hF] at this;cases this
 | cons p r=>
  have hp:p∈Zas true rest.isEmpty run name 0:=by rw[hF];exact List.mem_cons_self
  obtain⟨_,h2,h3,h4⟩:=(Zdp name).mp hp
  have hp0:=h3 rfl
  subst hp0
  show Zb7 name false rest (0+run.length)=true↔_
  cases rest with
  | nil=>
   constructor
   ·intro _;exact⟨h2,h4 rfl⟩
   ·intro _;simp[Zut,Zqv]
  | cons y t=>
   rw[Zox]
   exact⟨λh=>⟨h2,h⟩,λh=>h.2⟩
theorem ZeQ:∀(l:List (Option Item)) (i:Nat),mtN name l i↔mtN name (Zal (Zar l)) i
 | [],i=>Iff.rfl
 | some x::l,i=>by
  obtain⟨y,t,e,_⟩:=ZaS l
  rw[Zm2,e]
  show _↔mtN name (Zal ((x::y)::t)) i
  rw[ZcZ]
  have ih:=ZeQ l (i+1)
  rw[e] at ih
  show(_∧_∧_)↔(_∧_∧_)
  rw[ih]
 | none::[],i=>Iff.rfl
 | none::none::l,i=>by
  have ih:=ZeQ (none::l) i
  show _↔mtN name (Zal (Zar (none::l))) i
  rw[←ih]
  constructor
  ·rintro⟨j,h1,_,k,h3,h4,h5⟩
   exact⟨k,by lia,h4,h5⟩
  ·rintro⟨j,h1,h2,h3⟩
   exact⟨i,Nat.le_refl _,by lia,j,h1,h2,h3⟩
 | none::some x::l,i=>by
  rw[ZbS]
  obtain⟨y,t,e,_⟩:=ZaS (some x::l)
  have ih:=ZeQ (some x::l)
  rw[e] at ih ⊢
  rw[Zhe]
  constructor
  ·rintro⟨j,h1,h2,h3⟩
   exact⟨j,h1,h2,(ih j).mp h3⟩
  ·rintro⟨j,h1,h2,h3⟩
   exact⟨j,h1,h2,(ih j).mpr h3⟩
theorem Zic:∀(its:List (Option Item)) (h:List Bool),h.length=name.length+1->((its.foldl (ZcD name) h).getLastD false=true↔∃k,k<=name.length∧h.getD k false=true∧mtN name its k)
 | [],h,hh=>by
  show h.getLastD false=true↔∃k,k<=name.length∧h.getD k false=true∧k=name.length
  have e:h.getLastD false=h.getD name.length false:=by
   rw[List.getLastD_eq_getLast?,List.getLast?_eq_getElem?,List.getD_eq_getElem?_getD,hh]
   rfl
  rw[e]
  exact⟨λq=>⟨_,Nat.le_refl _,q,rfl⟩,λ⟨k,_,q,e⟩=>e▸q⟩
 | none::its,h,hh=>by
  show(its.foldl (ZcD name) (ZcD name h none)).getLastD false=true↔_
  rw[Zic its _ (ZdE name h none hh)]
  have e:∀k,k<=name.length->((ZcD name h none).getD k false=true↔∃j,j<=k∧h.getD j false=true):=by
   intro k hk
   have e1:(ZcD name h none).getD k false=(h.take (k+1)).contains true:=by
    unfold ZcD
    rw[List.getD_eq_getElem?_getD,List.getElem?_map,List.getElem?_range (by lia)]
    rfl
   rw[e1,List.contains_iff_mem]
   constructor
   ·intro q
    obtain⟨j,hj⟩:=List.getElem?_of_mem q
    rw[List.getElem?_take] at hj
    split at hj
    ·exact⟨j,by lia,by rw[List.getD_eq_getElem?_getD,hj];rfl⟩
    ·cases hj
   ·rintro⟨j,hj,q⟩
    rw[List.getD_eq_getElem?_getD,List.getElem?_eq_getElem (by lia)] at q
    have q:h[j]'(by lia)=true:=q
    exact List.mem_of_getElem? (i:=j) (by rw[List.getElem?_take,if_pos (by lia),List.getElem?_eq_getElem (by lia),q])
  constructor
  ·rintro⟨k,h1,h2,h3⟩
   obtain⟨j,hj,q⟩:=(e k h1).mp h2
   exact⟨j,by lia,q,k,hj,h1,h3⟩
  ·rintro⟨j,h1,h2,k,h3,h4,h5⟩
   exact⟨k,h4,(e k h4).mpr ⟨j,h3,h2⟩,h5⟩
 | some it::its,h,hh=>by
  show(its.foldl (ZcD name) (ZcD name h (some it))).getLastD false=true↔_
  rw[Zic its _ (ZdE name h (some it) hh)]
  have e:∀k,k < name.length->(ZcD name h (some it)).getD (k+1) false=(h.getD k false&&ZgN it (name.getD k 0)):=by
   intro k hk
   unfold ZcD
   rw[List.getD_cons_succ,List.getD_eq_getElem?_getD,List.getElem?_map,List.getElem?_range hk]
   rfl
  constructor
  ·rintro⟨k,h1,h2,h3⟩
   cases k with
   | zero=>cases h2
   | succ k=>
    rw[e k (by lia),Bool.and_eq_true] at h2
    exact⟨k,by lia,h2.1,by lia,h2.2,h3⟩
  ·rintro⟨k,h1,h2,h3,h4,h5⟩
   exact⟨k+1,by lia,by rw[e k h3,h2,h4];rfl,h5⟩
theorem Znj(its:List (Option Item)):Zei its name=true↔mtN name its 0:=by
 unfold Zei
 rw[Zic name its _ (by simp)]
 constructor
 ·rintro⟨k,h1,h2,h3⟩
  cases k with
  | zero=>exact h3
  | succ k=>
   rw[List.getD_cons_succ,List.getD_eq_getElem?_getD,List.getElem?_replicate] at h2
   split at h2<;>cases h2
 ·intro h
  exact⟨0,Nat.zero_le _,rfl,h⟩
theorem greedy(its:List (Option Item)):Zb7 name true (Zar its) 0=Zei its name:=by
 rw[Bool.eq_iff_iff,Znj,ZeQ]
 obtain⟨y,t,e,_⟩:=ZaS its
 rw[e]
 exact ZkV name t y
end
theorem Zdb{α β:Type}(f:α->β):∀l:List (Option α),Zar (l.map (·.map f))=(Zar l).map (·.map f)
 | []=>rfl
 | some x::l=>by
  obtain⟨y,t,e,_⟩:=ZaS l
  have ih:=Zdb f l
  rw[e] at ih
  show Zar (some (f x)::l.map (·.map f))=_
  erw[rwl (Zm2 ..) (rwl (ih ..) (rwl (Zm2 ..) (rwl (e ..) ?_)))]
  rfl
 | none::[]=>rfl
 | none::none::l=>Zdb f (none::l)
 | none::some x::l=>by
  show Zar (none::some (f x)::l.map (·.map f))=_
  erw[rwl (ZbS ..) (rwl (ZbS ..) (rwl (List.map_cons ..) ?_))]
  have ih:=Zdb f (some x::l)
  erw[rwr (ih ..) ?_]
  rfl
theorem ZcM{α:Type}:∀(l:List (Option α)),∀r∈Zar l,∀x∈r,some x∈l
 | [],r,hr,x,hx=>by
  have hr:r∈[([]:List α)]:=hr
  simp at hr;subst hr;cases hx
 | some a::l,r,hr,x,hx=>by
  obtain⟨y,t,e,_⟩:=ZaS l
  have ih:=ZcM l
  rw[Zm2,e] at hr
  rw[e] at ih
  rcases List.mem_cons.mp hr with rfl | hr
  ·rcases List.mem_cons.mp hx with rfl | hx
   ·simp
   ·exact List.mem_cons_of_mem _ (ih y (by simp) x hx)
  ·exact List.mem_cons_of_mem _ (ih r (by simp[hr]) x hx)
 | none::[],r,hr,x,hx=>by
  have hr:r∈[([]:List α),[]]:=hr
  simp at hr;subst hr;cases hx
 | none::none::l,r,hr,x,hx=>List.mem_cons_of_mem _ (ZcM (none::l) r hr x hx)
 | none::some a::l,r,hr,x,hx=>by
  rw[ZbS] at hr
  rcases List.mem_cons.mp hr with rfl | hr
  ·cases hx
  ·exact List.mem_cons_of_mem _ (ZcM (some a::l) r hr x hx)
theorem split_len{α:Type}:∀(l:List (Option α)),(Zar l).length<=l.length+1∧∀r∈Zar l,r.length<=l.length
 | []=>by
  show [([]:List α)].length<=_∧∀r∈[([]:List α)],_
  simp
 | some a::l=>by
  obtain⟨y,t,e,_⟩:=ZaS l
  have ih:=split_len l
  erw[rwl (Zm2 ..) (rwl (e ..) ?_)]
  rw[e] at ih
  refine⟨by simpa using Nat.le_succ_of_le ih.1,λr hr=>?_⟩
  rcases List.mem_cons.mp hr with rfl | hr
  ·have:=ih.2 y (by simp)
   simpa using this
  ·have:=ih.2 r (by simp[hr])
   simp;omega
 | none::[]=>by
  show [([]:List α),[]].length<=_∧∀r∈[([]:List α),[]],_
  simp
 | none::none::l=>by
  have ih:=split_len (none::l)
  refine⟨Nat.le_succ_of_le ih.1,λr hr=>Nat.le_succ_of_le (ih.2 r hr)⟩
 | none::some a::l=>by
  have ih:=split_len (some a::l)
  erw[rwl (ZbS ..) ?_]
  refine⟨by have:=ih.1;simp at this ⊢;omega,λr hr=>?_⟩
  rcases List.mem_cons.mp hr with rfl | hr
  ·simp
  ·exact Nat.le_succ_of_le (ih.2 r hr)
end
section
set_option backward.match.sparseCases false
theorem Zna(p:List Nat):ZoG (Zar (ipL p))=Zar (Zaq p):=by
 erw[rwl (Zje ..) ?_]
 exact(Zdb (·.1) (ipL p)).symm
theorem Zi4(p:List Nat):p.length<=800->∀it,some it∈Zaq p->Zh3 it:=by
 refine ZgL (P:=λp=>p.length<=800->∀x,some x∈Zaq p->Zh3 x) (λ_ x hx=>absurd hx List.not_mem_nil) (λr ih hl x hx=>?_) (λr ih hl x hx=>?_) (λr k hk ih hl x hx=>?_) (λc r h1 h2 h3 ih hl x hx=>?_) p.length p (Nat.le_refl _)
 ·exact(List.mem_cons.mp (show some x∈none::Zaq r from hx)).elim (λe=>nn e.symm) (ih (Nat.le_of_succ_le hl) x)
 ·exact(List.mem_cons.mp (show some x∈some (true,[])::Zaq r from hx)).elim (λe=>Option.some.inj e▸⟨by simp,by simp⟩) (ih (Nat.le_of_succ_le hl) x)
 ·rw[show Zaq (91::r)=some (Zh5 (r.take k))::Zaq (r.drop (k+1)) from congrArg (List.map Zrv) (Ziq hk)] at hx
  have hl':r.length < 800:=hl
  exact(List.mem_cons.mp hx).elim (λe=>Option.some.inj e▸ZpP (by simp;lia)) (ih (Nat.le_trans (Zd6 ..) (Nat.le_of_succ_le hl)) x)
 ·rw[show Zaq (c::r)=some (false,[[c]])::Zaq r from congrArg (List.map Zrv) (ZgI h1 h2 h3)] at hx
  exact(List.mem_cons.mp hx).elim (λe=>Option.some.inj e▸⟨by simp,by simp⟩) (ih (Nat.le_of_succ_le hl) x)
theorem Zh0(p:List Nat):(Zaq p).length<=p.length:=by
 erw[rwl (Zje ..) (rwl (List.length_map ..) ?_)]
 exact(Zmh p).1
theorem ZpQ{p:List Nat}(hl:p.length<=40):Zla [.str (trT p)]=some (.list ((Zar (Zaq p)).map Zhq)):=by
 obtain⟨y,t,e,_⟩:=ZaS (ipL p)
 have hs:=split_len (ipL p)
 have hip:=Zmh p
 have hw:=Zci (ipL p)
 rw[e] at hs hw
 have hjl:∀(y:List (List Nat)) (t:List (List (List Nat))),(ZdL (y::t)).length=Zfi (y::t)+7:=λy t=>by
  simp only[ZdL,Zfi,List.length_append,List.length_cons,List.length_nil];lia
 have hx:(ZdL (ZbY (y::t))).length<=900:=by
  have h1:(ZdL (ZbY (y::t))).length=Zfi (ZbY (y::t))+7:=hjl _ _
  lia
 have h:=ZnT (y:=y) (t:=t) (λr hr u hu=>Zud hl u (ZcM (ipL p) r (by erw[rwl (e ..) ?_];exact hr) u hu)) (λr hr=>by have:=hs.2 r hr;lia) (by have:=hs.1;simp at this;lia) hx
 erw[rwr (Zna ..) (rwl (e ..) ?_)]
 unfold trT
 erw[rwl (e ..) ?_]
 exact h
theorem ZnG{p name:List Nat}(hl:p.length<=40)(hn:name.length<=100):ZlV [.list ((Zar (Zaq p)).map Zhq),.str name]=some (.bool (Zei (Zaq p) name)):=by
 have hs:=split_len (Zaq p)
 have hi:=Zh0 p
 rw[Zoz (by lia) hn λrun hr=>⟨by have:=hs.2 run hr;lia,λit hit=>Zi4 p (by lia) it (ZcM _ run hr it hit)⟩,greedy]
inductive Op where
 | an
 | orr
 | ls
inductive Tok where
 | nm (p:List Nat)
 | nt
 | op (o:Op)
noncomputable def wordOf:Tok->List Nat
 | .nm _=>[110,97,109,101]
 | .nt=>[110,111,116]
 | .op .an=>[97,110,100]
 | .op .orr=>[111,114]
 | .op .ls=>[108,101,115,115]
noncomputable def Zde:Tok->List Nat
 | .nm p=>p
 | _=>[]
noncomputable def ZeM(t:Tok):D:=.tuple [.str (wordOf t),.str (Zde t)]
noncomputable def Zeq(t:Tok):D:=.tuple [.str (wordOf t),.list ((Zaq (Zde t)).map Zfv)]
noncomputable abbrev Pd:=List Nat->Bool
noncomputable def opF:Op->Pd->Pd->Pd
 | .an,f,g=>λn=>f n&&g n
 | .orr,f,g=>λn=>f n||g n
 | .ls,f,g=>λn=>f n&&!g n
noncomputable def Zbs(names:List (List Nat))(f:Pd):D:=.list ((names.filter f).map .str)
noncomputable def Zax(names:List (List Nat))(st:List Pd):D:=.list (st.map (Zbs names))
noncomputable def ZaJ(names:List (List Nat)):D:=.list (names.map .str)
noncomputable abbrev Zbr(names:List (List Nat)):Prop:=(names≠[])∧(names.length<=100)∧(∀n∈names,n.length<=100)
theorem Zbr.ne{names:List (List Nat)}(slf:Zbr names):names≠[]:=slf.1
theorem Zbr.len{names:List (List Nat)}(slf:Zbr names):names.length<=100:=slf.2.1
theorem Zbr.each{names:List (List Nat)}(slf:Zbr names):∀n∈names,n.length<=100:=slf.2.2
theorem gC1:ΓC 1=ZoR:=rfl
theorem ZvJ:ΓC 11=Zla:=rfl
theorem ZvQ:ΓC 12=ZlV:=rfl
noncomputable def ZrG(f:Pd):D->Bool
 | .str n=>f n
 | _=>false
theorem ZfQ(f:Pd):∀names:List (List Nat),(names.map D.str).filter (ZrG f)=(names.filter f).map D.str
 | []=>rfl
 | n::names=>by
  erw[rwl (List.map_cons ..) (rwl (List.filter_cons ..) (rwl (List.filter_cons ..) (rwl (ZfQ f names ..) ?_)))]
  show(if f n=true then _ else _)=_
  split<;>rfl
theorem Ze8{Γ:ZaC}{σ:Sg}{fr:List Nat}{t:Nat}{it c:X}{ns:List (List Nat)}{f:Pd}(hc:c.Za8=false)(hi:ev Γ σ it=some (.list (ns.map .str)))(hl:ns.length<=16777216)(ht:t < σ.length)(h:∀n∈ns,tv Γ ((mask fr σ).set t (.fz (.str n))) c=some (f n)) :
  ev Γ σ (.comp fr t (.var t) it c)=some (.list ((ns.filter f).map .str)):=by
 rw[Zl7 (p:=ZrG f) (g:=id) hc hi (by simpa using hl) (λd hd=>by
  obtain⟨n,hn,rfl⟩:=List.mem_map.mp hd
  exact h n hn) (λd hd _=>by
  show rd _ _=_
  unfold rd
  rw[List.getElem?_set_self (by unfold mask;simpa using ht)];rfl),ZfQ]
 simp
theorem ZkM(n:List Nat)(l:List (List Nat)):inD (.str n) (.list (l.map .str))=some (l.contains n):=by
 have h:(strs? (l.map D.str)).map (·.contains n)=some (l.contains n):=by erw[rwl (strs_map ..) ?_];rfl
 cases n with
 | nil=>exact h
 | cons a n=>
  cases n with
  | nil=>exact h
  | cons b n=>exact h
theorem ZdP{names:List (List Nat)}{f:Pd}{n:List Nat}(hn:n∈names):(names.filter f).contains n=f n:=by
 rw[Bool.eq_iff_iff,List.contains_iff_mem,List.mem_filter]
 exact⟨λh=>h.2,λh=>⟨hn,h⟩⟩
theorem ZdC{names:List (List Nat)}{f g:Pd}(h:∀n∈names,f n=g n):names.filter f=names.filter g:=List.filter_congr λn hn=>h n hn
noncomputable def stP(names:List (List Nat))(st:List Pd)(t:Tok)(s3 s4 s5 s7 s8 s9:Slot):Sg:=[.fz (ZaJ names),.fz (Zax names st),.fz (ZeM t),s3,s4,s5,.un,s7,s8,s9]
theorem Znc(n:Nat)(h:2<=n):idxOf n (-2)=some (n - 2):=by
 have e:(-2:Int)+(n:Int)=((n - 2:Nat):Int):=by lia
 unfold idxOf
 rw[if_neg (by decide),e,if_pos (Int.natCast_nonneg _)]
 rfl
theorem ZnK{α:Type}(l:List α)(a b:α):slice (l++[a,b]) none (some (-2))=l:=by
 unfold slice
 simp only[Option.map_some,Option.map_none,Option.getD_none,Option.getD_some]
 have e:ZdH (l++[a,b]).length (-2)=l.length:=by
  exact(ZgE _ 2 (by decide)).trans (by erw[rwl (List.length_append ..) ?_];rfl)
 erw[rwl (e ..) (rwl (List.drop_zero ..) (rwl (List.take_left ..) ?_))]
section
variable {names:List (List Nat)}{st:List Pd}
theorem Zis{t:Tok}{o:Option (Fl×Sg)}{b:S}(k:ex ΓC fuel b (stP names st t (.fz (.str (wordOf t))) (.fz (.str (Zde t))) .un .un .un .un)=o):ex ΓC fuel (.seq (.unp [3,4] (.var 2)) b) (ZeV 10 [ZaJ names,Zax names st,ZeM t])=o:=
 Zaa rfl k
theorem Zfa{σ:Sg}{y z:X}{base:List Pd}{f:Pd}(h:ev ΓC σ y=some (.list (base.map (Zbs names))))(hz:ev ΓC σ z=some (Zbs names f))(hl:base.length<=1000):ev ΓC σ (.bin .add y (.list (.cons z .nil)))=some (Zax names (base++[f])):=by
 refine ZaF h (q:=.list [Zbs names f]) ?_ ?_
 ·exact ZnD (Zb8 hz) (Nat.le_of_ble_eq_true rfl)
 ·refine(ZcU (l:=base.map (Zbs names)++[Zbs names f]) (by simp;lia)).trans ?_
  unfold Zax
  simp
theorem ZnZ(nk:Zbr names){p:List Nat}(hp:p.length<=40)(hl:st.length<=1000):Zgw [ZaJ names,Zax names st,ZeM (.nm p)]=some (Zax names (st++[λn=>Zei (Zaq p) n])):=by
 refine Zbc rfl ?_
 have e1:ev ΓC (stP names st (.nm p) (.fz (.str (wordOf (.nm p)))) (.fz (.str p)) .un .un .un .un) (.call 1 (.cons (.var 4) .nil))=some (.str (trT p)):=Zbd (ds:=[.str p]) rfl ((congrFun gC1 _).trans (Zrm hp))
 have e2:ev ΓC (stP names st (.nm p) (.fz (.str (wordOf (.nm p)))) (.fz (.str p)) .un .un .un .un) (.call 11 (.cons (.call 1 (.cons (.var 4) .nil)) .nil))=some (.list ((Zar (Zaq p)).map Zhq)):=Zbd (ds:=[.str (trT p)]) (Zb8 e1) ((congrFun ZvJ _).trans (ZpQ hp))
 refine⟨_,Zis (Za6 (x_t (Zaj rfl rfl rfl) (Zaa (σ':=stP names st (.nm p) (.fz (.str (wordOf (.nm p)))) (.fz (.str p)) (.fz (.list ((Zar (Zaq p)).map Zhq))) .un .un .un) (Zaw e2) (Za6 (ZbF ?_)))))⟩
 have hc:=Ze8 (Γ:=ΓC) (σ:=frz (stP names st (.nm p) (.fz (.str (wordOf (.nm p)))) (.fz (.str p)) (.fz (.list ((Zar (Zaq p)).map Zhq))) .un .un .un)) (fr:=[5]) (t:=6) (it:=.var 0) (c:=.tval (.call 12 (.cons (.var 5) (.cons (.var 6) .nil)))) (ns:=names) (f:=λn=>Zei (Zaq p) n) rfl rfl (by have:=nk.len;lia) (by simp[stP,frz]) (λn hn=>Zcz (d:=.bool (Zei (Zaq p) n)) (Zbd (ds:=[.list ((Zar (Zaq p)).map Zhq),.str n]) rfl ((congrFun ZvQ _).trans (ZnG hp (nk.each n hn)))) rfl)
 exact Zfa rfl hc hl
theorem ZrQ{σ:Sg}{f:Pd}(h:rd σ 1=some (Zax names (st++[f]))):ev ΓC σ (.idx (.var 1) (.const (.int (-1))))=some (Zbs names f):=by
 refine ZaL (p:=Zax names (st++[f])) (q:=.int (-1)) h rfl (ZeN ?_)
 simp
theorem Zoo(nk:Zbr names){f:Pd}(hl:st.length<=1000):Zgw [ZaJ names,Zax names (st++[f]),ZeM .nt]=some (Zax names (st++[λn=>!f n])):=by
 refine Zbc rfl ?_
 refine⟨_,Zis (Zaa (x_f (Zaj rfl rfl rfl) rfl) (Zaa (σ':=stP names (st++[f]) .nt (.fz (.str (wordOf .nt))) (.fz (.str [])) .un (.fz (Zbs names f)) .un .un) (Zaw (ZrQ rfl)) (Za6 (x_t (Zaj rfl rfl rfl) (Za6 (ZbF ?_))))))⟩
 have hc:=Ze8 (Γ:=ΓC) (σ:=frz (stP names (st++[f]) .nt (.fz (.str (wordOf .nt))) (.fz (.str [])) .un (.fz (Zbs names f)) .un .un)) (fr:=[7]) (t:=6) (it:=.var 0) (c:=.tcmp .notin (.var 6) (.var 7)) (ns:=names) (f:=λn=>!f n) rfl rfl (by have:=nk.len;lia) (by simp[stP,frz]) (λn hn=>Zaj (p:=.str n) (q:=Zbs names f) rfl rfl (by
  show(inD (.str n) (Zbs names f)).map (!·)=_
  unfold Zbs
  erw[rwl (ZkM ..) (rwl (ZdP hn ..) ?_)];rfl))
 refine Zfa (Zco (p:=Zax names (st++[f])) (q:=.none) (r:=.int (-1)) rfl rfl rfl ?_) hc hl
 show some (D.list (slice ((st++[f]).map (Zbs names)) none (some (-1))))=_
 erw[rwl (ZjO ..) ?_]
 simp
theorem ZnW(nk:Zbr names){f g:Pd}(o:Op)(hl:st.length<=1000):Zgw [ZaJ names,Zax names (st++[f,g]),ZeM (.op o)]=some (Zax names (st++[opF o f g])):=by
 have hi2:Zk8 (Zax names (st++[f,g])) (.int (-2))=some (Zbs names f):=by
  show(if ZdN (-2)=true then(idxOf ((st++[f,g]).map (Zbs names)).length (-2)).bind λk=>((st++[f,g]).map (Zbs names))[k]? else none)=_
  rw[if_pos (by decide),Znc _ (by simp)]
  show((st++[f,g]).map (Zbs names))[((st++[f,g]).map (Zbs names)).length - 2]? = _
  simp
 have hlast:∀σ:Sg,rd σ 1=some (Zax names (st++[f,g]))->ev ΓC σ (.idx (.var 1) (.const (.int (-1))))=some (Zbs names g):=λσ h=>ZaL (p:=Zax names (st++[f,g])) (q:=.int (-1)) h rfl (ZeN (by simp))
 have hin:∀{h:Pd} {n:List Nat},n∈names->inD (.str n) (Zbs names h)=some (h n):=λhn=>by
  unfold Zbs
  erw[rwl (ZkM ..) (rwl (ZdP hn ..) ?_)]
 have fin:∀(w:List Nat) (d:Pd),∃σ,ex ΓC fuel (.seq (.ret (.bin .add (.slc (.var 1) (.const .none) (.const (.int (-2)))) (.list (.cons (.var 9) .nil)))) .skip) (stP names (st++[f,g]) (.op o) (.fz (.str (wordOf (.op o)))) (.fz (.str [])) .un (.fz (Zbs names g)) (.fz (Zbs names f)) (.fz (Zbs names d)))=some (.ret (Zax names (st++[d])),σ):=λw d=>by
  refine⟨_,Za6 (ZbF (Zfa (Zco (p:=Zax names (st++[f,g])) (q:=.none) (r:=.int (-2)) rfl rfl rfl ?_) rfl hl))⟩
  show some (D.list (slice ((st++[f,g]).map (Zbs names)) none (some (-2))))=_
  erw[rwl (List.map_append ..) ?_]
  exact congrArg (λl=>some (D.list l)) (ZnK (st.map (Zbs names)) (Zbs names f) (Zbs names g))
 have pre:∀{r:Option (Fl×Sg)},(∀b:S,Zck=.seq (.unp [3,4] (.var 2)) (.seq (.ifs (.tcmp .eq (.var 3) (.const (.str [110,97,109,101]))) (
  .seq (.asg 5 (.call 11 (.cons (.call 1 (.cons (.var 4) .nil)) .nil))) <|
  .seq (.ret (.bin .add (.var 1) (.list (.cons (.comp [5] 6 (.var 6) (.var 0) (.tval (.call 12 (.cons (.var 5) (.cons (.var 6) .nil))))) .nil)))) <| .skip) (.skip)) (.seq (.asg 7 (.idx (.var 1) (.const (.int (-1))))) (.seq (.ifs (.tcmp .eq (.var 3) (.const (.str [110,111,116]))) (
  .seq (.ret (.bin .add (.slc (.var 1) (.const .none) (.const (.int (-1)))) (.list (.cons (.comp [7] 6 (.var 6) (.var 0) (.tcmp .notin (.var 6) (.var 7))) .nil)))) <| .skip) (.skip)) (.seq (.asg 8 (.idx (.var 1) (.const (.int (-2))))) b))))->
   ex ΓC fuel b (stP names (st++[f,g]) (.op o) (.fz (.str (wordOf (.op o)))) (.fz (.str [])) .un (.fz (Zbs names g)) (.fz (Zbs names f)) .un)=r)->ex ΓC fuel Zck (ZeV 10 [ZaJ names,Zax names (st++[f,g]),ZeM (.op o)])=r:=by
  intro r h
  have n1:tv ΓC (stP names (st++[f,g]) (.op o) (.fz (.str (wordOf (.op o)))) (.fz (.str [])) .un .un .un .un) (.tcmp .eq (.var 3) (.const (.str [110,97,109,101])))=some false:=by
   cases o<;>exact Zaj rfl rfl rfl
  have n2:tv ΓC (stP names (st++[f,g]) (.op o) (.fz (.str (wordOf (.op o)))) (.fz (.str [])) .un (.fz (Zbs names g)) .un .un) (.tcmp .eq (.var 3) (.const (.str [110,111,116])))=some false:=by
   cases o<;>exact Zaj rfl rfl rfl
  exact Zis (Zaa (x_f n1 rfl) (Zaa (σ':=stP names (st++[f,g]) (.op o) (.fz (.str (wordOf (.op o)))) (.fz (.str [])) .un (.fz (Zbs names g)) .un .un) (Zaw (hlast _ rfl)) (Zaa (x_f n2 rfl) (Zaa (σ':=stP names (st++[f,g]) (.op o) (.fz (.str (wordOf (.op o)))) (.fz (.str [])) .un (.fz (Zbs names g)) (.fz (Zbs names f)) .un) (Zaw (ZaL (p:=Zax names (st++[f,g])) (q:=.int (-2)) rfl rfl hi2)) (h _ rfl)))))
 refine Zbc rfl ?_
 obtain⟨σ',hf⟩:=fin [] (opF o f g)
 refine⟨σ',pre λb hb=>?_⟩
 have hb:=hb.symm
 unfold Zck at hb
 injection hb with _ hb;injection hb with _ hb;injection hb with _ hb;injection hb with _ hb;injection hb with _ hb
 subst hb
 cases o with
 | an=>
  have hc:=Ze8 (Γ:=ΓC) (σ:=stP names (st++[f,g]) (.op .an) (.fz (.str (wordOf (.op .an)))) (.fz (.str [])) .un (.fz (Zbs names g)) (.fz (Zbs names f)) .un) (fr:=[7]) (t:=6) (it:=.var 8) (c:=.tcmp .isin (.var 6) (.var 7)) (ns:=names.filter f) (f:=g) rfl rfl (by have:=List.length_filter_le f names;have:=nk.len;lia) (by simp[stP]) (λn hn=>Zaj (p:=.str n) (q:=Zbs names g) rfl rfl (hin (List.mem_filter.mp hn).1))
  have e:(names.filter f).filter g=names.filter (opF .an f g):=by
   erw[rwl (List.filter_filter ..) ?_]
   exact ZdC λn _=>by show(g n&&f n)=(f n&&g n);erw[rwl (Bool.and_comm ..) ?_]
  rw[e] at hc
  exact Zaa (x_t (Zaj rfl rfl rfl) (Zaf (ZlZ hc))) hf
 | orr=>
  have hc:=Ze8 (Γ:=ΓC) (σ:=stP names (st++[f,g]) (.op .orr) (.fz (.str (wordOf (.op .orr)))) (.fz (.str [])) .un (.fz (Zbs names g)) (.fz (Zbs names f)) .un) (fr:=[8,7]) (t:=6) (it:=.var 0) (c:=.tor (.cons (.tcmp .isin (.var 6) (.var 8)) (.cons (.tcmp .isin (.var 6) (.var 7)) .nil))) (ns:=names) (f:=opF .orr f g) rfl rfl (by have:=nk.len;lia) (by simp[stP]) (λn hn=>by
   have h1:=Zaj (Γ:=ΓC) (σ:=((mask [8,7] (stP names (st++[f,g]) (.op .orr) (.fz (.str (wordOf (.op .orr)))) (.fz (.str [])) .un (.fz (Zbs names g)) (.fz (Zbs names f)) .un)).set 6 (.fz (.str n)))) (op:=.isin) (l:=.var 6) (r:=.var 8) (p:=.str n) (q:=Zbs names f) rfl rfl (hin hn)
   have h2:=Zaj (Γ:=ΓC) (σ:=((mask [8,7] (stP names (st++[f,g]) (.op .orr) (.fz (.str (wordOf (.op .orr)))) (.fz (.str [])) .un (.fz (Zbs names g)) (.fz (Zbs names f)) .un)).set 6 (.fz (.str n)))) (op:=.isin) (l:=.var 6) (r:=.var 7) (p:=.str n) (q:=Zbs names g) rfl rfl (hin hn)
   show _=some (f n||g n)
   cases hfn:f n with
   | true=>rw[hfn] at h1;exact ZeI h1
   | false=>
    rw[hfn] at h1
    cases hgn:g n with
    | true=>rw[hgn] at h2;exact Zjc h1 (ZeI h2)
    | false=>rw[hgn] at h2;exact Zjc h1 (Zjc h2 rfl))
  exact Zaa (x_f (Zaj rfl rfl rfl) (Zaf (x_t (Zaj rfl rfl rfl) (Zaf (ZlZ hc))))) hf
 | ls=>
  have hc:=Ze8 (Γ:=ΓC) (σ:=stP names (st++[f,g]) (.op .ls) (.fz (.str (wordOf (.op .ls)))) (.fz (.str [])) .un (.fz (Zbs names g)) (.fz (Zbs names f)) .un) (fr:=[7]) (t:=6) (it:=.var 8) (c:=.tcmp .notin (.var 6) (.var 7)) (ns:=names.filter f) (f:=λn=>!g n) rfl rfl (by have:=List.length_filter_le f names;have:=nk.len;lia) (by simp[stP]) (λn hn=>Zaj (p:=.str n) (q:=Zbs names g) rfl rfl (by
   show(inD (.str n) (Zbs names g)).map (!·)=_
   erw[rwl (hin (List.mem_filter.mp hn).1 ..) ?_];rfl))
  have e:(names.filter f).filter (λn=>!g n)=names.filter (opF .ls f g):=by
   erw[rwl (List.filter_filter ..) ?_]
   exact ZdC λn _=>by show(!g n&&f n)=(f n&&!g n);erw[rwl (Bool.and_comm ..) ?_]
  rw[e] at hc
  exact Zaa (x_f (Zaj rfl rfl rfl) (Zaf (x_f (Zaj rfl rfl rfl) (Zaf (ZlZ hc))))) hf
end
end
section
inductive Seg:List Tok->Pd->Prop
 | nm {p:List Nat}:p.length<=40->Seg [.nm p] (λn=>Zei (Zaq p) n)
 | nt {l:List Tok} {f:Pd}:Seg l f->Seg (l++[.nt]) (λn=>!f n)
 | op {l l':List Tok} {f g:Pd} (o:Op):Seg l f->Seg l' g->Seg (l++l'++[.op o]) (opF o f g)
theorem ZtC{l:List Tok}{f:Pd}(h:Seg l f):1<=l.length:=by cases h<;>simp<;>lia
noncomputable def stV(T:List Tok)(e:Int)(n:List Nat)(s3 s4 s5 s6 s7:Slot):Sg:=[.fz (.list (T.map Zeq)),.fz (.int e),.fz (.str n),s3,s4,s5,s6,s7]
theorem gV8(s:List D->Option D):ΓV s 8=ZtM:=rfl
theorem ZvG(s:List D->Option D):ΓV s 17=s:=rfl
section
variable {T:List Tok}{n:List Nat}{s:List D->Option D}
theorem Zty{pre post:List Tok}{t:Tok}(hT:T=pre++t::post)(hl:T.length<=1000){b:S}{o:Option (Fl×Sg)}(k:ex (ΓV s) fuel b (stV T ((pre.length:Nat):Int) n (.fz (.str (wordOf t))) (.fz (.list ((Zaq (Zde t)).map Zfv))) .un .un .un)=o) :
  ex (ΓV s) fuel (.seq (.unp [3,4] (.idx (.var 0) (.var 1))) b) (ZeV 8 [.list (T.map Zeq),.int ((pre.length:Nat):Int),.str n])=o:=by
 have hlen:T.length=pre.length+(post.length+1):=by erw[rwl (hT ..) ?_];simp
 refine Zaa (σ':=stV T ((pre.length:Nat):Int) n (.fz (.str (wordOf t))) (.fz (.list ((Zaq (Zde t)).map Zfv))) .un .un .un) ?_ k
 have e:ev (ΓV s) (ZeV 8 [.list (T.map Zeq),.int ((pre.length:Nat):Int),.str n]) (.idx (.var 0) (.var 1))=some (Zeq t):=by
  refine ZaL (p:=.list (T.map Zeq)) (q:=.int ((pre.length:Nat):Int)) rfl rfl (ZaM ?_ (by lia))
  have:=ZbB pre (t::post) 0
  rw[Nat.add_zero] at this
  erw[rwl (List.getElem?_map ..) (rwl (hT ..) (rwl (this ..) ?_))];rfl
 exact ZmE e rfl
theorem Zjg{pre post:List Tok}{t:Tok}(hT:T=pre++t::post)(hl:T.length<=1000){b:S}{d:D}(k:∃σ',ex (ΓV s) fuel b (stV T ((pre.length:Nat):Int) n (.fz (.str (wordOf t))) (.fz (.list ((Zaq (Zde t)).map Zfv))) .un .un .un)=some (.ret d,σ')) :
  ∃σ',ex (ΓV s) fuel (.seq (.unp [3,4] (.idx (.var 0) (.var 1))) b) (ZeV 8 [.list (T.map Zeq),.int ((pre.length:Nat):Int),.str n])=some (.ret d,σ'):=by
 obtain⟨σ',h⟩:=k
 exact⟨σ',Zty hT hl h⟩
theorem Zml{σ:Sg}{y:X}{e:Int}{r:D}(h0:rd σ 0=some (.list (T.map Zeq)))(h2:rd σ 2=some (.str n))(hy:ev (ΓV s) σ y=some (.int e))(hs:s [.list (T.map Zeq),.int e,.str n]=some r):ev (ΓV s) σ (.call 17 (.cons (.var 0) (.cons y (.cons (.var 2) .nil))))=some r:=by
 refine Zbd (ds:=[.list (T.map Zeq),.int e,.str n]) ?_ ((congrFun (ZvG s) _).trans hs)
 have e0:ev (ΓV s) σ (.var 0)=some (.list (T.map Zeq)):=h0
 have e2:ev (ΓV s) σ (.var 2)=some (.str n):=h2
 exact ZaP e0 (ZaP hy (Zb8 e2))
end
theorem val_eq{l:List Tok}{f:Pd}(h:Seg l f):∀(k:Nat) (pre post T:List Tok) (n:List Nat),l.length<=k->T=pre++(l++post)->T.length<=1000->n.length<=100->
  ZcA k [.list (T.map Zeq),.int (((pre.length+l.length:Nat):Int) - 1),.str n]=some (.tuple [.bool (f n),.int ((pre.length:Int) - 1)]):=by
 induction h with
 | @nm p hp=>
  intro k pre post T n hk hT hl hn
  match k,hk with
  | k+1,_=>
   rw[show(((pre.length+([Tok.nm p]:List Tok).length:Nat):Int) - 1)=((pre.length:Nat):Int) by simp]
   refine Zbc rfl ⟨_,Zty (t:=.nm p) hT hl (Za6 (x_t (Zaj rfl rfl rfl) (Za6 (ZbF ?_))))⟩
   have e8:ev (ΓV (ZcA k)) (frz (stV T ((pre.length:Nat):Int) n (.fz (.str (wordOf (.nm p)))) (.fz (.list ((Zaq (Zde (.nm p))).map Zfv))) .un .un .un)) (.call 8 (.cons (.var 4) (.cons (.var 2) .nil)))=some (.bool (Zei (Zaq p) n)):=
    Zbd (ds:=[.list ((Zaq p).map Zfv),.str n]) rfl ((congrFun (gV8 _) _).trans (Zqo hn (by have:=Zh0 p;lia) (λi hi=>Zi4 p (by lia) i hi)))
   exact ZiL (ds:=[.bool (Zei (Zaq p) n),.int ((pre.length:Int) - 1)]) (ZaP e8 (Zb8 rfl)) (Nat.le_of_ble_eq_true rfl)
 | @nt l f h ih=>
  intro k pre post T n hk hT hl hn
  match k,hk with
  | 0,hk=>exact absurd hk (by simp)
  | k+1,hk=>
   simp at hk
   have e0:(((pre.length+(l++[Tok.nt]).length:Nat):Int) - 1)=(((pre++l).length:Nat):Int):=by simp;lia
   erw[rwl (e0 ..) ?_]
   have hT2:T=(pre++l)++Tok.nt::post:=by erw[rwl (hT ..) ?_];simp
   have hv:=ih k pre (Tok.nt::post) T n (by lia) (by erw[rwl (hT ..) ?_];simp) hl hn
   have ec:ev (ΓV (ZcA k)) (stV T (((pre++l).length:Nat):Int) n (.fz (.str (wordOf .nt))) (.fz (.list [])) .un .un .un) (.call 17 (.cons (.var 0) (.cons (.bin .sub (.var 1) (.const (.int 1))) (.cons (.var 2) .nil))))=some (.tuple [.bool (f n),.int ((pre.length:Int) - 1)]):=by
    refine Zml rfl rfl (ZaF (p:=.int (((pre++l).length:Nat):Int)) (q:=.int 1) rfl rfl rfl) ?_
    erw[rwl (List.length_append ..) ?_]
    exact hv
   have e1:Zaq (Zde .nt)=[]:=rfl
   refine Zbc rfl (Zjg (t:=.nt) hT2 hl ?_)
   erw[rwl (e1 ..) ?_]
   refine⟨_,Zaa (x_f (Zaj rfl rfl rfl) rfl) (Zaa (σ':=stV T (((pre++l).length:Nat):Int) n (.fz (.str (wordOf .nt))) (.fz (.list [])) (.fz (.bool (f n))) (.fz (.int ((pre.length:Int) - 1))) .un) ?_ (Za6 (x_t (Zaj rfl rfl rfl) (Za6 (ZbF rfl)))))⟩
   exact ZmE ec rfl
 | @op l l' f g o h h' ih ih'=>
  intro k pre post T n hk hT hl hn
  match k,hk with
  | 0,hk=>exact absurd hk (by simp)
  | k+1,hk=>
   simp at hk
   have e0:(((pre.length+(l++l'++[Tok.op o]).length:Nat):Int) - 1)=(((pre++l++l').length:Nat):Int):=by simp;lia
   erw[rwl (e0 ..) ?_]
   have hT2:T=(pre++l++l')++Tok.op o::post:=by erw[rwl (hT ..) ?_];simp
   have hv':=ih' k (pre++l) (Tok.op o::post) T n (by lia) (by erw[rwl (hT ..) ?_];simp) hl hn
   have hv:=ih k pre (l'++Tok.op o::post) T n (by lia) (by erw[rwl (hT ..) ?_];simp) hl hn
   have ec':ev (ΓV (ZcA k)) (stV T (((pre++l++l').length:Nat):Int) n (.fz (.str (wordOf (.op o)))) (.fz (.list [])) .un .un .un) (.call 17 (.cons (.var 0) (.cons (.bin .sub (.var 1) (.const (.int 1))) (.cons (.var 2) .nil))))=some (.tuple [.bool (g n),.int (((pre++l).length:Int) - 1)]):=by
    refine Zml rfl rfl (ZaF (p:=.int (((pre++l++l').length:Nat):Int)) (q:=.int 1) rfl rfl rfl) ?_
    erw[rwl (List.length_append (as:=pre++l) ..) ?_]
    exact hv'
   have ec:ev (ΓV (ZcA k)) (stV T (((pre++l++l').length:Nat):Int) n (.fz (.str (wordOf (.op o)))) (.fz (.list [])) (.fz (.bool (g n))) (.fz (.int (((pre++l).length:Int) - 1))) .un) (.call 17 (.cons (.var 0) (.cons (.var 6) (.cons (.var 2) .nil))))=some (.tuple [.bool (f n),.int ((pre.length:Int) - 1)]):=by
    refine Zml (e:=((pre++l).length:Int) - 1) rfl rfl rfl ?_
    erw[rwl (List.length_append ..) ?_]
    exact hv
   have e1:Zaq (Zde (.op o))=[]:=rfl
   refine Zbc rfl ?_
   have go:∀{b:S} {r:Option (Fl×Sg)},ex (ΓV (ZcA k)) fuel b (stV T (((pre++l++l').length:Nat):Int) n (.fz (.str (wordOf (.op o)))) (.fz (.list [])) (.fz (.bool (g n))) (.fz (.int ((pre.length:Int) - 1))) (.fz (.bool (f n))))=r->
     ex (ΓV (ZcA k)) fuel (.seq (.ifs (.tcmp .eq (.var 3) (.const (.str [110,97,109,101]))) (.seq (.ret (.tuple (.cons (.call 8 (.cons (.var 4) (.cons (.var 2) .nil))) (.cons (.bin .sub (.var 1) (.const (.int 1))) .nil)))) <| .skip) (.skip)) (.seq (.unp [5,6] (.call 17 (.cons (.var 0) (.cons (.bin .sub (.var 1) (.const (.int 1))) (.cons (.var 2) .nil))))) (.seq (.ifs (.tcmp .eq (.var 3) (.const (.str [110,111,116]))) (.seq (.ret (.tuple (.cons (.not (.var 5)) (.cons (.var 6) .nil)))) <| .skip) (.skip)) (.seq (.unp [7,6] (.call 17 (.cons (.var 0) (.cons (.var 6) (.cons (.var 2) .nil))))) b)))) (stV T (((pre++l++l').length:Nat):Int) n (.fz (.str (wordOf (.op o)))) (.fz (.list [])) .un .un .un)=r:=by
    intro b r hb
    have n1:tv (ΓV (ZcA k)) (stV T (((pre++l++l').length:Nat):Int) n (.fz (.str (wordOf (.op o)))) (.fz (.list [])) .un .un .un) (.tcmp .eq (.var 3) (.const (.str [110,97,109,101])))=some false:=by cases o<;>exact Zaj rfl rfl rfl
    have n2:tv (ΓV (ZcA k)) (stV T (((pre++l++l').length:Nat):Int) n (.fz (.str (wordOf (.op o)))) (.fz (.list [])) (.fz (.bool (g n))) (.fz (.int (((pre++l).length:Int) - 1))) .un) (.tcmp .eq (.var 3) (.const (.str [110,111,116])))=some false:=by cases o<;>exact Zaj rfl rfl rfl
    refine Zaa (x_f n1 rfl) (Zaa (σ':=stV T (((pre++l++l').length:Nat):Int) n (.fz (.str (wordOf (.op o)))) (.fz (.list [])) (.fz (.bool (g n))) (.fz (.int (((pre++l).length:Int) - 1))) .un) ?_ (Zaa (x_f n2 rfl) (Zaa ?_ hb)))
    ·exact ZmE ec' rfl
    ·exact ZmE ec rfl
   cases o with
   | an=>
    refine Zjg (t:=.op .an) hT2 hl ?_
    erw[rwl (e1 ..) ?_]
    refine⟨_,go (Za6 (x_t (Zaj rfl rfl rfl) (Za6 (ZbF (d:=.tuple [.bool (opF .an f g n),.int ((pre.length:Int) - 1)]) ?_))))⟩
    have eb:∀σ:Sg,rd σ 7=some (.bool (f n))->rd σ 5=some (.bool (g n))->ev (ΓV (ZcA k)) σ (.band (.cons (.var 7) (.cons (.var 5) .nil)))=some (.bool (f n&&g n)):=λσ h7 h5=>by
     show ZeW _ _ _=_
     refine Zc7 (a:=f n) h7 (λq=>ZdJ (q▸h5)) (λq=>by erw[rwl (q ..) ?_];rfl)
    exact ZiL (ZaP (eb _ rfl rfl) (Zb8 rfl)) (Nat.le_of_ble_eq_true rfl)
   | orr=>
    refine Zjg (t:=.op .orr) hT2 hl ?_
    erw[rwl (e1 ..) ?_]
    refine⟨_,go (Zaa (x_f (Zaj rfl rfl rfl) rfl) (Za6 (x_t (Zaj rfl rfl rfl) (Za6 (ZbF (d:=.tuple [.bool (opF .orr f g n),.int ((pre.length:Int) - 1)]) ?_)))))⟩
    have eb:∀σ:Sg,rd σ 7=some (.bool (f n))->rd σ 5=some (.bool (g n))->ev (ΓV (ZcA k)) σ (.bor (.cons (.var 7) (.cons (.var 5) .nil)))=some (.bool (f n||g n)):=λσ h7 h5=>by
     show Zk6 _ _ _=_
     refine ZcJ (a:=f n) h7 (λq=>ZeS (q▸h5)) (λq=>by erw[rwl (q ..) ?_];rfl)
    exact ZiL (ZaP (eb _ rfl rfl) (Zb8 rfl)) (Nat.le_of_ble_eq_true rfl)
   | ls=>
    refine Zjg (t:=.op .ls) hT2 hl ?_
    erw[rwl (e1 ..) ?_]
    refine⟨_,go (Zaa (x_f (Zaj rfl rfl rfl) rfl) (Zaa (x_f (Zaj rfl rfl rfl) rfl) (Za6 (ZbF (d:=.tuple [.bool (opF .ls f g n),.int ((pre.length:Int) - 1)]) ?_))))⟩
    have eb:∀σ:Sg,rd σ 7=some (.bool (f n))->rd σ 5=some (.bool (g n))->ev (ΓV (ZcA k)) σ (.band (.cons (.var 7) (.cons (.not (.var 5)) .nil)))=some (.bool (f n&&!g n)):=λσ h7 h5=>by
     show ZeW _ _ _=_
     refine Zc7 (a:=f n) h7 (λq=>ZdJ ((ZuY (x:=.var 5) (p:=.bool (g n)) (b:=g n) h5 rfl).trans (by erw[rwl (q ..) ?_];rfl))) (λq=>by erw[rwl (q ..) ?_];rfl)
    exact ZiL (ZaP (eb _ rfl rfl) (Zb8 rfl)) (Nat.le_of_ble_eq_true rfl)
end
section
set_option backward.match.sparseCases false
theorem Zvw:ΓD 17=ZcA 12:=rfl
noncomputable def ZoV:S:=match Zey with
 | .seq _ (.seq _ (.seq (.whl _ b) _))=>b
 | _=>.skip
noncomputable def stW(names:List (List Nat))(T:List Tok)(st:List Pd)(e:Int)(s4:Slot):Sg:=[.fz (.list (T.map Zeq)),.fz (ZaJ names),.fz (Zax names st),.fz (.int e),s4,.un,.un]
noncomputable def ZuC(f:Pd)(e:Int):D->D
 | .str n=>.tuple [.bool (f n),.int e]
 | _=>.none
noncomputable def ZeZ(names:List (List Nat))(f:Pd)(e:Int):D:=.list (names.map λn=>.tuple [.bool (f n),.int e])
noncomputable def ZtB(names:List (List Nat))(f:Pd):D->Bool
 | .int i=>f (names.getD i.toNat [])
 | _=>false
noncomputable def ZsK(names:List (List Nat)):D->D
 | .int i=>.str (names.getD i.toNat [])
 | _=>.none
theorem range_getD(names:List (List Nat)):(List.range names.length).map (λi=>names.getD i [])=names:=by
 apply List.ext_getElem
 ·simp
 ·intro i h1 h2
  erw[rwl (List.getElem_map ..) (rwl (List.getElem_range ..) (rwl (List.getD_eq_getElem?_getD ..) (rwl (List.getElem?_eq_getElem h2 ..) ?_)))]
  rfl
theorem Zpq(names:List (List Nat))(f:Pd):((((List.range names.length).map λ(i:Nat)=>D.int (i:Int)).filter (ZtB names f)).map (ZsK names))=(names.filter f).map D.str:=by
 erw[rwl (List.filter_map ..) (rwl (List.map_map ..) ?_)]
 have h:names.filter f=((List.range names.length).filter (f ∘ λi=>names.getD i [])).map λi=>names.getD i []:=by
  erw[rwr (List.filter_map ..) (rwl (range_getD ..) ?_)]
 erw[rwl (h ..) (rwl (List.map_map ..) ?_)]
 rfl
section
variable {names:List (List Nat)}{T:List Tok}{st:List Pd}{s4:Slot}
theorem ZqO(nk:Zbr names){l pre post:List Tok}{f:Pd}(h:Seg l f)(hT:T=pre++(l++post))(hl:T.length<=12)(hst:st.length<=1000) :
  ex ΓD fuel ZoV (stW names T st (((pre.length+l.length:Nat):Int) - 1) s4)=some (.next,stW names T (f::st) ((pre.length:Int) - 1) (.fz (ZeZ names f ((pre.length:Int) - 1)))):=by
 have hll:l.length<=12:=by rw[hT] at hl;simp at hl;lia
 have hnl:=nk.len
 have c1:=ZfU (Γ:=ΓD) (σ:=stW names T st (((pre.length+l.length:Nat):Int) - 1) s4) (fr:=[0,3]) (t:=5) (e:=.call 17 (.cons (.var 0) (.cons (.var 3) (.cons (.var 5) .nil)))) (it:=.var 1) (ds:=names.map .str) (g:=ZuC f ((pre.length:Int) - 1)) rfl (by simp;lia) (λd hd=>by
  obtain⟨n,hn,rfl⟩:=List.mem_map.mp hd
  exact Zbd (ds:=[.list (T.map Zeq),.int (((pre.length+l.length:Nat):Int) - 1),.str n]) rfl ((congrFun Zvw _).trans (val_eq h 12 pre post T n hll hT (by lia) (nk.each n hn))))
 rw[List.map_map] at c1
 have c1':ex ΓD fuel (.asg 4 (.comp [0,3] 5 (.call 17 (.cons (.var 0) (.cons (.var 3) (.cons (.var 5) .nil)))) (.var 1) (.const .none))) (stW names T st (((pre.length+l.length:Nat):Int) - 1) s4)=some (.next,stW names T st (((pre.length+l.length:Nat):Int) - 1) (.fz (ZeZ names f ((pre.length:Int) - 1)))):=Zaw c1
 have c2:=Zl7 (Γ:=ΓD) (σ:=stW names T st (((pre.length+l.length:Nat):Int) - 1) (.fz (ZeZ names f ((pre.length:Int) - 1)))) (fr:=[1,4]) (t:=6) (e:=.idx (.var 1) (.var 6)) (it:=.range1 (.bfn .len (.var 1))) (c:=.tval (.idx (.idx (.var 4) (.var 6)) (.const (.int 0)))) (p:=ZtB names f) (g:=ZsK names) rfl
  (Zcv (n:=names.length) (Zdo rfl (by show some (D.int ((names.map D.str).length:Int))=_;erw[rwl (List.length_map ..) ?_])) (by lia)) (by simp;lia) (λd hd=>by
   obtain⟨k,hk,rfl⟩:=List.mem_map.mp hd
   have hk:k < names.length:=List.mem_range.mp hk
   have hg:names[k]? = some (names.getD k []):=by erw[rwl (List.getD_eq_getElem?_getD ..) (rwl (List.getElem?_eq_getElem hk ..) ?_)];rfl
   exact Zcz (d:=.bool (f (names.getD k []))) (ZaL (p:=.tuple [.bool (f (names.getD k [])),.int ((pre.length:Int) - 1)]) (q:=.int 0) (ZaL (p:=ZeZ names f ((pre.length:Int) - 1)) (q:=.int (k:Int)) rfl rfl (ZaM (by erw[rwl (List.getElem?_map ..) (rwl (hg ..) ?_)];rfl) (by lia))) rfl (ZmA (i:=0) rfl (by lia))) rfl) (λd hd _=>by
   obtain⟨k,hk,rfl⟩:=List.mem_map.mp hd
   have hk:k < names.length:=List.mem_range.mp hk
   have hg:names[k]? = some (names.getD k []):=by erw[rwl (List.getD_eq_getElem?_getD ..) (rwl (List.getElem?_eq_getElem hk ..) ?_)];rfl
   exact ZaL (p:=ZaJ names) (q:=.int (k:Int)) rfl rfl (ZaM (by erw[rwl (List.getElem?_map ..) (rwl (hg ..) ?_)];rfl) (by lia)))
 rw[Zpq] at c2
 refine Zaa c1' (Zaa (σ':=stW names T (f::st) (((pre.length+l.length:Nat):Int) - 1) (.fz (ZeZ names f ((pre.length:Int) - 1)))) (Zaw (ZaF (p:=.list [Zbs names f]) (q:=Zax names st) ?_ rfl ?_)) (Zaf (Zaw ?_)))
 ·exact ZnD (Zb8 c2) (Nat.le_of_ble_eq_true rfl)
 ·exact ZcU (l:=[Zbs names f]++st.map (Zbs names)) (by simp;lia)
 ·obtain⟨n0,r,hn⟩:∃n0 r,names=n0::r:=by
   have:=nk.ne
   cases names with
   | nil=>exact absurd rfl this
   | cons a r=>exact⟨a,r,rfl⟩
  exact ZaL (p:=.tuple [.bool (f n0),.int ((pre.length:Int) - 1)]) (q:=.int 1) (ZaL (p:=ZeZ names f ((pre.length:Int) - 1)) (q:=.int 0) rfl rfl (ZaM (i:=0) (by erw[rwl (hn ..) ?_];rfl) (by lia))) rfl (ZmA (i:=1) rfl (by lia))
noncomputable def Zh4(S:List (List Tok×Pd)):List Tok:=S.flatMap (·.1)
noncomputable def ZqT(S:List (List Tok×Pd)):Prop:=∀s∈S,Seg s.1 s.2
theorem Zlp(nk:Zbr names)(hl:T.length<=12):∀(m:Nat) (S:List (List Tok×Pd)) (post:List Tok) (st:List Pd) (s4:Slot) (N:Nat),S.length=m->ZqT S->T=Zh4 S++post->st.length+m<=1000->m < N->
  ∃t4,Zbj (λσ=>tv ΓD σ (.tcmp .ge (.var 3) (.const (.int 0)))) (ex ΓD fuel ZoV) N (stW names T st (((Zh4 S).length:Int) - 1) s4)=some (.next,stW names T (S.map (·.2)++st) (-1) t4)
 | 0,S,post,st,s4,N+1,hm,_,_,_,_=>by
  have:S=[]:=List.eq_nil_of_length_eq_zero hm
  subst this
  exact⟨s4,ZcT (Zaj (p:=.int (-1)) (q:=.int 0) rfl rfl rfl)⟩
 | m+1,S,post,st,s4,N+1,hm,hS,hT,hst,hN=>by
  obtain⟨S',s,rfl⟩:∃S' s,S=S'++[s]:=by
   rcases List.eq_nil_or_concat S with h | ⟨a,b,h⟩
   ·rw[h] at hm;cases hm
   ·exact⟨a,b,by erw[rwl (h ..) ?_];simp⟩
  have hseg:=hS s (by simp)
  have hne:=ZtC hseg
  have e1:Zh4 (S'++[s])=Zh4 S'++s.1:=by unfold Zh4;simp
  have e2:(Zh4 (S'++[s])).length=(Zh4 S').length+s.1.length:=by erw[rwl (e1 ..) (rwl (List.length_append ..) ?_)]
  have hb:=ZqO (st:=st) (s4:=s4) nk hseg (pre:=Zh4 S') (post:=post) (by erw[rwl (hT ..) (rwl (e1 ..) ?_)];simp) hl (by lia)
  obtain⟨t4,ih⟩:=Zlp nk hl m S' (s.1++post) (s.2::st) (.fz (ZeZ names s.2 (((Zh4 S').length:Int) - 1))) N (by simpa using hm) (λv hv=>hS v (by simp[hv])) (by erw[rwl (hT ..) (rwl (e1 ..) ?_)];simp) (by simp;lia) (by lia)
  refine⟨t4,?_⟩
  erw[rwl (e2 ..) ?_]
  have go:tv ΓD (stW names T st ((((Zh4 S').length+s.1.length:Nat):Int) - 1) s4) (.tcmp .ge (.var 3) (.const (.int 0)))=some true:=by
   refine Zaj (p:=.int ((((Zh4 S').length+s.1.length:Nat):Int) - 1)) (q:=.int 0) rfl rfl ?_
   show some (decide _)=_
   rw[decide_eq_true (by lia)]
  refine ZiJ go hb (ih.trans ?_)
  simp
 | _,_,_,_,_,0,_,_,_,_,hN=>absurd hN (Nat.not_lt_zero _)
theorem Zjs(nk:Zbr names){S:List (List Tok×Pd)}(hS:ZqT S)(hT:Zh4 S=T)(hl:T.length<=12)(hSl:S.length<=900):ZnO [.list (T.map Zeq),ZaJ names]=some (Zax names (S.map (·.2))):=by
 obtain⟨t4,h⟩:=Zlp (T:=T) nk hl S.length S [] [] .un fuel rfl hS (by erw[rwl (hT ..) ?_];simp) (by simp;lia) (by simp[fuel];lia)
 rw[hT,List.append_nil] at h
 refine Zbc rfl ⟨_,Zaa (σ':=[.fz (.list (T.map Zeq)),.fz (ZaJ names),.fz (.list []),.un,.un,.un,.un]) rfl (Zaa (σ':=stW names T [] ((T.length:Int) - 1) .un) ?_ (Zaa h (Za6 (ZbF rfl))))⟩
 refine Zaw (ZaF (p:=.int (T.length:Int)) (q:=.int 1) (Zdo rfl ?_) rfl rfl)
 show some (D.int ((T.map Zeq).length:Int))=_
 erw[rwl (List.length_map ..) ?_]
end
inductive WfE:List Tok->Nat->Prop
 | nil:WfE [] 0
 | nm {T:List Tok} {d:Nat} {p:List Nat}:WfE T d->p.length<=40->WfE (T++[.nm p]) (d+1)
 | nt {T:List Tok} {d:Nat}:WfE T d->1<=d->WfE (T++[.nt]) d
 | op {T:List Tok} {d:Nat} (o:Op):WfE T d->2<=d->WfE (T++[.op o]) (d - 1)
theorem ZpN{T:List Tok}{d:Nat}(h:WfE T d):∀c,∃d',WfE (T.take c) d':=by
 induction h with
 | nil=>intro c;exact⟨0,by erw[rwl (List.take_nil ..) ?_];exact .nil⟩
 | @nm T d p h hp ih=>
  intro c
  by_cases hc:c<=T.length
  ·erw[rwl (List.take_append_of_le_length hc ..) ?_];exact ih c
  ·rw[List.take_of_length_le (by simp;lia)];exact⟨_,.nm h hp⟩
 | @nt T d h hp ih=>
  intro c
  by_cases hc:c<=T.length
  ·erw[rwl (List.take_append_of_le_length hc ..) ?_];exact ih c
  ·rw[List.take_of_length_le (by simp;lia)];exact⟨_,.nt h hp⟩
 | @op T d o h hp ih=>
  intro c
  by_cases hc:c<=T.length
  ·erw[rwl (List.take_append_of_le_length hc ..) ?_];exact ih c
  ·rw[List.take_of_length_le (by simp;lia)];exact⟨_,.op o h hp⟩
theorem ZcX(f:D->D->Option D):∀(a b:List D) (s:D),ZbN f (a++b) s=(ZbN f a s).bind (ZbN f b)
 | [],b,s=>rfl
 | d::a,b,s=>by
  erw[rwl (List.cons_append ..) (rwl (Zvb ..) (rwl (Zvb ..) ?_))]
  cases h:f s d with
  | none=>rfl
  | some s'=>exact ZcX f a b s'
theorem ZvW:ΓE 16=Zgw:=rfl
theorem Zin(names:List (List Nat))(a b:D):Zbh ΓE (ZaJ names) Zdj a b=Zgw [ZaJ names,a,b]:=by
 unfold Zbh Zdj
 exact Zbd (ds:=[ZaJ names,a,b]) rfl (congrFun ZvW _)
theorem fwd{names:List (List Nat)}(nk:Zbr names){T:List Tok}{d:Nat}(h:WfE T d):T.length<=500->∃S,ZqT S∧Zh4 S=T∧S.length=d∧d<=T.length∧ZbN (Zbh ΓE (ZaJ names) Zdj) (T.map ZeM) (.list [])=some (Zax names (S.map (·.2))):=by
 induction h with
 | nil=>intro _;exact⟨[],(λs hs=>by cases hs),rfl,rfl,Nat.le_refl _,rfl⟩
 | @nm T d p h hp ih=>
  intro hl
  simp at hl
  obtain⟨S,h1,h2,h3,h4,h5⟩:=ih (by lia)
  refine⟨S++[([.nm p],λn=>Zei (Zaq p) n)],?_,?_,by simp[h3],by simp;lia,?_⟩
  ·intro s hs
   rcases List.mem_append.mp hs with hs | hs
   ·exact h1 s hs
   ·simp at hs;subst hs;exact .nm hp
  ·unfold Zh4 at h2 ⊢;simp[h2]
  ·erw[rwl (List.map_append ..) (rwl (ZcX ..) (rwl (h5 ..) ?_))]
   show((Zbh ΓE (ZaJ names) Zdj (Zax names (S.map (·.2))) (ZeM (.nm p))).bind (ZbN _ []))=_
   rw[Zin,ZnZ nk hp (by simp;lia),List.map_append]
   rfl
 | @nt T d h hp ih=>
  intro hl
  simp at hl
  obtain⟨S,h1,h2,h3,h4,h5⟩:=ih (by lia)
  obtain⟨S',s,rfl⟩:∃S' s,S=S'++[s]:=by
   rcases List.eq_nil_or_concat S with h | ⟨a,b,h⟩
   ·rw[h] at h3;simp at h3;lia
   ·exact⟨a,b,by erw[rwl (h ..) ?_];simp⟩
  refine⟨S'++[(s.1++[.nt],λn=>!s.2 n)],?_,?_,by simpa using h3,by simp;lia,?_⟩
  ·intro v hv
   rcases List.mem_append.mp hv with hv | hv
   ·exact h1 v (by simp[hv])
   ·simp at hv;subst hv;exact .nt (h1 s (by simp))
  ·unfold Zh4 at h2 ⊢;simp[←h2]
  ·erw[rwl (List.map_append ..) (rwl (ZcX ..) (rwl (h5 ..) ?_))]
   show((Zbh ΓE (ZaJ names) Zdj (Zax names ((S'++[s]).map (·.2))) (ZeM .nt)).bind (ZbN _ []))=_
   erw[rwl (Zin ..) (rwl (List.map_append ..) ?_)]
   show((Zgw [ZaJ names,Zax names (S'.map (·.2)++[s.2]),ZeM .nt]).bind _)=_
   rw[Zoo nk (by simp at h3 ⊢;lia),List.map_append]
   rfl
 | @op T d o h hp ih=>
  intro hl
  simp at hl
  obtain⟨S,h1,h2,h3,h4,h5⟩:=ih (by lia)
  obtain⟨S',s,s',rfl⟩:∃S' s s',S=S'++[s,s']:=by
   rcases List.eq_nil_or_concat S with h | ⟨a,b,h⟩
   ·rw[h] at h3;simp at h3;lia
   ·rcases List.eq_nil_or_concat a with h' | ⟨a',b',h'⟩
    ·rw[h,h'] at h3;simp at h3;lia
    ·exact⟨a',b',b,by erw[rwl (h ..) (rwl (h' ..) ?_)];simp⟩
  refine⟨S'++[(s.1++s'.1++[.op o],opF o s.2 s'.2)],?_,?_,by simp at h3 ⊢;lia,by simp;lia,?_⟩
  ·intro v hv
   rcases List.mem_append.mp hv with hv | hv
   ·exact h1 v (by simp[hv])
   ·rw[List.mem_singleton] at hv;subst hv;exact .op o (h1 s (by simp)) (h1 s' (by simp))
  ·unfold Zh4 at h2 ⊢;simp[←h2]
  ·erw[rwl (List.map_append ..) (rwl (ZcX ..) (rwl (h5 ..) ?_))]
   show((Zbh ΓE (ZaJ names) Zdj (Zax names ((S'++[s,s']).map (·.2))) (ZeM (.op o))).bind (ZbN _ []))=_
   erw[rwl (Zin ..) (rwl (List.map_append ..) ?_)]
   show((Zgw [ZaJ names,Zax names (S'.map (·.2)++[s.2,s'.2]),ZeM (.op o)]).bind _)=_
   rw[ZnW nk o (by simp at h3 ⊢;lia),List.map_append]
   rfl
theorem Zgd(names:List (List Nat))(st:List Pd):eqD (Zax names st) (Zax names st)=some true:=by
 cases st with
 | nil=>rfl
 | cons f st=>
  have hs:∀st:List Pd,Zeu (st.map (Zbs names))=some (st.map λf=>names.filter f):=by
   intro st
   induction st with
   | nil=>rfl
   | cons f st ih=>
    show((strs? ((names.filter f).map D.str)).bind λx=>(Zeu (st.map (Zbs names))).map (x::·))=_
    erw[rwl (strs_map ..) (rwl (ih ..) ?_)];rfl
  exact Zag (hs (f::st)) (Zag (hs (f::st)) (congrArg some (beq_self_eq_true _)))
end
section
set_option backward.match.sparseCases false
noncomputable def ZaY(x y:Nat):List (List Nat):=[[],[x],[y],[x,x],[x,y],[y,x],[y,y],[x,x,x],[x,x,y],[x,y,x],[x,y,y],[y,x,x],[y,x,y],[y,y,x],[y,y,y]]
theorem Znh(x y:Nat):Zbr (ZaY x y):=⟨by simp[ZaY],by simp[ZaY],λn hn=>by
 simp only[ZaY,List.mem_cons,List.not_mem_nil,or_false] at hn
 rcases hn with rfl | rfl | rfl | rfl | rfl | rfl | rfl | rfl | rfl | rfl | rfl | rfl | rfl | rfl | rfl<;>simp⟩
noncomputable def Zmm:S:=match Zew with
 | .seq _ (.seq (.fors _ _ b) _)=>b
 | _=>.skip
noncomputable def stN(x y:Nat)(ns:List (List Nat))(s3:Slot):Sg:=[.fz (.str [x]),.fz (.str [y]),.own (ns.map .str),s3]
theorem Zdn{x y k:Nat}{ns:List (List Nat)}{s:List Nat}{s3:Slot}(hs:ns[k]? = some s)(hk:k<=100)(hl:ns.length<=100)(hsl:s.length<=100):ex noΓ fuel Zmm ((stN x y ns s3).set 3 (.fz (.int (k:Int))))=some (.next,stN x y (ns++[s++[x],s++[y]]) (.fz (.int (k:Int)))):=by
 have ei:ev noΓ (stN x y ns (.fz (.int (k:Int)))) (.idx (.tvar 2) (.var 3))=some (.str s):=ZaL (p:=.list (ns.map .str)) (q:=.int (k:Int)) rfl rfl (ZaM (by erw[rwl (List.getElem?_map ..) (rwl (hs ..) ?_)];rfl) (by lia))
 have e1:ev noΓ (stN x y ns (.fz (.int (k:Int)))) (.bin .add (.idx (.tvar 2) (.var 3)) (.var 0))=some (.str (s++[x])):=ZaF ei (q:=.str [x]) rfl (Zcn (by simp;lia))
 have e2:ev noΓ (stN x y ns (.fz (.int (k:Int)))) (.bin .add (.idx (.tvar 2) (.var 3)) (.var 1))=some (.str (s++[y])):=ZaF ei (q:=.str [y]) rfl (Zcn (by simp;lia))
 refine Zaf ?_
 show ex noΓ fuel _ (stN x y ns (.fz (.int (k:Int))))=_
 have eL:evL noΓ (stN x y ns (.fz (.int (k:Int)))) (.cons (.bin .add (.idx (.tvar 2) (.var 3)) (.var 0)) (.cons (.bin .add (.idx (.tvar 2) (.var 3)) (.var 1)) .nil))=some [.str (s++[x]),.str (s++[y])]:=by
  exact ZaP e1 (Zb8 e2)
 show(some (ns.map D.str)).bind _=_
 refine Zag rfl (Zag eL ((if_pos (by simp;lia)).trans ?_))
 show some (Fl.next,[Slot.fz (.str [x]),.fz (.str [y]),.own (ns.map D.str++[.str (s++[x]),.str (s++[y])]),.fz (.int (k:Int))])=some (Fl.next,[Slot.fz (.str [x]),.fz (.str [y]),.own ((ns++[s++[x],s++[y]]).map .str),.fz (.int (k:Int))])
 erw[rwl (List.map_append ..) ?_];rfl
theorem Zoy(x y:Nat):ZnC [.str [x],.str [y]]=some (ZaJ (ZaY x y)):=by
 have h:forL 3 (ex noΓ fuel Zmm) ((List.range 7).map λ(i:Nat)=>D.int (i:Int)) (stN x y [[]] .un)=some (.next,stN x y (ZaY x y) (.fz (.int ((6:Nat):Int)))):=by
  show forL 3 (ex noΓ fuel Zmm) [.int ((0:Nat):Int),.int ((1:Nat):Int),.int ((2:Nat):Int),.int ((3:Nat):Int),.int ((4:Nat):Int),.int ((5:Nat):Int),.int ((6:Nat):Int)] _=_
  refine Zkr (Zdn (s:=[]) rfl (by decide) (by simp) (by simp)) ?_
  refine Zkr (Zdn (s:=[x]) rfl (by decide) (by simp) (by simp)) ?_
  refine Zkr (Zdn (s:=[y]) rfl (by decide) (by simp) (by simp)) ?_
  refine Zkr (Zdn (s:=[x,x]) rfl (by decide) (by simp) (by simp)) ?_
  refine Zkr (Zdn (s:=[x,y]) rfl (by decide) (by simp) (by simp)) ?_
  refine Zkr (Zdn (s:=[y,x]) rfl (by decide) (by simp) (by simp)) ?_
  refine Zkr (Zdn (s:=[y,y]) rfl (by decide) (by simp) (by simp)) ?_
  rfl
 exact Zbc rfl ⟨_,Zaa (σ':=stN x y [[]] .un) rfl (Zaa (Zfg (Zcv (n:=7) rfl (by decide)) (by simp) h) (Za6 (ZbF rfl)))⟩
theorem Zoa(z:Int):∃c,ZnQ [.int z]=some (.str [c]):=by
 have h1:0<=z % 1112064:=Int.emod_nonneg _ (by decide)
 have h2:z % 1112064 < 1112064:=Int.emod_lt_of_pos _ (by decide)
 have e1:ex noΓ fuel (.asg 1 (.bin .mod (.var 0) (.const (.int 1112064)))) (ZeV 2 [.int z])=some (.next,[.fz (.int z),.fz (.int (z % 1112064))]):=Zaw (ZaF (p:=.int z) (q:=.int 1112064) rfl rfl rfl)
 have hb:∀w:Int,0<=w->w < 1114112->bfn .chr (.int w)=some (.str [w.toNat]):=λw a b=>if_pos ⟨a,b⟩
 by_cases h:z % 1112064 < 55296
 ·have ht:tv noΓ (frz [.fz (.int z),.fz (.int (z % 1112064))]) (.tcmp .lt (.var 1) (.const (.int 55296)))=some true:=(lt_int (a:=z % 1112064) (b:=55296) rfl rfl).trans (by erw[rwl (decide_eq_true h ..) ?_])
  exact⟨(z % 1112064).toNat,Zbc rfl ⟨_,Zaa e1 (Za6 (ZbF (Zdo (ZeX ht rfl) (hb _ h1 (by lia)))))⟩⟩
 ·have ht:tv noΓ (frz [.fz (.int z),.fz (.int (z % 1112064))]) (.tcmp .lt (.var 1) (.const (.int 55296)))=some false:=(lt_int (a:=z % 1112064) (b:=55296) rfl rfl).trans (by erw[rwl (decide_eq_false h ..) ?_])
  exact⟨(z % 1112064+2048).toNat,Zbc rfl ⟨_,Zaa e1 (Za6 (ZbF (Zdo (Zgq ht (ZaF (p:=.int (z % 1112064)) (q:=.int 2048) rfl rfl rfl)) (hb _ (by lia) (by lia)))))⟩⟩
noncomputable def ZaX(x y w:Nat):List (List Nat):=[[],[42],[63],[x],[y],[91],[93],[91,33],[45],[33],[y,45,x],[x,45,y],[91,x],[94],[92],[w]]
theorem ZvF:ΓA 13=ZnQ:=rfl
noncomputable def Zpa(ps:List (List Nat))(z:Int):D->D
 | .int k=>.str (ps.getD (z / 16 ^ k.toNat % 16).toNat [])
 | _=>.none
theorem ZnH(z:Int)(x y:Nat):∃p:List Nat,p.length<=40∧ZoE [.int z,.str [x],.str [y]]=some (.str p):=by
 obtain⟨w,hw⟩:=Zoa (z / 65536)
 have e13:ev ΓA (ZeV 5 [.int z,.str [x],.str [y]]) (.call 13 (.cons (.bin .fdiv (.var 0) (.bin .pow (.const (.int 16)) (.const (.int 4)))) .nil))=some (.str [w]):=by
  refine Zbd (ds:=[.int (z / 65536)]) ?_ ((congrFun ZvF _).trans hw)
  have:ev ΓA (ZeV 5 [.int z,.str [x],.str [y]]) (.bin .fdiv (.var 0) (.bin .pow (.const (.int 16)) (.const (.int 4))))=some (.int (z / 65536)):=ZaF (p:=.int z) (q:=.int 65536) rfl rfl rfl
  exact Zb8 this
 have ep:ev ΓA (ZeV 5 [.int z,.str [x],.str [y]]) (.list (.cons (.const (.str [])) (.cons (.const (.str [42])) (.cons (.const (.str [63])) (.cons (.var 1) (.cons (.var 2) (.cons (.const (.str [91])) (.cons (.const (.str [93])) (.cons (.const (.str [91,33])) (.cons (.const (.str [45])) (.cons (.const (.str [33])) (.cons (.bin .add (.bin .add (.var 2) (.const (.str [45]))) (.var 1)) (.cons (.bin .add (.bin .add (.var 1) (.const (.str [45]))) (.var 2)) (.cons (.bin .add (.const (.str [91])) (.var 1)) (.cons (.const (.str [94])) (.cons (.const (.str [92])) (.cons (.call 13 (.cons (.bin .fdiv (.var 0) (.bin .pow (.const (.int 16)) (.const (.int 4)))) .nil)) .nil)))))))))))))))))=some (.list ((ZaX x y w).map .str)):=by
  exact ZnD (ZaP rfl (ZaP rfl (ZaP rfl (ZaP rfl (ZaP rfl (ZaP rfl (ZaP rfl (ZaP rfl (ZaP rfl (ZaP rfl (ZaP rfl (ZaP rfl (ZaP rfl (ZaP rfl (ZaP rfl (Zb8 e13)))))))))))))))) (Nat.le_of_ble_eq_true rfl)
 have hps:∀i,((ZaX x y w).getD i []).length<=3:=λi=>by
  have:∀l∈ZaX x y w,l.length<=3:=by
   intro l hl
   simp only[ZaX,List.mem_cons,List.not_mem_nil,or_false] at hl
   rcases hl with rfl | rfl | rfl | rfl | rfl | rfl | rfl | rfl | rfl | rfl | rfl | rfl | rfl | rfl | rfl | rfl<;>simp
  rw[List.getD_eq_getElem?_getD]
  cases h:(ZaX x y w)[i]? with
  | none=>simp
  | some l=>exact this l (List.mem_of_getElem? h)
 have hc:=ZfU (Γ:=ΓA) (σ:=frz [.fz (.int z),.fz (.str [x]),.fz (.str [y]),.fz (.list ((ZaX x y w).map .str)),.un]) (fr:=[3,0]) (t:=4) (e:=.idx (.var 3) (.bin .mod (.bin .fdiv (.var 0) (.bin .pow (.const (.int 16)) (.var 4))) (.const (.int 16)))) (it:=.range1 (.const (.int 4))) (g:=Zpa (ZaX x y w) z)
  (Zcv (n:=4) rfl (by lia)) (by simp) (λd hd=>by
   obtain⟨k,hk,rfl⟩:=List.mem_map.mp hd
   have hk:k < 4:=List.mem_range.mp hk
   have h1:0<=z / 16 ^ k % 16:=Int.emod_nonneg _ (by decide)
   have h2:z / 16 ^ k % 16 < 16:=Int.emod_lt_of_pos _ (by decide)
   have hpw:bop .pow (.int 16) (.int (k:Int))=some (.int (16 ^ k)):=if_pos ⟨by lia,by lia,by decide,by decide⟩
   have hdv:bop .fdiv (.int z) (.int (16 ^ k))=some (.int (z / 16 ^ k)):=by
    refine if_pos ?_
    have:k=0∨k=1∨k=2∨k=3:=by lia
    rcases this with rfl | rfl | rfl | rfl<;>decide
   have hm:bop .mod (.int (z / 16 ^ k)) (.int 16)=some (.int (z / 16 ^ k % 16)):=rfl
   have ei:=ZaF (Γ:=ΓA) (σ:=(mask [3,0] (frz [.fz (.int z),.fz (.str [x]),.fz (.str [y]),.fz (.list ((ZaX x y w).map .str)),.un])).set 4 (.fz (.int (k:Int)))) (r:=.const (.int 16)) (ZaF (l:=.var 0) (p:=.int z) rfl (ZaF (l:=.const (.int 16)) (r:=.var 4) (p:=.int 16) (q:=.int (k:Int)) rfl rfl hpw) hdv) rfl hm
   have en:(z / 16 ^ k % 16)=(((z / 16 ^ k % 16).toNat:Nat):Int):=by lia
   rw[en] at ei
   refine ZaL (p:=.list ((ZaX x y w).map .str)) rfl ei (ZaM ?_ (by lia))
   have hlt:(z / 16 ^ k % 16).toNat < (ZaX x y w).length:=by show _ < 16;lia
   rw[List.getElem?_map,List.getElem?_eq_getElem hlt]
   show _=some (D.str ((ZaX x y w).getD (z / 16 ^ k % 16).toNat []))
   rw[List.getD_eq_getElem?_getD,List.getElem?_eq_getElem hlt]
   rfl)
 have hg:((List.range 4).map λ(i:Nat)=>D.int (i:Int)).map (Zpa (ZaX x y w) z)=((List.range 4).map λ(i:Nat)=>(ZaX x y w).getD (z / 16 ^ i % 16).toNat []).map D.str:=by
  rw[List.map_map,List.map_map];rfl
 rw[hg] at hc
 have hflat:(((List.range 4).map λ(i:Nat)=>(ZaX x y w).getD (z / 16 ^ i % 16).toNat []).flatten).length<=12:=by
  have h0:=hps (z / 16 ^ 0 % 16).toNat
  have h1:=hps (z / 16 ^ 1 % 16).toNat
  have h2:=hps (z / 16 ^ 2 % 16).toNat
  have h3:=hps (z / 16 ^ 3 % 16).toNat
  show(((ZaX x y w).getD (z / 16 ^ 0 % 16).toNat []++((ZaX x y w).getD (z / 16 ^ 1 % 16).toNat []++((ZaX x y w).getD (z / 16 ^ 2 % 16).toNat []++((ZaX x y w).getD (z / 16 ^ 3 % 16).toNat []++[]))))).length<=12
  simp only[List.length_append,List.length_nil]
  exact Nat.add_le_add h0 (Nat.add_le_add h1 (Nat.add_le_add h2 (Nat.add_le_add h3 (Nat.le_refl 0))))
 refine⟨_,by lia,Zbc rfl ⟨_,Zaa (σ':=[.fz (.int z),.fz (.str [x]),.fz (.str [y]),.fz (.list ((ZaX x y w).map .str)),.un]) (Zaw ep) (Za6 (ZbF (Zk5 hc (by simp) (by lia))))⟩⟩
end
section
theorem Zvz:ΓE 14=ZnC:=rfl
theorem ZvS:ΓE 15=ZoE:=rfl
theorem Zvi:ΓE 18=ZnO:=rfl
theorem gE6:ΓE 6=ZtL:=rfl
noncomputable def ZoK:S:=match Zht with
 | .seq _ (.seq _ (.seq _ (.seq _ (.seq _ (.seq _ (.seq _ (.seq (.fors _ _ b) _)))))))=>b
 | _=>.skip
noncomputable def stL(l ns:List Int)(x y:Nat)(T:List Tok)(d:Nat)(s8 s9 s10:Slot):Sg:=
 [.fz (.list (l.map .int)),.fz (.list (ns.map .int)),.fz (.int ns.sum),.fz (.str [x]),.fz (.str [y]),.fz (ZaJ (ZaY x y)),.own (T.map ZeM),.fz (.int (d:Int)),s8,s9,s10,.un,.un,.un]
noncomputable def ZhJ:List D:=[.str [110,97,109,101],.str [110,97,109,101],.str [110,97,109,101],.str [110,97,109,101],.str [110,111,116],.str [97,110,100],.str [111,114],.str [108,101,115,115]]
theorem Zot{r:Nat}(h:r < 8):ZhJ[r]? = some (.str [110,97,109,101])∨ZhJ[r]? = some (.str [110,111,116])∨∃o:Op,ZhJ[r]? = some (.str (wordOf (.op o))):=by
 rcases(by decide:∀r < 8,r=0∨r=1∨r=2∨r=3∨r=4∨r=5∨r=6∨r=7) r h with rfl | rfl | rfl | rfl | rfl | rfl | rfl | rfl
 ·exact .inl rfl
 ·exact .inl rfl
 ·exact .inl rfl
 ·exact .inl rfl
 ·exact .inr (.inl rfl)
 ·exact .inr (.inr ⟨.an,rfl⟩)
 ·exact .inr (.inr ⟨.orr,rfl⟩)
 ·exact .inr (.inr ⟨.ls,rfl⟩)
section
variable {l ns:List Int}{x y:Nat}{s8 s9 s10:Slot}
theorem Zil{T:List Tok}{d:Nat}{t:Tok}{e:X}(h:ev ΓE (stL l ns x y T d s8 s9 s10) e=some (ZeM t))(hl:T.length<=1000):ex ΓE fuel (.app 6 e) (stL l ns x y T d s8 s9 s10)=some (.next,stL l ns x y (T++[t]) d s8 s9 s10):=by
 rw[Zel (ds:=T.map ZeM) rfl h (by simp;lia)]
 simp[stL]
theorem Zqd{T:List Tok}{d:Nat}(z:Int)(hT:WfE T d)(hd:1<=d)(hl:T.length<=100) :
  ∃T' d' t8 t9,WfE T' d'∧1<=d'∧T'.length<=T.length+1∧T.length<=T'.length∧ex ΓE fuel ZoK ((stL l ns x y T d s8 s9 s10).set 8 (.fz (.int z)))=some (.next,stL l ns x y T' d' t8 t9 s10):=by
 have h1:0<=z % 8:=Int.emod_nonneg _ (by decide)
 have h2:z % 8 < 8:=Int.emod_lt_of_pos _ (by decide)
 have en:z % 8=(((z % 8).toNat:Nat):Int):=by lia
 have ei:∀w,ZhJ[(z % 8).toNat]? = some (.str w)->ex ΓE fuel (.asg 9 (.idx (.list (.cons (.const (.str [110,97,109,101])) (.cons (.const (.str [110,97,109,101])) (.cons (.const (.str [110,97,109,101])) (.cons (.const (.str [110,97,109,101])) (.cons (.const (.str [110,111,116])) (.cons (.const (.str [97,110,100])) (.cons (.const (.str [111,114])) (.cons (.const (.str [108,101,115,115])) .nil))))))))) (.bin .mod (.var 8) (.const (.int 8))))) (stL l ns x y T d (.fz (.int z)) s9 s10)=some (.next,stL l ns x y T d (.fz (.int z)) (.fz (.str w)) s10):=λw hw=>by
  refine Zaw (ZaL (p:=.list ZhJ) (q:=.int (z % 8)) rfl (ZaF (p:=.int z) (q:=.int 8) rfl rfl rfl) ?_)
  erw[rwl (en ..) ?_]
  exact ZaM hw (by lia)
 rcases Zot (r:=(z % 8).toNat) (by lia) with h | h | ⟨o,h⟩
 ·obtain⟨p,hp,h15⟩:=ZnH (z / 8) x y
  have ec:ev ΓE (stL l ns x y T d (.fz (.int z)) (.fz (.str [110,97,109,101])) s10) (.call 15 (.cons (.bin .fdiv (.var 8) (.const (.int 8))) (.cons (.var 3) (.cons (.var 4) .nil))))=some (.str p):=
   Zbd (ds:=[.int (z / 8),.str [x],.str [y]]) rfl ((congrFun ZvS _).trans h15)
  refine⟨T++[.nm p],d+1,_,_,.nm hT hp,by lia,by simp,by simp,Zaa (ei _ h) (Zaf (x_t (Zaj rfl rfl rfl) (Zaa (Zil (t:=.nm p) ?_ (by lia)) (Zaf (ZcK (p:=.int (d:Int)) (q:=.int 1) rfl rfl rfl)))))⟩
  exact ZiL (ds:=[.str [110,97,109,101],.str p]) (ZaP rfl (Zb8 ec)) (Nat.le_of_ble_eq_true rfl)
 ·exact⟨T++[.nt],d,_,_,.nt hT hd,hd,by simp,by simp,Zaa (ei _ h) (Zaf (x_f (Zaj rfl rfl rfl) (Zaf (x_t (Zaj rfl rfl rfl) (Zaf (Zil (t:=.nt) rfl (by lia)))))))⟩
 ·have n1:tv ΓE (stL l ns x y T d (.fz (.int z)) (.fz (.str (wordOf (.op o)))) s10) (.tcmp .eq (.var 9) (.const (.str [110,97,109,101])))=some false:=by cases o<;>exact Zaj rfl rfl rfl
  have n2:tv ΓE (stL l ns x y T d (.fz (.int z)) (.fz (.str (wordOf (.op o)))) s10) (.tcmp .eq (.var 9) (.const (.str [110,111,116])))=some false:=by cases o<;>exact Zaj rfl rfl rfl
  have n3:=gt_int (Γ:=ΓE) (σ:=stL l ns x y T d (.fz (.int z)) (.fz (.str (wordOf (.op o)))) s10) (x:=.var 7) (y:=.const (.int 1)) (a:=(d:Int)) (b:=1) rfl rfl
  by_cases hd2:2<=d
  ·rw[decide_eq_true (by lia)] at n3
   refine⟨T++[.op o],d - 1,_,_,.op o hT hd2,by lia,by simp,by simp,Zaa (ei _ h) (Zaf (x_f n1 (Zaf (x_f n2 (Zaf (x_t n3 (Zaa (Zil (t:=.op o) rfl (by lia)) (Zaf (ZcK (p:=.int (d:Int)) (q:=.int 1) (d:=.int ((d - 1:Nat):Int)) rfl rfl ?_)))))))))⟩
   show some (D.int ((d:Int) - 1))=_
   congr 2
   lia
  ·rw[decide_eq_false (by lia)] at n3
   exact⟨T,d,_,_,hT,hd,by lia,Nat.le_refl _,Zaa (ei _ h) (Zaf (x_f n1 (Zaf (x_f n2 (Zaf (x_f n3 rfl))))))⟩
theorem ZlO:∀(zs:List Int) (T:List Tok) (d:Nat) (s8 s9:Slot),WfE T d->1<=d->T.length+zs.length<=12->2<=T.length->
  ∃T' d' t8 t9,WfE T' d'∧T'.length<=12∧2<=T'.length∧forL 8 (ex ΓE fuel ZoK) (zs.map .int) (stL l ns x y T d s8 s9 s10)=some (.next,stL l ns x y T' d' t8 t9 s10)
 | [],T,d,s8,s9,hT,_,hl,h2=>⟨T,d,s8,s9,hT,by simpa using hl,h2,rfl⟩
 | z::zs,T,d,s8,s9,hT,hd,hl,h2=>by
  simp at hl
  obtain⟨T1,d1,t8,t9,w1,w2,w3,w4,hb⟩:=Zqd (l:=l) (ns:=ns) (x:=x) (y:=y) (s8:=s8) (s9:=s9) (s10:=s10) z hT hd (by lia)
  obtain⟨T',d',u8,u9,v1,v2,v3,v4⟩:=ZlO zs T1 d1 t8 t9 w1 w2 (by lia) (by lia)
  exact⟨T',d',u8,u9,v1,v2,v3,Zkr hb v4⟩
theorem ints_map:∀ns:List Int,Zhj (ns.map D.int)=some ns
 | []=>rfl
 | a::r=>by erw[rwl (List.map_cons ..) (rwl (ZvE ..) (rwl (ints_map r ..) ?_))];rfl
theorem Zr3{Γ:ZaC}{σ:Sg}{s:List Nat}{e:X}{m:Int}(hs:s.length=8)(h:ev Γ σ e=some (.int (m % 8))):∃c,ev Γ σ (.idx (.const (.str s)) e)=some (.str [c]):=by
 have h1:0<=m % 8:=Int.emod_nonneg _ (by decide)
 have h2:m % 8 < 8:=Int.emod_lt_of_pos _ (by decide)
 have en:m % 8=(((m % 8).toNat:Nat):Int):=by lia
 have hlt:(m % 8).toNat < s.length:=by lia
 rw[en] at h
 exact⟨s[(m % 8).toNat],ZaL (p:=.str s) rfl h (ZaV (List.getElem?_eq_getElem hlt) (by lia))⟩
theorem ZqU(l:List Int)(hl:l.length<=63):∃(x y:Nat) (T:List Tok) (d c:Nat) (t7 t8 t9:Slot),WfE T d∧T.length<=12∧c<=T.length∧
  ex ΓE fuel Zht (ZeV 14 [.list (l.map .int)])=some (.next,[.fz (.list (l.map .int)),.fz (.list ((l.take 8).map .int)),.fz (.int (l.take 8).sum),.fz (.str [x]),.fz (.str [y]),.fz (ZaJ (ZaY x y)),.own (T.map ZeM),t7,t8,t9,.fz (.int (c:Int)),.un,.un,.un]):=by
 have hn:(l.take 8).length<=8:=by simp;lia
 generalize hns:l.take 8=ns at *
 obtain⟨x,hx⟩:=Zr3 (Γ:=ΓE) (σ:=[.fz (.list (l.map .int)),.fz (.list (ns.map .int)),.fz (.int ns.sum),.un,.un,.un,.un,.un,.un,.un,.un,.un,.un,.un]) (s:=[97,45,33,93,94,92,91,42]) (e:=.bin .mod (.var 2) (.const (.int 8))) (m:=ns.sum) rfl (ZaF (p:=.int ns.sum) (q:=.int 8) rfl rfl rfl)
 obtain⟨y,hy⟩:=Zr3 (Γ:=ΓE) (σ:=[.fz (.list (l.map .int)),.fz (.list (ns.map .int)),.fz (.int ns.sum),.fz (.str [x]),.un,.un,.un,.un,.un,.un,.un,.un,.un,.un]) (s:=[98,46,38,63,126,124,35,10]) (e:=.bin .mod (.bin .fdiv (.var 2) (.const (.int 8))) (.const (.int 8))) (m:=ns.sum / 8) rfl (ZaF (p:=.int (ns.sum / 8)) (q:=.int 8) (ZaF (p:=.int ns.sum) (q:=.int 8) rfl rfl rfl) rfl rfl)
 have w2:WfE [.nm [42,x],.nm [91,33,x,93,42]] 2:=.nm (T:=[.nm [42,x]]) (.nm (T:=[]) .nil (by simp)) (by simp)
 obtain⟨T,d,t8,t9,hw,hT,hT2,hloop⟩:=ZlO (l:=l) (ns:=ns) (x:=x) (y:=y) (s10:=.un) ns [.nm [42,x],.nm [91,33,x,93,42]] 2 .un .un w2 (by decide) (by simp;lia) (by simp)
 have hm1:0<=(ns.sum / 64+(ns.length:Int)) % ((T.length:Int)+1):=Int.emod_nonneg _ (by lia)
 have hm2:(ns.sum / 64+(ns.length:Int)) % ((T.length:Int)+1) < (T.length:Int)+1:=Int.emod_lt_of_pos _ (by lia)
 refine⟨x,y,T,d,((ns.sum / 64+(ns.length:Int)) % ((T.length:Int)+1)).toNat,.fz (.int (d:Int)),t8,t9,hw,hT,by lia,?_⟩
 refine Zaa (σ':=[.fz (.list (l.map .int)),.fz (.list (ns.map .int)),.un,.un,.un,.un,.un,.un,.un,.un,.un,.un,.un,.un]) (Zaw (Zco (p:=.list (l.map .int)) (q:=.none) (r:=.int 8) rfl rfl rfl ?_)) ?_
 ·show some (D.list (slice (l.map D.int) none (some ((8:Nat):Int))))=_
  erw[rwl (ZdU ..) (rwr (List.map_take ..) (rwl (hns ..) ?_))]
 refine Zaa (σ':=[.fz (.list (l.map .int)),.fz (.list (ns.map .int)),.fz (.int ns.sum),.un,.un,.un,.un,.un,.un,.un,.un,.un,.un,.un]) (Zaw (Zdo rfl ?_)) ?_
 ·show(Zhj (ns.map D.int)).map (λx=>D.int x.sum)=_
  erw[rwl (ints_map ..) ?_];rfl
 refine Zaa (Zaw hx) (Zaa (Zaw hy) ?_)
 refine Zaa (σ':=[.fz (.list (l.map .int)),.fz (.list (ns.map .int)),.fz (.int ns.sum),.fz (.str [x]),.fz (.str [y]),.fz (ZaJ (ZaY x y)),.un,.un,.un,.un,.un,.un,.un,.un]) (Zaw (Zbd (ds:=[.str [x],.str [y]]) rfl ((congrFun Zvz _).trans (Zoy x y)))) ?_
 refine Zaa (σ':=[.fz (.list (l.map .int)),.fz (.list (ns.map .int)),.fz (.int ns.sum),.fz (.str [x]),.fz (.str [y]),.fz (ZaJ (ZaY x y)),.own (([.nm [42,x],.nm [91,33,x,93,42]]:List Tok).map ZeM),.un,.un,.un,.un,.un,.un,.un]) rfl ?_
 refine Zaa (σ':=stL l ns x y [.nm [42,x],.nm [91,33,x,93,42]] 2 .un .un .un) rfl ?_
 refine Zaa (Zfg (ds:=ns.map .int) rfl (by simp;lia) hloop) ?_
 have el1:ev ΓE (stL l ns x y T d t8 t9 .un) (.bfn .len (.var 1))=some (.int (ns.length:Int)):=Zdo rfl (by show some (D.int ((ns.map D.int).length:Int))=_;erw[rwl (List.length_map ..) ?_])
 have el6:ev ΓE (stL l ns x y T d t8 t9 .un) (.bfn .len (.tvar 6))=some (.int (T.length:Int)):=Zdo rfl (by show some (D.int ((T.map ZeM).length:Int))=_;erw[rwl (List.length_map ..) ?_])
 have em:bop .mod (.int (ns.sum / 64+(ns.length:Int))) (.int ((T.length:Int)+1))=some (.int ((ns.sum / 64+(ns.length:Int)) % ((T.length:Int)+1))):=if_pos (by lia)
 have ef:ev ΓE (stL l ns x y T d t8 t9 .un) (.bin .fdiv (.var 2) (.const (.int 64)))=some (.int (ns.sum / 64)):=ZaF (p:=.int ns.sum) (q:=.int 64) rfl rfl rfl
 have ea:ev ΓE (stL l ns x y T d t8 t9 .un) (.bin .add (.bin .fdiv (.var 2) (.const (.int 64))) (.bfn .len (.var 1)))=some (.int (ns.sum / 64+(ns.length:Int))):=ZaF ef el1 rfl
 have eb:ev ΓE (stL l ns x y T d t8 t9 .un) (.bin .add (.bfn .len (.tvar 6)) (.const (.int 1)))=some (.int ((T.length:Int)+1)):=ZaF (q:=.int 1) el6 rfl rfl
 have e10:=ZaF ea eb em
 have en:(ns.sum / 64+(ns.length:Int)) % ((T.length:Int)+1)=((((ns.sum / 64+(ns.length:Int)) % ((T.length:Int)+1)).toNat:Nat):Int):=by lia
 rw[en] at e10
 exact Zaf (Zaw e10)
end
theorem Zs3(t:Tok)(ht:(Zde t).length<=40):ZeG (λa b=>ev ΓE [.fz a,.fz b] ZeU) (ZeM t)=some (some (Zeq t)):=by
 have e6:ev ΓE [.fz (.str (wordOf t)),.fz (.str (Zde t))] (.call 6 (.cons (.var 1) .nil))=some (.list ((Zaq (Zde t)).map Zfv)):=Zbd (ds:=[.str (Zde t)]) rfl ((congrFun gE6 _).trans (ZqV (by lia)))
 show(ev ΓE [.fz (.str (wordOf t)),.fz (.str (Zde t))] ZeU).map some=_
 unfold ZeU
 exact ZgR (ZiL (ZaP rfl (Zb8 e6)) (Nat.le_of_ble_eq_true rfl)) rfl
theorem ZrU{T:List Tok}{d:Nat}(h:WfE T d):∀t∈T,(Zde t).length<=40:=by
 induction h with
 | nil=>intro t ht;cases ht
 | nm h hp ih=>
  intro t ht
  rcases List.mem_append.mp ht with ht | ht
  ·exact ih t ht
  ·rw[List.mem_singleton] at ht;subst ht;exact hp
 | nt h hp ih=>
  intro t ht
  rcases List.mem_append.mp ht with ht | ht
  ·exact ih t ht
  ·rw[List.mem_singleton] at ht;subst ht;exact Nat.zero_le _
 | op o h hp ih=>
  intro t ht
  rcases List.mem_append.mp ht with ht | ht
  ·exact ih t ht
  ·rw[List.mem_singleton] at ht;subst ht;exact Nat.zero_le _
theorem Zlv:∀{T:List Tok},(∀t∈T,(Zde t).length<=40)->ZbQ (ZeG λa b=>ev ΓE [.fz a,.fz b] ZeU) (T.map ZeM)=some (T.map Zeq)
 | [],_=>rfl
 | t::T,h=>by
  erw[rwl (List.map_cons ..) (rwl (Zuv ..) (rwl (Zs3 t (h t List.mem_cons_self) ..) (rwl (Zlv λu hu=>h u (List.mem_cons_of_mem _ hu) ..) ?_)))]
  rfl
theorem law_sem(l:List Int)(hl:l.length<=63):ZoS ΓE fuel 14 Zht Zdj ZeU ZlH ZkY (.list (l.map .int)):=by
 obtain⟨x,y,T,d,c,t7,t8,t9,hw,hT,hc,hrun⟩:=ZqU l hl
 have nk:=Znh x y
 obtain⟨S,s1,s2,s3,s4,s5⟩:=fwd nk hw (by lia)
 obtain⟨d1,hw1⟩:=ZpN hw c
 obtain⟨S1,u1,u2,u3,u4,u5⟩:=fwd nk hw1 (by simp;lia)
 have htl:(T.take c).length<=12:=by simp;lia
 have h18:=Zjs nk s1 s2 hT (by lia)
 have h18':=Zjs nk u1 u2 htl (by lia)
 have hsplit:ZbN (Zbh ΓE (ZaJ (ZaY x y)) Zdj) ((T.drop c).map ZeM) (.list ((S1.map (·.2)).map (Zbs (ZaY x y))))=some (Zax (ZaY x y) (S.map (·.2))):=by
  have h:=s5
  rw[←List.take_append_drop c T,List.map_append,ZcX,u5] at h
  exact h
 refine⟨⟨_,ZaJ (ZaY x y),T.map ZeM,T.map Zeq,(S1.map (·.2)).map (Zbs (ZaY x y)),Zax (ZaY x y) (S.map (·.2)),Zax (ZaY x y) (S.map (·.2)),(c:Int),hrun,by simp,rfl,rfl,rfl,by simp;lia,Zlv (ZrU hw),?_,?_,Zgd _ _,λf=>⟨?_,?_⟩⟩⟩
 ·erw[rwl (ZdU ..) (rwr (List.map_take ..) ?_)]
  exact u5
 ·erw[rwl (Zcf ..) (rwr (List.map_drop ..) ?_)]
  exact hsplit
 ·have es:ev ΓE [.fz (.list (l.map .int)),.fz (.list ((l.take 8).map .int)),.fz (.int (l.take 8).sum),.fz (.str [x]),.fz (.str [y]),.fz (ZaJ (ZaY x y)),.own (T.map ZeM),t7,t8,t9,.fz (.int (c:Int)),.fz (.obj f),.fz (.list (T.map Zeq)),.fz (.list ((S1.map (·.2)).map (Zbs (ZaY x y))))] (.slc (.var 12) (.const .none) (.var 10))=some (.list ((T.take c).map Zeq)):=by
   refine Zco (p:=.list (T.map Zeq)) (q:=.none) (r:=.int (c:Int)) rfl rfl rfl ?_
   show some (D.list (slice (T.map Zeq) none (some (c:Int))))=_
   erw[rwl (ZdU ..) (rwl (List.map_take ..) ?_)]
  refine Zaj (p:=Zax (ZaY x y) (S1.map (·.2))) (q:=Zax (ZaY x y) (S1.map (·.2))) rfl (Zbd (ds:=[.list ((T.take c).map Zeq),ZaJ (ZaY x y)]) ?_ ((congrFun Zvi _).trans h18')) ?_
  ·show evL ΓE [.fz (.list (l.map .int)),.fz (.list ((l.take 8).map .int)),.fz (.int (l.take 8).sum),.fz (.str [x]),.fz (.str [y]),.fz (ZaJ (ZaY x y)),.own (T.map ZeM),t7,t8,t9,.fz (.int (c:Int)),.fz (.obj f),.fz (.list (T.map Zeq)),.fz (.list ((S1.map (·.2)).map (Zbs (ZaY x y))))] (.cons (.slc (.var 12) (.const .none) (.var 10)) (.cons (.var 5) .nil))=_
   exact ZaP es (Zb8 rfl)
  ·show(eqD _ _).map (!·)=_
   erw[rwl (Zgd ..) ?_];rfl
 ·exact Zbd (ds:=[.list (T.map Zeq),ZaJ (ZaY x y)]) rfl ((congrFun Zvi _).trans h18)
end
section
set_option backward.match.sparseCases false
set_option maxRecDepth 100000
noncomputable def Zbl(P:Heap)(a:Addr):Obj:=(P.get? a).getD { cls:=.none }
noncomputable def fdOf(o:Obj):FuncData:=match o.data with | .func fd=>fd | _=>default
noncomputable def ZcF(P:Heap)(a:Addr):FuncData:=fdOf (Zbl P a)
noncomputable def Zg1(ps:List Str)(p:Arguments):Bool:=match p with
 | ⟨[],as,none,[],[],none,[]⟩=>as.map (λ(x:Arg)=>x.arg)==ps
 | _=>false
noncomputable def Zq5:Data->Bool
 | .func _=>true
 | _=>false
noncomputable def isFn(o:Obj):Bool:=o.cls==.type "function" && (o.dict.isNone&&Zq5 o.data)
noncomputable def Zpx(q:Str):Option Value->Bool
 | some (.str y _)=>y==q
 | _=>false
noncomputable def Zt1(q:Str):Data->Bool
 | .fields vs=>Zpx q vs[1]?
 | _=>false
noncomputable def Zvs(q:Str)(o:Obj):Bool:=o.cls==.type "code" && Zt1 q o.data
noncomputable def ZeF(a:Addr):Bool:=a==66||a==166
noncomputable def isR:Value->Addr->Bool
 | .ref c,a=>c==a
 | _,_=>false
noncomputable def Zux:Value->Addr
 | .ref c=>c
 | _=>66
noncomputable def there(P:Heap)(a:Addr):Bool:=(P.get? a).isSome&&!ZeF a
noncomputable def Zuk(P:Heap)(fd:FuncData)(c:Addr):Bool:=there P c&&(fd.code==.ref c&&Zvs fd.qualname (Zbl P c))
noncomputable def ZrF(P:Heap)(a:Addr)(fd:FuncData):Bool:=
 there P a&&(isFn (Zbl P a)&&(Zuk P fd (Zux fd.code)&&(fd.closure.isEmpty&&(fd.globals==mainGlobals&&(fd.builtins==builtinsNs&&(!fd.scope.isCoroutine&&(!fd.scope.isGenerator&&fd.scope.kind==.function)))))))
noncomputable def Zug(fd:FuncData)(ps:List Str):Bool:=
 Zg1 ps fd.params&&(fd.defaults==.none&&(fd.kwdefaults==.none&&(ps.all (λp=>fd.scope.names.lookup p==some .local||fd.scope.names.lookup p==some .cell)&&decide ps.Nodup)))
noncomputable def Ztk(o:Obj):Array DictEntry:=match o.data with | .dict es _=>es | _=>#[]
noncomputable def esG(P:Heap):Array DictEntry:=Ztk (Zbl P 3)
noncomputable def esE(P:Heap):Array DictEntry:=Ztk (Zbl P 54)
noncomputable def keyOk:Value->Int->Bool
 | .int k _,h=>h==hashInt k&&(decide (0<=k)&&specials.contains k.toNat)
 | _,_=>false
noncomputable def ZrH(c:Nat):Option Value->Bool
 | some (.str s _)=>s==⟨[92,c].toArray⟩
 | _=>false
noncomputable def Zlj:Data->Bool
 | .dict _ _=>true
 | _=>false
noncomputable def ZsI(a:Addr):Option Value->Bool
 | some v=>isR v a
 | none=>false
noncomputable def xsT:List (Pos×Str):=[(⟨76,37,0,0⟩,"_translate.<locals>.<genexpr>"),(⟨77,39,0,0⟩,"_translate.<locals>.<lambda>")]
noncomputable def xsL:List (Pos×Str):=[(⟨302,11,0,0⟩,"law.<locals>.<lambda>")]
noncomputable def pwS(i:Nat):Stmt:=(PySem.Challenge.pw_rx0098_01.main.body[i]?).getD (.Pass default)
noncomputable def Ztj:Stmt->List Stmt
 | .FunctionDef _ _ b _ _ _ _ _ _ _=>b
 | _=>[]
noncomputable def Zqc(s0:Scope):Stmt->Scope
 | .FunctionDef _ _ _ _ _ _ s _ _ _=>s
 | _=>s0
noncomputable def fnS(f:Nat):Stmt:=pwS (([3,6,9,11,12]:List Nat).getD f (f+9))
noncomputable def Zkv(f:Nat):List Stmt:=Ztj (fnS f)
noncomputable def scN(f:Nat):Scope:=Zqc PySem.Challenge.pw_rx0098_01.main.scope (fnS f)
noncomputable def psN(f:Nat):List Str:=([[],["pat"],["pattern"],["pat","STAR","QUESTION_MARK"],["inp","STAR"],["body"],["pattern"],["item","sign"],["items","name"],["sign"],["text","at"],["text"],["runs","name"],["number"],["x","y"],
 ["number","x","y"],["names","stack","token"],["tokens","end","name"],["tokens","names"],["script"]]:List (List Str)).getD f []
noncomputable def Zp9:List Str:=["function","sequence","initial"]
noncomputable def ZkT(p:Arguments):Bool:=match p with
 | ⟨[],as,none,[],[],none,_⟩=>as.map (λ(x:Arg)=>x.arg)==Zp9
 | _=>false
noncomputable def biN:List Str:=["len","chr","sum","list","range","iter","object","str","isinstance"]
noncomputable def Zuo(P:Heap):List Bool:=[
 (List.range 20).all λf=>ZrF P (faN f) (ZcF P (faN f)),
 (List.range 20).all λf=>ZsI (faN f) (nsFind (esG P) (fnN f)),
 (List.range 19).all λf=>Zug (ZcF P (faN (f+1))) (psN (f+1)),
 ZsI 45 (nsFind (esG P) "_twin_re_1"),ZsI 54 (nsFind (esG P) "_special_chars_map"),ZsI 32 (nsFind (esG P) "_initial_missing"),
 biN.all λn=>(nsFind (esG P) n).isNone,
 codeHdIn [(70,Zbl P 70)] 70 66,codeHdIn [(168,Zbl P 168)] 168 166,
 ([3,32,33,44,45,54,70,168]:List Nat).all λa=>there P a,
 (esE P).toList.all λe=>keyOk e.key e.hash,
 specials.all λc=>ZrH c (findBy Value.isInt (esE P) (c:Int)),
 Zlj (Zbl P 54).data&&((Zbl P 54).cls==.type "dict" && ((Zbl P 54).dict.isNone&&(Zbl P 54).slots.isEmpty)),
 ZkT (ZcF P (faN 0)).params,(ZcF P (faN 0)).defaults==.ref 33,(ZcF P (faN 0)).kwdefaults==.none,(Zbl P 32).cls==.type "object",
 (ZcF P (faN 3)).code==.ref 70,(ZcF P (faN 19)).code==.ref 168,(ZcF P (faN 3)).qualname==("_translate" : Str),(ZcF P (faN 19)).qualname==("law" : Str)]
noncomputable def Zvp:Obj:={ cls:=.type "re.Pattern",data:=.fields #[.str (Str.ofString "([&~|])") 300,.int 32 335,.int 1 0,.none,.none,.ref 44,.int 0 0] }
noncomputable def obs(P:Heap):List Bool×List (FuncBody×Scope)×List Obj×List (Option Obj):=
 (Zuo P,(List.range 20).map (λf=>((ZcF P (faN f)).body,(ZcF P (faN f)).scope)),[Zbl P 33,Zbl P 44,Zbl P 45],[P.get? 66,P.get? 166])
noncomputable def want:List Bool×List (FuncBody×Scope)×List Obj×List (Option Obj):=
 (List.replicate 21 true,(List.range 20).map (λf=>(.stmts (Zkv f),scN f)),[{ cls:=.type "tuple",data:=.seq #[.ref 32] },{ cls:=.type "tuple",data:=.seq (Zcc.map λ(k:Nat)=>Value.int (k:Int) 0) },Zvp],[some (tabObj #[]),some (tabObj #[])])
noncomputable abbrev Inn(P h₁:Heap):Prop:=(∀b o,P.get? b=some o->h₁.get? b=some o)∧(obs P=want)
theorem Inn.kp{P h₁:Heap}(slf:Inn P h₁):∀b o,P.get? b=some o->h₁.get? b=some o:=slf.1
theorem Inn.e{P h₁:Heap}(slf:Inn P h₁):obs P=want:=slf.2
noncomputable def ZaR(h₁:Heap)(h:Heap):Prop:=(∀b o,ZeF b=false->h₁.get? b=some o->h.get? b=some o)∧Za5 70 66 xsT h∧Za5 168 166 xsL h
theorem Zk3{p:Nat->Bool}{n:Nat}(h:(List.range n).all p=true)(f:Nat)(hf:f < n):p f=true:=List.all_eq_true.mp h f (List.mem_range.mpr hf)
section
variable {P h₁:Heap}
theorem Inn.chk(x:Inn P h₁)(i:Nat){b:Bool}(h:(Zuo P)[i]? = some b)(hi:i < 21):b=true:=by
 have e:Zuo P=List.replicate 21 true:=congrArg Prod.fst x.e
 rw[e,List.getElem?_replicate,if_pos hi] at h
 exact(Option.some.inj h).symm
theorem Inn.fn(x:Inn P h₁)(f:Nat)(hf:f < 20):(ZcF P (faN f)).body=.stmts (Zkv f)∧(ZcF P (faN f)).scope=scN f:=by
 have e:=congrArg (λy=>y.2.1[f]?) x.e
 have e:((List.range 20).map (λf=>((ZcF P (faN f)).body,(ZcF P (faN f)).scope)))[f]? = ((List.range 20).map (λf=>(FuncBody.stmts (Zkv f),scN f)))[f]?:=e
 rw[List.getElem?_map,List.getElem?_map,List.getElem?_range hf] at e
 exact Prod.mk.inj (Option.some.inj e)
theorem Inn.tup(x:Inn P h₁):Zbl P 33={ cls:=.type "tuple",data:=.seq #[.ref 32] }:=congrArg (λy=>y.2.2.1.headD { cls:=.none }) x.e
theorem Inn.codes(x:Inn P h₁):Zbl P 44={ cls:=.type "tuple",data:=.seq (Zcc.map λ(k:Nat)=>Value.int (k:Int) 0) }:=congrArg (λy=>(y.2.2.1.drop 1).headD { cls:=.none }) x.e
theorem Inn.pat(x:Inn P h₁):Zbl P 45=Zvp:=congrArg (λy=>(y.2.2.1.drop 2).headD { cls:=.none }) x.e
theorem Inn.t1(x:Inn P h₁):h₁.get? 66=some (tabObj #[]):=x.kp _ _ (congrArg (λy=>y.2.2.2.headD none) x.e)
theorem Inn.t2(x:Inn P h₁):h₁.get? 166=some (tabObj #[]):=x.kp _ _ (congrArg (λy=>(y.2.2.2.drop 1).headD none) x.e)
theorem Inn.at0(x:Inn P h₁){a:Addr}(hs:there P a=true):h₁.get? a=some (Zbl P a):=by
 refine x.kp _ _ ?_
 have hs:=Zbv hs
 unfold Zbl
 cases e:P.get? a with
 | none=>rw[e] at hs;cases hs
 | some o=>rfl
theorem Inn.at(x:Inn P h₁){a:Addr}(hs:there P a=true){h:Heap}(g:ZaR h₁ h):h.get? a=some (Zbl P a):=g.1 _ _ (ZfN (Za7 hs)) (x.at0 hs)
theorem Inn.is(x:Inn P h₁){a:Addr}(ha:a∈([3,32,33,44,45,54,70,168]:List Nat)):there P a=true:=List.all_eq_true.mp (x.chk 9 rfl (by decide)) a ha
theorem Znt{o:Obj}(h:isFn o=true):o.cls=.type "function" ∧ o.dict=none∧o.data=.func (fdOf o):=by
 refine⟨eq_of_beq (Zbv h),Option.isNone_iff_eq_none.mp (Zbv (Za7 h)),?_⟩
 have h3:=Za7 (Za7 h)
 obtain⟨c,d,dt,sl⟩:=o
 cases dt with
 | func fd=>rfl
 | _=>cases h3
theorem Zlc{q:Str}{v:Option Value}(h:Zpx q v=true):∃t,v=some (.str q t):=by
 cases v with
 | none=>cases h
 | some v=>
  cases v with
  | str y t=>exact⟨t,by erw[rwl (eq_of_beq (show(y==q)=true from h) ..) ?_]⟩
  | _=>cases h
theorem Zoe{q:Str}{o:Obj}(h:Zvs q o=true):∃vs t,o.cls=.type "code" ∧ o.data=.fields vs∧vs[1]? = some (.str q t):=by
 have h2:=Za7 h
 have h1:=eq_of_beq (Zbv h)
 obtain⟨c,d,dt,sl⟩:=o
 cases dt with
 | fields vs=>
  obtain⟨t,e⟩:=Zlc (show Zpx q vs[1]? = true from h2)
  exact⟨vs,t,h1,rfl,e⟩
 | _=>cases h2
theorem ZpM{v:Value}{a:Addr}(h:isR v a=true):v=.ref a:=by
 cases v with
 | ref c=>erw[rwl (eq_of_beq (show(c==a)=true from h) ..) ?_]
 | _=>cases h
theorem ZeT{v:Option Value}{a:Addr}(h:ZsI a v=true):v=some (.ref a):=by
 cases v with
 | none=>cases h
 | some v=>erw[rwl (ZpM (show isR v a=true from h) ..) ?_]
noncomputable abbrev ZgQ(P:Heap)(h₁:Heap)(a:Addr):Prop:=(∀h,ZaR h₁ h->h.get? a=some (Zbl P a))∧((Zbl P a).data=.func (ZcF P a))∧(∀h,ZaR h₁ h->h.CodeRec (ZcF P a).code (ZcF P a).qualname)∧((ZcF P a).closure=[])∧((ZcF P a).globals=mainGlobals)∧((ZcF P a).builtins=builtinsNs)∧((ZcF P a).scope.isCoroutine=false)∧((ZcF P a).scope.isGenerator=false)∧((ZcF P a).scope.kind=.function)
theorem ZgQ.ob{P:Heap}{h₁:Heap}{a:Addr}(slf:ZgQ P h₁ a):∀h,ZaR h₁ h->h.get? a=some (Zbl P a):=slf.1
theorem ZgQ.da{P:Heap}{h₁:Heap}{a:Addr}(slf:ZgQ P h₁ a):(Zbl P a).data=.func (ZcF P a):=slf.2.1
theorem ZgQ.cr{P:Heap}{h₁:Heap}{a:Addr}(slf:ZgQ P h₁ a):∀h,ZaR h₁ h->h.CodeRec (ZcF P a).code (ZcF P a).qualname:=slf.2.2.1
theorem ZgQ.cl{P:Heap}{h₁:Heap}{a:Addr}(slf:ZgQ P h₁ a):(ZcF P a).closure=[]:=slf.2.2.2.1
theorem ZgQ.gl{P:Heap}{h₁:Heap}{a:Addr}(slf:ZgQ P h₁ a):(ZcF P a).globals=mainGlobals:=slf.2.2.2.2.1
theorem ZgQ.bu{P:Heap}{h₁:Heap}{a:Addr}(slf:ZgQ P h₁ a):(ZcF P a).builtins=builtinsNs:=slf.2.2.2.2.2.1
theorem ZgQ.co{P:Heap}{h₁:Heap}{a:Addr}(slf:ZgQ P h₁ a):(ZcF P a).scope.isCoroutine=false:=slf.2.2.2.2.2.2.1
theorem ZgQ.gen{P:Heap}{h₁:Heap}{a:Addr}(slf:ZgQ P h₁ a):(ZcF P a).scope.isGenerator=false:=slf.2.2.2.2.2.2.2.1
theorem ZgQ.kd{P:Heap}{h₁:Heap}{a:Addr}(slf:ZgQ P h₁ a):(ZcF P a).scope.kind=.function:=slf.2.2.2.2.2.2.2.2
theorem Inn.Zu2(x:Inn P h₁)(f:Nat)(hf:f < 20):ZgQ P h₁ (faN f):=by
 have c:=Zk3 (x.chk 0 rfl (by decide)) f hf
 have c1:=Zbv c;have c:=Za7 c
 have c2:=Zbv c;have c:=Za7 c
 have c3:=Zbv c;have c:=Za7 c
 have c4:=Zbv c;have c:=Za7 c
 have c5:=Zbv c;have c:=Za7 c
 have c6:=Zbv c;have c:=Za7 c
 have c7:=Zbv c;have c:=Za7 c
 refine⟨λh g=>x.at c1 g,(Znt c2).2.2,λh g=>?_,List.isEmpty_iff.mp c4,eq_of_beq c5,eq_of_beq c6,ZfN c7,ZfN (Zbv c),eq_of_beq (Za7 c)⟩
 obtain⟨vs,t,d1,d2,d3⟩:=Zoe (Za7 (Za7 c3))
 exact⟨_,_,vs,t,eq_of_beq (Zbv (Za7 c3)),x.at (Zbv c3) g,d2,d3⟩
theorem Zgi{ps:List Str}{p:Arguments}(h:Zg1 ps p=true):∃as:List Arg,p=⟨[],as,none,[],[],none,[]⟩∧as.map (·.arg)=ps:=by
 obtain⟨a,b,c,d,e,f,g⟩:=p
 cases a with
 | cons=>cases h
 | nil=>
 cases c with
 | some=>cases h
 | none=>
 cases d with
 | cons=>cases h
 | nil=>
 cases e with
 | cons=>cases h
 | nil=>
 cases f with
 | some=>cases h
 | none=>
 cases g with
 | cons=>cases h
 | nil=>exact⟨b,rfl,eq_of_beq h⟩
theorem Inn.ZmZ(x:Inn P h₁)(f:Nat)(hf:f < 19):Zbi (ZaR h₁) (ZcF P (faN (f+1))) (Zbl P (faN (f+1))) (faN (f+1)) (Zkv (f+1)) (psN (f+1)):=by
 have F:=x.Zu2 (f+1) (Nat.succ_lt_succ hf)
 have c:=Zk3 (x.chk 2 rfl (by decide)) f hf
 obtain⟨as,ea,e2⟩:=Zgi (Zbv c)
 have c:=Za7 c
 have c3:=Zbv c;have c:=Za7 c
 have c4:=Zbv c;have c:=Za7 c
 refine⟨F.ob,F.da,F.cr,(x.fn _ (Nat.succ_lt_succ hf)).1,F.cl,F.gl,F.bu,λvals hl=>?_,F.co,F.gen,F.kd,λp hp=>?_⟩
 ·rw[←e2] at hl ⊢
  exact Zq3 ea (eq_of_beq c3) (eq_of_beq c4) (by erw[rwl (e2 ..) ?_];exact of_decide_eq_true (Za7 c)) (by erw[rwl (hl ..) (rwl (List.length_map ..) ?_)])
 ·have:=List.all_eq_true.mp (Zbv c) p hp
  rcases Bool.or_eq_true_iff.mp this with h | h
  ·exact .inl (eq_of_beq h)
  ·exact .inr (eq_of_beq h)
end
end
section
set_option maxRecDepth 100000
section
variable {P h₁:Heap}{p:Program}{loose:List Str}{mean:ExcName->Option Value}{mg mb:Str->Option Value}
noncomputable def bse(h₁:Heap)(b:Addr):Prop:=∃o,h₁.get? b=some o
theorem ZmV(hIn:Inn P h₁)(g:h₁.Ns mainGlobals mg)(n:Str):mg n=nsFind (esG P) n:=by
 obtain⟨o,es,ep,e,d,_,f⟩:=g
 rw[show h₁.get? mainGlobals=_ from hIn.at0 (hIn.is (a:=3) (by decide))] at e
 cases e
 erw[rwr (f n ..) ?_]
 show nsFind es n=nsFind (Ztk (Zbl P mainGlobals)) n
 unfold Ztk
 erw[rwl (d ..) ?_]
theorem Zpd(h66:h₁.get? 66=some (tabObj #[]))(h166:h₁.get? 166=some (tabObj #[])){b:Addr}{o:Obj}(e:h₁.get? b=some o)(hn:o≠tabObj #[]):ZeF b=false:=by
 unfold ZeF
 simp only[Bool.or_eq_false_iff,beq_eq_false_iff_ne]
 exact⟨λq=>by rw[q,h66] at e;cases e;exact hn rfl,λq=>by rw[q,h166] at e;cases e;exact hn rfl⟩
theorem ZmU{o:Obj}{vs:Array Value}(h1:o.cls=.type "code")(h2:o.data=.fields vs) : ¬Mut o:=λh=>by
 rcases h with⟨_,_,h⟩ | ⟨_,_,h⟩ | ⟨_,h⟩ | h | h
 ·rw[h2] at h;cases h
 ·rw[h2] at h;cases h
 ·rw[h2] at h;cases h
 ·rw[h1] at h;simp at h
 ·rw[h1] at h;simp at h
theorem Za5.keep{c Pt:Addr}{xs:List (Pos×Str)}{h h':Heap}(x:Za5 c Pt xs h)(hc:∀o,h.get? c=some o->h'.get? c=some o)(hp:∀o,h.get? Pt=some o->h'.get? Pt=some o)(k:∀b o,¬Mut o->h.get? b=some o->h'.get? b=some o):Za5 c Pt xs h':=by
 obtain⟨⟨o,vs,file,tf,flags,tg,inF,text,tt,e1,r⟩,ps,x2,x3,x4⟩:=x
 refine⟨⟨o,vs,file,tf,flags,tg,inF,text,tt,hc _ e1,r⟩,ps,hp _ x2,x3,λpq h cv e=>?_⟩
 obtain⟨c',o',vs',t',a1,a2,a3,a4,a5⟩:=x4 pq h cv e
 exact⟨c',o',vs',t',a1,k _ _ (ZmU a3 a4) a2,a3,a4,a5⟩
theorem Zuj{o:Obj}(h:NT o):o≠tabObj #[]:=h #[]
theorem Zre{h:Heap}{a:Addr}{m:Str->Option Value}(h66:h₁.get? 66=some (tabObj #[]))(h166:h₁.get? 166=some (tabObj #[]))(x:h₁.Ns a m)(g:ZaR h₁ h):h.Ns a m:=by
 obtain⟨o,es,ep,e,hd,r⟩:=x
 exact⟨o,es,ep,g.1 _ _ (Zpd h66 h166 e (Zuj (.Zeo hd))) e,hd,r⟩
theorem nob(hIn:Inn P h₁)(n:Str)(hn:n∈biN):nsFind (esG P) n=none:=Option.isNone_iff_eq_none.mp (List.all_eq_true.mp (hIn.chk 6 rfl (by decide)) n hn)
theorem ZpS(hIn:Inn P h₁){c Pt:Addr}(hs:there P c=true)(hc:codeHdIn [(c,Zbl P c)] c Pt=true):CodeHd h₁ c Pt:=codeHd_of_K (λa o e=>by
 rw[List.lookup_cons] at e
 cases q:(a==c) with
 | false=>rw[q] at e;cases e
 | true=>
  rw[q] at e
  cases e
  erw[rwl (eq_of_beq q ..) ?_]
  exact hIn.at0 hs) hc
theorem ZuD(hIn:Inn P h₁)(T:Top p loose mean mg mb h₁):Gr (bse h₁) mg mb (ZaR h₁):=⟨(λh h' x k=>by
  have b70:bse h₁ 70:=⟨_,hIn.at0 (hIn.is (by decide))⟩
  have b168:bse h₁ 168:=⟨_,hIn.at0 (hIn.is (by decide))⟩
  exact⟨λb o ht e=>k b o (.inl ⟨o,e⟩) (x.1 b o ht e),x.2.1.keep (λo e=>k _ o (.inl b70) e) (λo e=>k _ o (.inl ⟨_,hIn.t1⟩) e) (λb o m e=>k b o (.inr m) e),x.2.2.keep (λo e=>k _ o (.inl b168) e) (λo e=>k _ o (.inl ⟨_,hIn.t2⟩) e) (λb o m e=>k b o (.inr m) e)⟩),
(λh b x ⟨o,e⟩=>by
  cases q:ZeF b with
  | false=>exact⟨o,x.1 b o q e⟩
  | true=>
   unfold ZeF at q
   simp only[Bool.or_eq_true,beq_iff_eq] at q
   rcases q with rfl | rfl
   ·obtain⟨_,ps,e2,_⟩:=x.2.1;exact⟨_,e2⟩
   ·obtain⟨_,ps,e2,_⟩:=x.2.2;exact⟨_,e2⟩),
(λh x=>Zre hIn.t1 hIn.t2 T.g x),
(λh x=>Zre hIn.t1 hIn.t2 T.b x),
(λh x=>by
  obtain⟨mc,h1,h2⟩:=T.nolimit
  exact⟨mc,Zre hIn.t1 hIn.t2 h1 x,h2⟩),
(λn v h=>by
  have mgn:=ZmV hIn T.g
  simp only[List.mem_cons,List.not_mem_nil,or_false,Prod.mk.injEq] at h
  rcases h with⟨rfl,rfl⟩ | ⟨rfl,rfl⟩ | ⟨rfl,rfl⟩ | ⟨rfl,rfl⟩ | ⟨rfl,rfl⟩ | ⟨rfl,rfl⟩ | ⟨rfl,rfl⟩ | ⟨rfl,rfl⟩ | ⟨rfl,rfl⟩
  all_goals exact⟨(mgn _).trans (nob hIn _ (by decide)),(T.builtins _ (by decide)).trans (by kernel_rfl)⟩)⟩
theorem tab0(hIn:Inn P h₁){c Pt:Addr}{xs:List (Pos×Str)}(hs:there P c=true)(hc:codeHdIn [(c,Zbl P c)] c Pt=true)(hP:h₁.get? Pt=some (tabObj #[])):Za5 c Pt xs h₁:=
 ⟨ZpS hIn hs hc,#[],hP,trivial,λ_ _ cv e=>by cases e⟩
theorem gd0(hIn:Inn P h₁):ZaR h₁ h₁:=
 ⟨λ_ _ _ e=>e,tab0 hIn (hIn.is (by decide)) (hIn.chk 7 rfl (by decide)) hIn.t1,tab0 hIn (hIn.is (by decide)) (hIn.chk 8 rfl (by decide)) hIn.t2⟩
theorem Ztf(hIn:Inn P h₁)(T:Top p loose mean mg mb h₁){Pt:Addr}(hPt:ZeF Pt=true){h:Heap}(g:ZaR h₁ h):h.BuiltinsAt mg Pt:=by
 obtain⟨bm,ob,b1,b2,b3,b4,b5,b6⟩:=T.bmain
 have nt:ZeF bm=false:=Zpd hIn.t1 hIn.t2 b3 λq=>by rw[q] at b4;cases b4
 refine⟨bm,ob,b1,b2,λq=>?_,λq=>?_,g.1 _ _ nt b3,b4,b5,b6⟩
 ·obtain⟨o,es,ep,e,d,_⟩:=T.g
  rw[q,e] at b3
  cases b3
  rw[d] at b6;cases b6
 ·rw[←q,nt] at hPt;cases hPt
theorem ZvR(hIn:Inn P h₁)(T:Top p loose mean mg mb h₁):ZeB (ZaR h₁) 70 66 xsT mg:=⟨(λh g=>g.2.1),
(λh h' g kp bt t=>⟨λb o ht e=>bt b o (λq=>by rw[q] at ht;cases ht) (g.1 b o ht e),t,g.2.2.kp kp λo e=>bt _ o (by decide) e⟩),
(by decide),
(λh g=>Ztf hIn T (by decide) g),
(by decide)⟩
theorem ZvM(hIn:Inn P h₁)(T:Top p loose mean mg mb h₁):ZeB (ZaR h₁) 168 166 xsL mg:=⟨(λh g=>g.2.2),
(λh h' g kp bt t=>⟨λb o ht e=>bt b o (λq=>by rw[q] at ht;cases ht) (g.1 b o ht e),g.2.1.kp kp (λo e=>bt _ o (by decide) e),t⟩),
(by decide),
(λh g=>Ztf hIn T (by decide) g),
(by decide)⟩
end
end
section
set_option maxRecDepth 100000
section
variable {P h₁:Heap}{p:Program}{loose:List Str}{mean:ExcName->Option Value}{mg mb:Str->Option Value}
theorem Zhn{v:Value}{h:Int}(x:keyOk v h=true):∃k t,v=.int k t∧h=hashInt k∧0<=k∧k.toNat∈specials:=by
 cases v with
 | int k t=>exact⟨k,t,rfl,eq_of_beq (Zbv x),of_decide_eq_true (Zbv (Za7 x)),List.contains_iff_mem.mp (Za7 (Za7 x))⟩
 | _=>exact absurd x Bool.false_ne_true
theorem Zmk{c:Nat}{v:Option Value}(x:ZrH c v=true):∃t,v=some (.str ⟨[92,c].toArray⟩ t):=by
 cases v with
 | none=>exact absurd x Bool.false_ne_true
 | some v=>
  cases v with
  | str s t=>exact⟨t,by erw[rwl (eq_of_beq (show(s==⟨[92,c].toArray⟩)=true from x) ..) ?_]⟩
  | _=>exact absurd x Bool.false_ne_true
theorem Zj7{d:Data}(x:Zlj d=true):∃es ep,d=.dict es ep:=by
 cases d with
 | dict es ep=>exact⟨es,ep,rfl⟩
 | _=>exact absurd x Bool.false_ne_true
theorem Zsg(hIn:Inn P h₁):Zcy (ZaR h₁) 54:=⟨(λh g=>by
  have e:=hIn.at (a:=54) (hIn.is (by decide)) g
  have hk:=List.all_eq_true.mp (hIn.chk 10 rfl (by decide))
  have hv:=List.all_eq_true.mp (hIn.chk 11 rfl (by decide))
  have h12:=hIn.chk 12 rfl (by decide)
  obtain⟨es,ep,hd⟩:=Zj7 (Zbv h12)
  have he:esE P=es:=by unfold esE Ztk;rw[hd]
  rw[he] at hk hv
  refine⟨λk=>findBy Value.isInt es k,⟨_,es,ep,e,eq_of_beq (Zbv (Za7 h12)),hd,λx hx=>?_,λ_=>rfl⟩,λc=>⟨λhc=>Zmk (hv c hc),λhc=>?_⟩⟩
  ·obtain⟨k,t,h1,h2,_⟩:=Zhn (hk x (Array.mem_toList_iff.mpr hx))
   exact⟨k,t,h1,h2⟩
  ·show findBy Value.isInt es (c:Int)=none
   unfold findBy
   rw[Option.map_eq_none_iff,Array.find?_eq_none]
   intro x hx q
   obtain⟨k,t,h1,_,h3,h4⟩:=Zhn (hk x (Array.mem_toList_iff.mpr hx))
   rw[h1] at q
   have:k=(c:Int):=eq_of_beq q
   rw[this] at h4
   exact hc h4),
(by decide),
(λh g o e=>by
  rw[hIn.at (a:=54) (hIn.is (by decide)) g] at e
  cases e
  have h12:=Za7 (Za7 (hIn.chk 12 rfl (by decide)))
  exact⟨Option.isNone_iff_eq_none.mp (Zbv h12),Array.isEmpty_iff.mp (Za7 h12)⟩)⟩
theorem Zul(hIn:Inn P h₁):∀h,ZaR h₁ h->Zef h 45∧∃o,h.get? 45=some o∧o.dict=none:=λh g=>by
 have e1:=hIn.at (a:=45) (hIn.is (by decide)) g
 have e2:=hIn.at (a:=44) (hIn.is (by decide)) g
 rw[hIn.pat] at e1
 rw[hIn.codes] at e2
 exact⟨⟨_,44,_,e1,rfl,rfl,rfl,rfl,rfl,0,e2⟩,_,e1,rfl⟩
theorem mgF(hIn:Inn P h₁)(g:h₁.Ns mainGlobals mg)(f:Nat)(hf:f < 20):mg (fnN f)=some (.ref (faN f)):=(ZmV hIn g _).trans (ZeT (Zk3 (hIn.chk 1 rfl (by decide)) f hf))
theorem ZsF(hIn:Inn P h₁)(g:h₁.Ns mainGlobals mg):mg ("_twin_re_1" : Str)=some (.ref 45):=(ZmV hIn g _).trans (ZeT (hIn.chk 3 rfl (by decide)))
theorem ZrR(hIn:Inn P h₁)(g:h₁.Ns mainGlobals mg):mg ("_special_chars_map" : Str)=some (.ref 54):=(ZmV hIn g _).trans (ZeT (hIn.chk 4 rfl (by decide)))
theorem Ztq(hIn:Inn P h₁)(g:h₁.Ns mainGlobals mg):mg ("_initial_missing" : Str)=some (.ref 32):=(ZmV hIn g _).trans (ZeT (hIn.chk 5 rfl (by decide)))
end
end
section
set_option maxRecDepth 100000
theorem bindR{M:Model}{A:Around}{E:Value->Shared->Prop}{s:Shared}{fd:FuncData}{as:List Arg}{ds:List Expr}{x y z d:Value}{da:Addr}{n:Nat}{Q:List (Str×Value)->Shared->Prop}(hp:fd.params=⟨[],as,none,[],[],none,ds⟩)(ha:as.map (·.arg)=Zp9)(hd:fd.defaults=.ref da)(hk:fd.kwdefaults=.none)
  (hh:s.heap.get? da=some { cls:=.type "tuple",data:=.seq #[d] n }) (q:Q [("function",x),("sequence",y),("initial",z)] s):wpAny M A (bindArgs fd ⟨[x,y,z],[]⟩) Q E s:=by
 obtain⟨nm,qu,pr,bo,sc,gl,cl,de,kd,dc,pm,an,cd,ct,bi⟩:=fd
 dsimp only at hp hd hk
 subst hp hd hk
 unfold bindArgs
 dsimp only
 refine wpAny_bind (wpAny_pure ?_)
 refine wpAny_bind (wpAny_seqItems hh rfl ?_)
 erw[rwl (ha ..) ?_]
 refine wpAny_of_eq ?_ q
 rfl
end
section
set_option maxRecDepth 100000
section
variable {prog:Program}{w:World}{P h₁:Heap}{p:Program}{loose:List Str}{mean:ExcName->Option Value}{mg mb:Str->Option Value}{n:Nat}
theorem Ze3{Gd:Heap->Prop}{a:Addr}{sem:List D->Option D}(h:∀ds,sem ds=none):Zan prog w Gd a n sem:=λds d e=>by rw[h] at e;cases e
theorem Zcq(hIn:Inn P h₁)(g:h₁.Ns mainGlobals mg){Γ:ZaC}(h20:∀f,20<=f->∀ds,Γ f ds=none)(hc:∀f,f < 20->Zan prog w (ZaR h₁) (faN f) n (Γ f)):Zak prog w (ZaR h₁) mg Γ fnN faN n:=⟨(λf ds d h=>by
  rcases Nat.lt_or_ge f 20 with q | q
  ·exact mgF hIn g f q
  ·rw[h20 f q] at h;cases h),
(λf ds d h=>by
  rcases Nat.lt_or_ge f 20 with q | q
  ·have F:=hIn.Zu2 f q
   exact⟨_,_,F.da,F.ob⟩
  ·rw[h20 f q] at h;cases h),
(λf ds d h=>by
  rcases Nat.lt_or_ge f 20 with q | q
  ·exact hc f q ds d h
  ·rw[h20 f q] at h;cases h)⟩
theorem ZiF{p:Arguments}(h:ZkT p=true):∃(as:List Arg) (ds:List Expr),p=⟨[],as,none,[],[],none,ds⟩∧as.map (·.arg)=Zp9:=by
 obtain⟨a,b,c,d,e,f,g⟩:=p
 cases a with
 | cons=>exact absurd h Bool.false_ne_true
 | nil=>
 cases c with
 | some=>exact absurd h Bool.false_ne_true
 | none=>
 cases d with
 | cons=>exact absurd h Bool.false_ne_true
 | nil=>
 cases e with
 | cons=>exact absurd h Bool.false_ne_true
 | nil=>
 cases f with
 | some=>exact absurd h Bool.false_ne_true
 | none=>exact⟨b,g,rfl,eq_of_beq h⟩
theorem ZuX(hIn:Inn P h₁)(g:h₁.Ns mainGlobals mg):ZaE (ZaR h₁) (bse h₁) mg (ZcF P (faN 0)) (Zbl P (faN 0)) (faN 0) 32:=by
 have F:=hIn.Zu2 0 (by decide)
 have hs:=(hIn.fn 0 (by decide)).2
 have hk:∀{n:Str} {k:NameKind},(scN 0).names.lookup n=some k->(ZcF P (faN 0)).scope.names.lookup n=some k:=λe=>by erw[rwl (hs ..) ?_];exact e
 refine⟨F.ob,F.da,F.cr,F.cl,F.gl,F.bu,λM A s x y z E Q gd q=>?_,F.co,F.gen,F.kd,?_,hk (by kernel_rfl),hk (by kernel_rfl),hk (by kernel_rfl),hk (by kernel_rfl),hk (by kernel_rfl),hk (by kernel_rfl),hk (by kernel_rfl),hk (by kernel_rfl),Ztq hIn g,⟨_,hIn.at0 (hIn.is (by decide))⟩⟩
 ·obtain⟨as,ds,e,e2⟩:=ZiF (hIn.chk 13 rfl (by decide))
  have e33:=hIn.at (a:=33) (hIn.is (by decide)) gd
  rw[hIn.tup] at e33
  exact bindR e e2 (eq_of_beq (hIn.chk 14 rfl (by decide))) (eq_of_beq (hIn.chk 15 rfl (by decide))) e33 q
 ·have hnc:(scN 0).names.all (λy=>y.2 != .cell)=true:=by kernel_rfl
  erw[rwl (hs ..) ?_]
  exact λy hy=>by simpa using List.all_eq_true.mp hnc y hy
theorem Zid(hIn:Inn P h₁):∀h,ZaR h₁ h->∃o,h.get? 32=some o∧o.cls=.type "object" := λh g=>
 ⟨_,hIn.at (a:=32) (hIn.is (by decide)) g,eq_of_beq (hIn.chk 16 rfl (by decide))⟩
theorem ZbW(G:Gr (bse h₁) mg mb (ZaR h₁)){Γ:ZaC}(C:Zak prog w (ZaR h₁) mg Γ fnN faN n)(hIn:Inn P h₁)(f:Nat)(hf:f < 19){nm:List Str}{st:S}{N:Nat}(hnm:∃rest,nm=psN (f+1)++rest)(hnd:nm.Nodup)(hm:ms nm fnN (scN (f+1)) st (Zkv (f+1))=true)(hst:st.Zcw []=true) :
  Zan prog w (ZaR h₁) (faN (f+1)) (n+1) (run Γ N (psN (f+1)).length nm.length st):=
 Zsk G C (hIn.ZmZ f hf) (hIn.fn _ (Nat.succ_lt_succ hf)).2 hnm hnd hm hst
theorem c2(hIn:Inn P h₁)(G:Gr (bse h₁) mg mb (ZaR h₁))(g:h₁.Ns mainGlobals mg):Zan prog w (ZaR h₁) (faN 2) 1 ZjN:=
 Zr4 (n:=0) G (Zsg hIn) (ZrR hIn g) (hIn.ZmZ 1 (by decide)) (by kernel_rfl) (hIn.fn 2 (by decide)).2 (by kernel_rfl) (by kernel_rfl) (by kernel_rfl)
theorem cNo(hIn:Inn P h₁)(g:h₁.Ns mainGlobals mg):Zak prog w (ZaR h₁) mg noΓ fnN faN n:=Zcq hIn g (λ_ _ _=>rfl) λ_ _=>Ze3 λ_=>rfl
theorem c5(hIn:Inn P h₁)(G:Gr (bse h₁) mg mb (ZaR h₁))(g:h₁.Ns mainGlobals mg):Zan prog w (ZaR h₁) (faN 5) 1 Zuf:=
 ZbW (n:=0) G (cNo hIn g) hIn 4 (by decide) (nm:=Zke) ⟨_,rfl⟩ (by decide) (by kernel_rfl) (by decide)
theorem c7(hIn:Inn P h₁)(G:Gr (bse h₁) mg mb (ZaR h₁))(g:h₁.Ns mainGlobals mg):Zan prog w (ZaR h₁) (faN 7) 1 ZsP:=
 ZbW (n:=0) G (cNo hIn g) hIn 6 (by decide) (nm:=Zkh) ⟨_,rfl⟩ (by decide) (by kernel_rfl) (by decide)
theorem c9(hIn:Inn P h₁)(G:Gr (bse h₁) mg mb (ZaR h₁))(g:h₁.Ns mainGlobals mg):Zan prog w (ZaR h₁) (faN 9) 1 ZrI:=
 ZbW (n:=0) G (cNo hIn g) hIn 8 (by decide) (nm:=Zir) ⟨_,rfl⟩ (by decide) (by kernel_rfl) (by decide)
theorem c4(hIn:Inn P h₁)(G:Gr (bse h₁) mg mb (ZaR h₁))(g:h₁.Ns mainGlobals mg):Zan prog w (ZaR h₁) (faN 4) 1 ZuA:=
 ZbW (n:=0) G (cNo hIn g) hIn 3 (by decide) (nm:=Zcd) ⟨_,rfl⟩ (by decide) (by kernel_rfl) (by decide)
theorem c13(hIn:Inn P h₁)(G:Gr (bse h₁) mg mb (ZaR h₁))(g:h₁.Ns mainGlobals mg):Zan prog w (ZaR h₁) (faN 13) 1 ZnQ:=
 ZbW (n:=0) G (cNo hIn g) hIn 12 (by decide) (nm:=ZiM) ⟨_,rfl⟩ (by decide) (by kernel_rfl) (by decide)
theorem c14(hIn:Inn P h₁)(G:Gr (bse h₁) mg mb (ZaR h₁))(g:h₁.Ns mainGlobals mg):Zan prog w (ZaR h₁) (faN 14) 1 ZnC:=
 ZbW (n:=0) G (cNo hIn g) hIn 13 (by decide) (nm:=Zhw) ⟨_,rfl⟩ (by decide) (by kernel_rfl) (by decide)
theorem cA(hIn:Inn P h₁)(G:Gr (bse h₁) mg mb (ZaR h₁))(g:h₁.Ns mainGlobals mg):Zak prog w (ZaR h₁) mg ΓA fnN faN 10:=
 Zcq hIn g (λf hf ds=>by
  match f,hf with
  | f+20,_=>rfl) λf hf=>by
  match f,hf with
  | 2,_=>exact(c2 hIn G g).up (by decide)
  | 4,_=>exact(c4 hIn G g).up (by decide)
  | 5,_=>exact(c5 hIn G g).up (by decide)
  | 7,_=>exact(c7 hIn G g).up (by decide)
  | 9,_=>exact(c9 hIn G g).up (by decide)
  | 13,_=>exact(c13 hIn G g).up (by decide)
  | 14,_=>exact(c14 hIn G g).up (by decide)
  | 0,_ | 1,_ | 3,_ | 6,_ | 8,_ | 10,_ | 11,_ | 12,_ | 15,_ | 16,_ | 17,_ | 18,_ | 19,_=>exact Ze3 λ_=>rfl
  | f+20,hf=>exact absurd hf (Nat.not_lt.mpr (Nat.le_add_left 20 f))
end
end
section
set_option maxRecDepth 100000
section
variable {prog:Program}{w:World}{P h₁:Heap}{p:Program}{loose:List Str}{mean:ExcName->Option Value}{mg mb:Str->Option Value}{n:Nat}
theorem c6(hIn:Inn P h₁)(G:Gr (bse h₁) mg mb (ZaR h₁))(g:h₁.Ns mainGlobals mg):Zan prog w (ZaR h₁) (faN 6) 11 ZtL:=
 ZbW (n:=10) G (cA hIn G g) hIn 5 (by decide) (nm:=Zha) ⟨_,rfl⟩ (by decide) (by kernel_rfl) (by decide)
theorem c8(hIn:Inn P h₁)(G:Gr (bse h₁) mg mb (ZaR h₁))(g:h₁.Ns mainGlobals mg):Zan prog w (ZaR h₁) (faN 8) 11 ZtM:=
 ZbW (n:=10) G (cA hIn G g) hIn 7 (by decide) (nm:=Zib) ⟨_,rfl⟩ (by decide) (by kernel_rfl) (by decide)
theorem c10(hIn:Inn P h₁)(G:Gr (bse h₁) mg mb (ZaR h₁))(g:h₁.Ns mainGlobals mg):Zan prog w (ZaR h₁) (faN 10) 11 Znq:=
 ZbW (n:=10) G (cA hIn G g) hIn 9 (by decide) (nm:=Zhh) ⟨_,rfl⟩ (by decide) (by kernel_rfl) (by decide)
theorem c12(hIn:Inn P h₁)(G:Gr (bse h₁) mg mb (ZaR h₁))(g:h₁.Ns mainGlobals mg):Zan prog w (ZaR h₁) (faN 12) 11 ZlV:=
 ZbW (n:=10) G (cA hIn G g) hIn 11 (by decide) (nm:=Zg8) ⟨_,rfl⟩ (by decide) (by kernel_rfl) (by decide)
theorem c15(hIn:Inn P h₁)(G:Gr (bse h₁) mg mb (ZaR h₁))(g:h₁.Ns mainGlobals mg):Zan prog w (ZaR h₁) (faN 15) 11 ZoE:=
 ZbW (n:=10) G (cA hIn G g) hIn 14 (by decide) (nm:=ZfM) ⟨_,rfl⟩ (by decide) (by kernel_rfl) (by decide)
theorem c3(hIn:Inn P h₁)(G:Gr (bse h₁) mg mb (ZaR h₁))(g:h₁.Ns mainGlobals mg)(O:ZeB (ZaR h₁) 70 66 xsT mg):Zan prog w (ZaR h₁) (faN 3) 11 Zt3:=
 Zpr (n:=10) G (cA hIn G g) O (by decide) (hIn.ZmZ 2 (by decide)) (eq_of_beq (hIn.chk 17 rfl (by decide))) (ys:=[(76,37,true),(77,39,false)])
  (λgl gc h=>by
   simp at h
   obtain⟨rfl,rfl⟩:=h
   exact⟨(⟨76,37,0,0⟩,"_translate.<locals>.<genexpr>"),by simp[xsT],rfl,rfl,by rw[eq_of_beq (hIn.chk 19 rfl (by decide))];kernel_rfl⟩)
  (λgl gc h=>by
   simp at h
   obtain⟨rfl,rfl⟩:=h
   exact⟨(⟨77,39,0,0⟩,"_translate.<locals>.<lambda>"),by simp[xsT],rfl,rfl,by rw[eq_of_beq (hIn.chk 19 rfl (by decide))];kernel_rfl⟩)
  (ZsF hIn g) (Zul hIn) (hIn.fn 3 (by decide)).2 (nm:=ZhU) ⟨_,rfl⟩ (by decide) (by kernel_rfl) (by decide)
theorem cB(hIn:Inn P h₁)(G:Gr (bse h₁) mg mb (ZaR h₁))(g:h₁.Ns mainGlobals mg)(O:ZeB (ZaR h₁) 70 66 xsT mg):Zak prog w (ZaR h₁) mg ΓB fnN faN 20:=
 Zcq hIn g (λf hf ds=>by
  match f,hf with
  | f+20,_=>rfl) λf hf=>by
  match f,hf with
  | 2,_=>exact(c2 hIn G g).up (by decide)
  | 4,_=>exact(c4 hIn G g).up (by decide)
  | 5,_=>exact(c5 hIn G g).up (by decide)
  | 7,_=>exact(c7 hIn G g).up (by decide)
  | 9,_=>exact(c9 hIn G g).up (by decide)
  | 13,_=>exact(c13 hIn G g).up (by decide)
  | 14,_=>exact(c14 hIn G g).up (by decide)
  | 3,_=>exact(c3 hIn G g O).up (by decide)
  | 6,_=>exact(c6 hIn G g).up (by decide)
  | 8,_=>exact(c8 hIn G g).up (by decide)
  | 10,_=>exact(c10 hIn G g).up (by decide)
  | 12,_=>exact(c12 hIn G g).up (by decide)
  | 15,_=>exact(c15 hIn G g).up (by decide)
  | 0,_ | 1,_ | 11,_ | 16,_ | 17,_ | 18,_ | 19,_=>exact Ze3 λ_=>rfl
  | f+20,hf=>exact absurd hf (Nat.not_lt.mpr (Nat.le_add_left 20 f))
theorem c1(hIn:Inn P h₁)(G:Gr (bse h₁) mg mb (ZaR h₁))(g:h₁.Ns mainGlobals mg)(O:ZeB (ZaR h₁) 70 66 xsT mg):Zan prog w (ZaR h₁) (faN 1) 21 ZoR:=
 Zuy (n:=20) (N:=fuel) (nms:=["parts"]) (st:=ZtE) G (cB hIn G g O) (hIn.ZmZ 0 (by decide)) (by decide) (hIn.fn 1 (by decide)).2 (by kernel_rfl) (by kernel_rfl) (by kernel_rfl) (by decide) λds d h=>ZpO h
theorem c11(hIn:Inn P h₁)(G:Gr (bse h₁) mg mb (ZaR h₁))(g:h₁.Ns mainGlobals mg)(O:ZeB (ZaR h₁) 70 66 xsT mg):Zan prog w (ZaR h₁) (faN 11) 21 Zla:=
 ZbW (n:=20) G (cB hIn G g O) hIn 10 (by decide) (nm:=ZiW) ⟨_,rfl⟩ (by decide) (by kernel_rfl) (by decide)
theorem cC(hIn:Inn P h₁)(G:Gr (bse h₁) mg mb (ZaR h₁))(g:h₁.Ns mainGlobals mg)(O:ZeB (ZaR h₁) 70 66 xsT mg):Zak prog w (ZaR h₁) mg ΓC fnN faN 30:=
 Zcq hIn g (λf hf ds=>by
  match f,hf with
  | f+20,_=>rfl) λf hf=>by
  match f,hf with
  | 1,_=>exact(c1 hIn G g O).up (by decide)
  | 11,_=>exact(c11 hIn G g O).up (by decide)
  | 2,_=>exact(c2 hIn G g).up (by decide)
  | 4,_=>exact(c4 hIn G g).up (by decide)
  | 5,_=>exact(c5 hIn G g).up (by decide)
  | 7,_=>exact(c7 hIn G g).up (by decide)
  | 9,_=>exact(c9 hIn G g).up (by decide)
  | 13,_=>exact(c13 hIn G g).up (by decide)
  | 14,_=>exact(c14 hIn G g).up (by decide)
  | 3,_=>exact(c3 hIn G g O).up (by decide)
  | 6,_=>exact(c6 hIn G g).up (by decide)
  | 8,_=>exact(c8 hIn G g).up (by decide)
  | 10,_=>exact(c10 hIn G g).up (by decide)
  | 12,_=>exact(c12 hIn G g).up (by decide)
  | 15,_=>exact(c15 hIn G g).up (by decide)
  | 0,_ | 16,_ | 17,_ | 18,_ | 19,_=>exact Ze3 λ_=>rfl
  | f+20,hf=>exact absurd hf (Nat.not_lt.mpr (Nat.le_add_left 20 f))
theorem c17(hIn:Inn P h₁)(G:Gr (bse h₁) mg mb (ZaR h₁))(g:h₁.Ns mainGlobals mg)(O:ZeB (ZaR h₁) 70 66 xsT mg):∀k:Nat,Zan prog w (ZaR h₁) (faN 17) (30+k) (ZcA k)
 | 0=>Ze3 λ_=>rfl
 | k+1=>by
  have C:Zak prog w (ZaR h₁) mg (ΓV (ZcA k)) fnN faN (30+k):=by
   have B:=(cB (prog:=prog) (w:=w) hIn G g O)
   refine Zcq hIn g (λf hf ds=>?_) λf hf=>?_
   ·match f,hf with
    | f+20,_=>rfl
   ·by_cases q:f=17
    ·subst q;exact c17 hIn G g O k
    ·have e:ΓV (ZcA k) f=ΓB f:=by
      unfold ΓV
      split
      ·exact absurd rfl q
      ·rfl
     erw[rwl (e ..) ?_]
     exact λds d hd A P s vs R L ok hP hr k=>B.ok f ds d hd A P s vs R (L.le (by lia)) ok hP hr k
  exact ZbW (n:=30+k) G C hIn 16 (by decide) (nm:=Zhx) ⟨_,rfl⟩ (by decide) (by kernel_rfl) (by decide)
theorem c16(hIn:Inn P h₁)(G:Gr (bse h₁) mg mb (ZaR h₁))(g:h₁.Ns mainGlobals mg)(O:ZeB (ZaR h₁) 70 66 xsT mg):Zan prog w (ZaR h₁) (faN 16) 31 Zgw:=
 ZbW (n:=30) G (cC hIn G g O) hIn 15 (by decide) (nm:=ZiI) ⟨_,rfl⟩ (by decide) (by kernel_rfl) (by decide)
theorem cD(hIn:Inn P h₁)(G:Gr (bse h₁) mg mb (ZaR h₁))(g:h₁.Ns mainGlobals mg)(O:ZeB (ZaR h₁) 70 66 xsT mg):Zak prog w (ZaR h₁) mg ΓD fnN faN 50:=by
 have Cc:=(cC (prog:=prog) (w:=w) hIn G g O)
 refine Zcq hIn g (λf hf ds=>?_) λf hf=>?_
 ·match f,hf with
  | f+20,_=>rfl
 ·by_cases q:f=17
  ·subst q;exact(c17 hIn G g O 12).up (by decide)
  ·by_cases q':f=16
   ·subst q';exact(c16 hIn G g O).up (by decide)
   ·have e:ΓD f=ΓC f:=by
     unfold ΓD
     split
     ·exact absurd rfl q'
     ·exact absurd rfl q
     ·rfl
    erw[rwl (e ..) ?_]
    exact λds d hd A P s vs R L ok hP hr k=>Cc.ok f ds d hd A P s vs R (L.le (by lia)) ok hP hr k
theorem c18(hIn:Inn P h₁)(G:Gr (bse h₁) mg mb (ZaR h₁))(g:h₁.Ns mainGlobals mg)(O:ZeB (ZaR h₁) 70 66 xsT mg):Zan prog w (ZaR h₁) (faN 18) 51 ZnO:=
 ZbW (n:=50) G (cD hIn G g O) hIn 17 (by decide) (nm:=Zhi) ⟨_,rfl⟩ (by decide) (by kernel_rfl) (by decide)
theorem cE(hIn:Inn P h₁)(G:Gr (bse h₁) mg mb (ZaR h₁))(g:h₁.Ns mainGlobals mg)(O:ZeB (ZaR h₁) 70 66 xsT mg):Zak prog w (ZaR h₁) mg ΓE fnN faN 60:=by
 have Cd:=(cD (prog:=prog) (w:=w) hIn G g O)
 refine Zcq hIn g (λf hf ds=>?_) λf hf=>?_
 ·match f,hf with
  | f+20,_=>rfl
 ·by_cases q:f=18
  ·subst q;exact(c18 hIn G g O).up (by decide)
  ·have e:ΓE f=ΓD f:=by
    unfold ΓE
    split
    ·exact absurd rfl q
    ·rfl
   erw[rwl (e ..) ?_]
   exact λds d hd A P s vs R L ok hP hr k=>Cd.ok f ds d hd A P s vs R (L.le (by lia)) ok hP hr k
end
end
section
set_option maxRecDepth 100000
theorem items_int{R:WRecords}:∀{xs:List WData},WShape.hasItems R xs .int=true->∃ns:List Int,xs=ns.map .int
 | [],_=>⟨[],rfl⟩
 | x::xs,h=>by
  have h':(WShape.has R x .int&&WShape.hasItems R xs .int)=true:=h
  simp only[Bool.and_eq_true] at h'
  obtain⟨ns,rfl⟩:=items_int h'.2
  cases x with
  | int i=>exact⟨i::ns,rfl⟩
  | _=>exact Bool.noConfusion (show false=true from h'.1)
theorem Zn5{R:WRecords}{args:List WData}(h:WShape.hasAll R args [.list .int]=true):∃ns:List Int,args=[.list (ns.map .int)]:=by
 cases args with
 | nil=>cases h
 | cons a r=>
  have h':(WShape.has R a (.list .int)&&WShape.hasAll R r [])=true:=h
  simp only[Bool.and_eq_true] at h'
  have hr:r=[]:=by
   cases r with
   | nil=>rfl
   | cons _ _=>exact Bool.noConfusion (show false=true from h'.2)
  subst hr
  cases a with
  | list xs=>
   obtain⟨ns,rfl⟩:=items_int ((Bool.or_false _).symm.trans (show(WShape.hasItems R xs .int||false)=true from h'.1))
   exact⟨ns,rfl⟩
  | _=>exact Bool.noConfusion (show false=true from h'.1)
theorem ZhG{P:Params}{h:Heap}:∀{ns:List Int} {vs:List Value},WellAll P h vs (ns.map .int)->Zad (λ_=>True) h vs (ns.map .int)
 | [],vs,x=>by
  cases x
  exact .nil
 | n::ns,vs,x=>by
  cases x with
  | cons a b=>
   cases a
   exact .cons (.int _ _) (ZhG b)
theorem Zqq{ns:List Int}(h:PySem.Challenge.rw_rx0098_01.row.toRowW.claim.pre [.list (ns.map .int)]=true):ns.length<=63:=by
 have h':(WShape.hasAll [] [WData.list (ns.map .int)] [.list .int]&&WTm.holds [] (.and (.not (.lt (.lit (.int 63)) (.len (.arg 0)))) (.lit (.bool true))) { args:=[WData.list (ns.map .int)] })=true:=h
 simp only[Bool.and_eq_true] at h'
 have h2:WTm.holds [] (.and (.not (.lit (.bool (decide ((63:Int) < ((ns.map WData.int).length:Int)))))) (.lit (.bool true))) { args:=[WData.list (ns.map .int)] }=true:=h'.2
 by_cases q:(63:Int) < (ns.map WData.int).length
 ·rw[decide_eq_true q] at h2
  exact Bool.noConfusion (show false=true from h2)
 ·rw[List.length_map] at q;lia
theorem Zpm(ns:List Int):PySem.Challenge.rw_rx0098_01.row.toRowW.claim.post [.list (ns.map .int)] (.bool true) [.list (ns.map .int)]=true:=by
 have e:same (.bool true) (.bool true)=true:=by decide +kernel
 show(WShape.has [] (.bool true) .bool&&WTm.holds [] (.lit (.bool (same (.bool true) (.bool true)))) { args:=[WData.list (ns.map .int)],res:=some (.bool true),after:=[.list (ns.map .int)] })=true
 erw[rwl (e ..) ?_]
 rfl
theorem ZjY{h:Heap}{c Pt:Addr}(x:CodeHd h c Pt):isCodeTable h Pt:=by
 obtain⟨o,vs,file,tf,flags,tg,inF,text,tt,e1,e2,e3,e4,_⟩:=x
 exact⟨c,o,vs,e1,e2,e3,e4⟩
theorem Zsm{P h₁ h:Heap}(hIn:Inn P h₁)(g:ZaR h₁ h):OldK h₁ h:=by
 have tb:∀b,ZeF b=true->isCodeTable h₁ b∧h₁.get? b=some (tabObj #[])∧∃ps,h.get? b=some (tabObj ps):=λb q=>by
  unfold ZeF at q
  simp only[Bool.or_eq_true,beq_iff_eq] at q
  rcases q with rfl | rfl
  ·obtain⟨_,ps,e2,_⟩:=g.2.1
   exact⟨ZjY (c:=70) (ZpS hIn (hIn.is (by decide)) (hIn.chk 7 rfl (by decide))),hIn.t1,ps,e2⟩
  ·obtain⟨_,ps,e2,_⟩:=g.2.2
   exact⟨ZjY (c:=168) (ZpS hIn (hIn.is (by decide)) (hIn.chk 8 rfl (by decide))),hIn.t2,ps,e2⟩
 refine⟨λb o e=>?_,λb o e=>?_⟩
 ·cases q:ZeF b with
  | false=>exact .inl (g.1 b o q e)
  | true=>
   obtain⟨t1,t2,ps,t3⟩:=tb b q
   rw[e] at t2
   cases t2
   exact .inr (.inl ⟨t1,rfl,#[],ps,rfl,by erw[rwl (Array.empty_append ..) ?_];exact t3⟩)
 ·cases q:ZeF b with
  | false=>exact⟨o,g.1 b o q e⟩
  | true=>obtain⟨_,_,ps,t3⟩:=tb b q;exact⟨_,t3⟩
noncomputable def qL:Program:=view PySem.Challenge.pw_rx0098_01 [0,28]
noncomputable def ZgU:List Str := "_initial_missing" :: "_twin_re_1" :: "_special_chars_map" :: (List.range 19).map fnN
noncomputable def ZvK:DefRec:=((defOf qL "law").map (·.1)).getD ((recsOf qL).headD ⟨"",default,[],scN 0,default⟩)
noncomputable def ZkU (w : World) : Prop := (ZjU (stepT (denote treeTable)) (start (opening PySem.Challenge.pw_rx0098_01)) (opening PySem.Challenge.pw_rx0098_01) PySem.Challenge.pw_rx0098_01 w 3000).map (fun r =>
      (staticsOk (importedModules PySem.Challenge.pw_rx0098_01.main.body) r.1.heap r.2.abs.heap&&namesBound PySem.Challenge.pw_rx0098_01 r.2.abs.heap&&gensDone r.2.abs&&laidKept r.1.heap r.2.abs.heap,
        openSeen qL ZgU (importedModules PySem.Challenge.pw_rx0098_01.main.body) (λ_=>true) true r.2.abs,obs r.2.abs.heap))=some (true,openGood qL ZgU,want)
theorem ZnF(a b:Bool)(w:World):ZkU ((w.withFollow "comprehension-iter-twice" a).withFollow "special-get-raises" b):=by
 unfold ZkU
 erw[rwl (PySem.W.Fast.te10156331382660048174 ..) (rwl (PySem.W.Fast.te11892475500146522536 ..) (rwl (PySem.W.Fast.te1435165496053646825 ..) (rwl (PySem.W.Fast.te14364793385576792824 ..) (rwl (PySem.W.Fast.te4187177175401517315 ..) ?_))))]
 cases a<;>cases b<;>kernel_rfl
end
section
set_option maxRecDepth 100000
theorem Zny:LeftO PySem.Challenge.pw_rx0098_01 qL ZgU (λ_=>true) (λs=>obs s.heap) (λ_=>want) 3000 true:=
 ZpW λw=>byRow2 (P:=ZkU) "special-get-raises" (λw=>byRow2 (P:=λw=>ZkU (w.withFollow "special-get-raises" false)) "comprehension-iter-twice" (ZnF false false) (ZnF true false) w)
  (λw=>byRow2 (P:=λw=>ZkU (w.withFollow "special-get-raises" true)) "comprehension-iter-twice" (ZnF false true) (ZnF true true) w) w
theorem said:PySem.Challenge.rw_rx0098_01.wellSaid=true:=by
 erw[rwl (PySem.W.Fast.te9446332074065402090 ..) ?_]
 kernel_rfl
theorem hd(call:WalkO qL ZgU (λ_ _=>True) (λ_ h=>∃P,Inn P h) PySem.Challenge.rw_rx0098_01.row.toRowW ZvK [] λf vs=>PySem.call f vs):PySem.Challenge.rw_rx0098_01.Holds:=
 holds_law said λs=>holds_open (q:=qL) (loose:=ZgU) (XP:=λ_ _=>True) Zny (λw s e=>⟨s.heap,λ_ _ e=>e,e⟩) (λw h h' x k=>let ⟨P,y⟩:=x;⟨P,λb o e=>k _ _ (y.kp b o e),y.e⟩) (λ_ _=>trivial) (λ_ _ _ _ _=>trivial)
  (by kernel_rfl) (by kernel_rfl) (by kernel_rfl) (λs e=>recFacts_nil (by kernel_rfl)) (by kernel_rfl) s (by kernel_rfl) ⟨rfl,rfl,rfl,rfl,rfl,by decide +kernel⟩ ⟨[.list []],by kernel_rfl,by kernel_rfl⟩ call
end
section
set_option maxRecDepth 100000
theorem Zt4{q:Str}(e:q = "law"):∃pq∈xsL,pq.1.line=302∧pq.1.col=11∧pq.2=(q ++ ".<locals>.")++("<lambda>" : Str):=⟨(⟨302,11,0,0⟩,"law.<locals>.<lambda>"),List.mem_singleton.mpr rfl,rfl,rfl,by erw[rwl (e ..) ?_];kernel_rfl⟩
theorem ZrS{l:List (Str×NameKind)}(h:l.all (λp=>p.2 != .cell)=true):∀p∈l,p.2≠.cell:=λp hp=>bne_iff_ne.mp (List.all_eq_true.mp h p hp)
set_option tactic.hygienic true in
theorem final(hsem:∀l:List Int,l.length<=63->ZoS ΓE fuel 14 Zht Zdj ZeU ZlH ZkY (.list (l.map .int))):PySem.Challenge.rw_rx0098_01.Holds:=by
 refine hd λw s₀ s₁ mg mb G Y a o pm cd doc dV kV h1 h2 h3 h4 h5 h6 args vals as hpre hlay hrd hwell has=>?_
 obtain⟨P,hIn⟩:=Y
 have T:=G.T
 have ea:a=faN 19:=by
  have:=mgF hIn T.g 19 (by decide)
  rw[show fnN 19=("law" : Str) from rfl,show mg "law" = _ from h5] at this
  cases this
  rfl
 subst ea
 clear h1 h2 h3 h4
 obtain⟨ns,rfl⟩:=Zn5 (Bool.and_eq_true_iff.mp (show(WShape.hasAll [] args [.list .int]&&_)=true from hpre)).1
 have hlen:=Zqq hpre
 cases hwell with
 | cons hw hn=>
  cases hn
  cases hw with
  | list hl hws=>
   rename_i l vs
   have Gr':=ZuD hIn T
   have OT:=ZvR hIn T
   have OL:=ZvM hIn T
   have Df:=hIn.ZmZ 18 (by decide)
   rw[←List.take_append_drop 9 (Zkv (18+1))] at Df
   refine wpAny_call ?_
   obtain⟨_,_,_,_,_,_,_,_,V⟩:=(hsem ns hlen).run
   refine ZrY (n:=60) (N:=fuel) (xl:=Zdj) (xc:=ZeU) (tX:=ZlH) (rX:=ZkY) (st:=Zht) (nms:=ZpB.drop 1) (P:=λ_=>True) Gr' (cE hIn Gr' T.g OT) OL (ZuX hIn T.g) (hIn.fn 0 (by decide)).1 (mgF hIn T.g 0 (by decide)) (Zid hIn) Df (eq_of_beq (hIn.chk 18 rfl (by decide))) (hIn.fn 19 (by decide)).2 (by decide) (by kernel_rfl) (by decide)
    (Zt4 (eq_of_beq (hIn.chk 20 rfl (by decide)))) (by kernel_rfl) (by kernel_rfl) ⟨by decide,by kernel_rfl,rfl,rfl,rfl,ZrS (by kernel_rfl),by kernel_rfl,by kernel_rfl,by kernel_rfl⟩ (ZnU (by kernel_rfl)) (by kernel_rfl) (by decide) (by decide) (by kernel_rfl) (by decide) (by kernel_rfl) (by kernel_rfl) (by kernel_rfl) (by kernel_rfl) (by kernel_rfl) (by kernel_rfl) (by kernel_rfl) (by decide) (by decide) (by kernel_rfl) (by kernel_rfl) (by kernel_rfl) (by kernel_rfl) (by kernel_rfl) (by kernel_rfl) (by kernel_rfl)
    V ?_ (gd0 hIn) (by kernel_rfl) (λa h=>absurd trivial h) ?_ λs' g' o'=>?_
   ·exact⟨rfl,by decide,by decide⟩
   ·exact .cons (.list trivial ⟨0,hl⟩ (ZhG hws) (by erw[rwl (szv ..) ?_];simp;lia)) .nil
   ·refine⟨.inl ⟨.bool true,.bool true,[],rfl,λcls=>rfl,.bool true,Zpm ns,λ_=>⟨List.nodup_nil,λa h=>nomatch h⟩⟩,Zsm hIn o'.gd,g'.os,g'.gens (.of_eq h6)⟩
end
end Mine.Internal
theorem PySem.Challenge.cw_rx0098_01_holds : PySem.Challenge.rw_rx0098_01.Holds :=
  Mine.Internal.final Mine.Internal.law_sem
