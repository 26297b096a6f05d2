import PyProof.Rows.All
import Wide.All
import OpenK.AllK
import Wide.FinOn
import PySem.Challenge.RW_rx0098_01
open PySem PySem.W PyProof.Rows
set_option Elab.async false
noncomputable section
set_option tactic.hygienic false
set_option genSizeOf false
set_option linter.all false
local macro_rules | `(tactic| erw [$r:term]) => `(tactic| (refine $r; try with_reducible rfl))
namespace Mine.Internal
@[elab_as_elim] theorem rwl {α:Sort u} {motive:α->Prop} {a b:α} (h:a=b) (k:motive b):motive a:=h▸k
@[elab_as_elim] theorem rwr {α:Sort u} {motive:α->Prop} {a b:α} (h:b=a) (k:motive b):motive a:=h▸k
section
noncomputable def ZtR(stp:SharedT->Thread->Option (SharedT×Thread)):Nat->SharedT->Thread->Option SharedT
 | 0,_,_=>none
 | n+1,s,t=>match t.atExitBegin with
  | some []=>some s
  | some (_::_)=>none
  | none=>match stp s t with
   | some (s',t')=>ZtR stp n s' t'
   | none=>none
theorem Zmx{tb:String->Option Builtin}{p:Program}{w:World}:∀{n:Nat} {s s':SharedT} {t:Thread},ZtR (stepT (denote tb) p w) n s t=some s'->importEnds tb p w n s.abs t=some s'.abs
 | 0,_,_,_,h=>by cases h
 | n+1,s,s',t,h=>by
  unfold ZtR at h
  unfold importEnds
  cases he:t.atExitBegin with
  | some x=>
   rw[he] at h
   cases x with
   | nil=>cases h;rfl
   | cons=>cases h
  | none=>
   rw[he] at h
   cases hs:stepT (denote tb) p w s t with
   | none=>rw[hs] at h;cases h
   | some r=>obtain⟨s₂,t₂⟩:=r;rw[hs] at h;dsimp only;erw[rwl (stepT_spec hs ..) ?_];exact Zmx h
noncomputable def ZtP(stp:SharedT->Thread->Option (SharedT×Thread))(n₀:Nat)(ann:Option Value):Nat->SharedT->Thread->Option SharedT
 | 0,_,_=>none
 | n+1,s,t=>match through t with
  | true=>some s
  | false=>match stepOk n₀ ann t with
   | false=>none
   | true=>match stp s t with
    | some (s',t')=>ZtP stp n₀ ann n s' t'
    | none=>none
theorem Zly{tb:String->Option Builtin}{p:Program}{w:World}{n₀:Nat}{ann:Option Value}:∀{n:Nat} {s s':SharedT} {t:Thread},ZtP (stepT (denote tb) p w) n₀ ann n s t=some s'->topRun tb p w n₀ ann n s.abs t=some s'.abs
 | 0,_,_,_,h=>by cases h
 | n+1,s,s',t,h=>by
  unfold ZtP at h
  unfold topRun
  cases he:through t with
  | true=>rw[he] at h;cases h;rfl
  | false=>
   rw[he] at h
   cases hk:stepOk n₀ ann t with
   | false=>rw[hk] at h;cases h
   | true=>
    rw[hk] at h
    cases hs:stepT (denote tb) p w s t with
    | none=>rw[hs] at h;cases h
    | some r=>obtain⟨s₂,t₂⟩:=r;rw[hs] at h;dsimp only;erw[rwl (stepT_spec hs ..) ?_];exact Zly h
noncomputable def mkT:List Obj->Nat->BT->Option BT
 | [],_,T=>some T
 | o::r,n,T=>match ((T.ins n o).get n).isSome with
  | true=>mkT r (n+1) (T.ins n o)
  | false=>none
theorem Zo2{life:Life}:∀{l:List Obj} {n:Nat} {T T':BT} {pre:List Obj},absHeap T n life=⟨pre.toArray,life⟩->mkT l n T=some T'->absHeap T' (n+l.length) life=⟨(pre++l).toArray,life⟩
 | [],n,T,T',pre,e,h=>by cases h;simpa using e
 | o::r,n,T,T',pre,e,h=>by
  unfold mkT at h
  cases q:((T.ins n o).get n).isSome with
  | false=>rw[q] at h;cases h
  | true=>
   rw[q] at h
   have e2:absHeap (T.ins n o) (n+1) life=⟨(pre++[o]).toArray,life⟩:=by
    erw[rwl (absHeap_ins q ..) (rwl (e ..) ?_)]
    simp[Heap.push]
   have:=Zo2 e2 h
   rw[List.append_assoc] at this
   rw[List.length_cons,show n+(r.length+1)=n+1+r.length by lia]
   exact this
noncomputable def Zpi(os:OsState):SharedT:=⟨.nil,0,{},#[],{},1,os⟩
theorem Zka(os:OsState):(Zpi os).abs={ os:=os }:=by kernel_rfl
noncomputable def Zja(stp:Program->World->SharedT->Thread->Option (SharedT×Thread))(st:Shared×Thread)(q p:Program)(w:World)(N:Nat):Option (Shared×SharedT):=
 (ZtR (stp q w) N (Zpi st.1.os) st.2).bind λs=>(fenceModules? p s.abs).bind λs₀=>match s₀.heap.isNs mainGlobals&&s₀.gens.size==0 with
  | true=>(mkT s₀.heap.objs.toList 0 .nil).bind λT=>(ZtP (stp p w) s₀.heap.objs.size (s₀.heap.nsMap mainGlobals "__annotations__") N ⟨T,s₀.heap.objs.toList.length,s₀.heap.life,s₀.gens,s₀.drawn,s₀.toks,s₀.os⟩ (topStub p)).map λs=>(s₀,s)
  | false=>none
theorem ZkU{p:Program}{w:World}{N:Nat}{s₀:Shared}{s:SharedT}(h:Zja (stepT (denote treeTable)) (start (opening p)) (opening p) p w N=some (s₀,s)) :
  fencedOpening treeTable p w N=some s₀∧(s₀.heap.isNs mainGlobals&&s₀.gens.size==0)=true∧
  topRun treeTable p w s₀.heap.objs.size (s₀.heap.nsMap mainGlobals "__annotations__") N s₀ (topStub p)=some s.abs:=by
 unfold Zja at h
 obtain⟨s1,h1,h⟩:=Option.bind_eq_some_iff.mp h
 obtain⟨s2,h2,h⟩:=Option.bind_eq_some_iff.mp h
 have e1:=Zmx h1
 rw[Zka] at e1
 cases hc:(s2.heap.isNs mainGlobals&&s2.gens.size==0) with
 | false=>rw[hc] at h;cases h
 | true=>
  rw[hc] at h
  obtain⟨T,h3,h⟩:=Option.bind_eq_some_iff.mp h
  obtain⟨s3,h4,h5⟩:=Option.map_eq_some_iff.mp h
  cases h5
  have e4:=Zly h4
  have em:=Zo2 (life:=s₀.heap.life) (pre:=[]) (by kernel_rfl) h3
  rw[Nat.zero_add,List.nil_append] at em
  obtain⟨⟨⟨os⟩,life⟩,gens,drawn,toks,ost⟩:=s₀
  unfold SharedT.abs at e4
  dsimp only at e4 em
  rw[em] at e4
  refine⟨?_,hc,e4⟩
  unfold fencedOpening
  have e1':importEnds treeTable (opening p) w N (start (opening p)).1 (start (opening p)).2=some s1.abs:=e1
  erw[rwl (e1' ..) ?_]
  exact h2
theorem ZpS{p q:Program}{loose:List Str}{α:Type}{Yf:Shared->α}{Ya:α}{N:Nat}
  (h:∀w:World,(Zja (stepT (denote treeTable)) (start (opening p)) (opening p) p w N).map (λr=>
   (staticsOk (importedModules p.main.body) r.1.heap r.2.abs.heap&&namesBound p r.2.abs.heap&&gensDone r.2.abs&&laidKept r.1.heap r.2.abs.heap,openSeen q loose (importedModules p.main.body) (λ_=>true) true r.2.abs,Yf r.2.abs)) =
   some (true,openGood q loose,Ya)):LeftO p q loose (λ_=>true) Yf (λ_=>Ya) N true:=λw=>by
 obtain⟨⟨s₀,s⟩,h1,h2⟩:=Option.map_eq_some_iff.mp (h w)
 obtain⟨a1,a2,a3⟩:=ZkU h1
 obtain⟨b1,b2,b3⟩:_∧_∧_:=by simpa only[Prod.mk.injEq] using h2
 unfold openEnds
 erw[rwl (a1 ..) ?_]
 show(topFrom treeTable p w N s₀).map _=_
 unfold topFrom
 erw[rwl (a2 ..) ?_]
 dsimp only
 erw[rwl (a3 ..) ?_]
 dsimp only[Option.bind_some]
 erw[rwl (b1 ..) ?_]
 dsimp only[Option.map_some]
 erw[rwl (b2 ..) (rwl (b3 ..) ?_)]
end
section
set_option backward.match.sparseCases false
theorem nf{C:Prop}(h:false=true):C:=Bool.noConfusion h
theorem Zh0{i n:Nat}(h:i < n):n - i=n - (i+1)+1:=(Nat.succ_pred_eq_of_pos (Nat.sub_pos_of_lt h)).symm
theorem ZtA{i n:Nat}(h:i < n):n - 1 - (n - (i+1))=i:=by erw[rwl (Nat.add_comm i 1 ..) (rwl (Nat.sub_add_eq ..) (rwl (Nat.sub_sub_self (Nat.le_sub_one_of_lt h) ..) ?_))]
theorem Zr0{n p i k:Nat}(h:n - p<=k+1)(hp:p<=i):n - (i+1)<=k:=Nat.pred_le_pred (Nat.le_trans (Nat.sub_le_sub_left hp _) h)
theorem ZvX{t j k:Nat}(h:t<=j∧j < t+(k - t)):j < k:=
 (Nat.le_total t k).elim (λq=>Nat.lt_of_lt_of_eq h.2 (Nat.add_sub_of_le q)) λq=>absurd (Nat.lt_of_lt_of_eq h.2 (by erw[rwl (Nat.sub_eq_zero_of_le q ..) ?_];rfl)) (Nat.not_lt.mpr h.1)
theorem Zuf{S p i m:Nat}(hs:S<=2 * p)(h:p<=i):S+min (i - p) m<=p+i:=
 Nat.le_trans (Nat.add_le_add hs (Nat.min_le_left _ _)) (Nat.le_of_eq (by erw[rwl (Nat.two_mul ..) (rwl (Nat.add_assoc ..) (rwl (Nat.add_sub_of_le h ..) ?_))]))
theorem Zul{lo i y hi:Nat}(h:lo<=i)(h2:i+y<=hi):lo<=i∧i < lo+(hi+1 - lo):=
 have k:=Nat.lt_succ_of_le (Nat.le_trans (Nat.le_add_right i y) h2)
 ⟨h,Nat.lt_of_lt_of_le k (Nat.le_of_eq (Nat.add_sub_of_le (Nat.le_of_lt (Nat.lt_of_le_of_lt h k))).symm)⟩
theorem ZqA{i p a b:Nat}(h:i<=p):p < i+(b+1 - a - i)↔p+a<=b:=by lia
theorem nn{α:Type}{x:α}{C:Prop}(h:(none:Option α)=some x):C:=absurd h (λe=>nf (show false=true from congrArg Option.isSome e))
theorem Zbg{a b:Bool}{G:Prop}(h:(a&&b)=true)(k:a=true->b=true->G):G:=Bool.rec (motive:=λx=>(x&&b)=true->(x=true->b=true->G)->G) (λh _=>nf h) (λh k=>k rfl h) a h k
theorem Zd2{a b c:Bool}{G:Prop}(h:(a&&b&&c)=true)(k:a=true->b=true->c=true->G):G:=Zbg h λh z=>Zbg h λx y=>k x y z
theorem Zi6{a b c d:Bool}{G:Prop}(h:(a&&b&&c&&d)=true)(k:a=true->b=true->c=true->d=true->G):G:=Zbg h λh z=>Zd2 h λx y w=>k x y w z
theorem Zm2{a b c d e:Bool}{G:Prop}(h:(a&&b&&c&&d&&e)=true)(k:a=true->b=true->c=true->d=true->e=true->G):G:=Zbg h λh z=>Zi6 h λx y w v=>k x y w v z
theorem Zux{a b c d e f:Bool}{G:Prop}(h:(a&&b&&c&&d&&e&&f)=true)(k:a=true->b=true->c=true->d=true->e=true->f=true->G):G:=Zbg h λh z=>Zm2 h λx y w v u=>k x y w v u z
theorem ZuH{a b c d e f g:Bool}{G:Prop}(h:(a&&b&&c&&d&&e&&f&&g)=true)(k:a=true->b=true->c=true->d=true->e=true->f=true->g=true->G):G:=Zbg h λh z=>Zux h λx y w v u s=>k x y w v u s z
theorem Zvv{a b c d e f g i:Bool}{G:Prop}(h:(a&&b&&c&&d&&e&&f&&g&&i)=true)(k:a=true->b=true->c=true->d=true->e=true->f=true->g=true->i=true->G):G:=Zbg h λh z=>ZuH h λx y w v u s r=>k x y w v u s r z
theorem Zu1{a b c d e f g i j:Bool}{G:Prop}(h:(a&&b&&c&&d&&e&&f&&g&&i&&j)=true)(k:a=true->b=true->c=true->d=true->e=true->f=true->g=true->i=true->j=true->G):G:=Zbg h λh z=>Zvv h λx y w v u s r q=>k x y w v u s r q z
theorem Zbu{a b:Bool}(h:(a&&b)=true):a=true:=Zbg h λx _=>x
theorem Za6{a b:Bool}(h:(a&&b)=true):b=true:=Zbg h λ_ y=>y
theorem or2{a b:Bool}{G:Prop}(h:(a||b)=true)(k:a=true->G)(l:b=true->G):G:=(Bool.or_eq_true_iff.mp h).elim k l
theorem ZfK{a:Bool}(h:(!a)=true):a=false:=by
 cases a with
 | true=>cases h
 | false=>rfl
theorem Zac{α β:Type}{a:Option α}{f:α->Option β}{b:β}{G:Prop}(h:a.bind f=some b)(k:∀x,a=some x->f x=some b->G):G:=by
 cases a with
 | none=>exact nn h
 | some x=>exact k x rfl h
@[elab_as_elim] theorem Zds{α β:Type}{a:Option α}{f:α->β}{b:β}{G:β->Prop}(h:a.map f=some b)(k:∀x,a=some x->G (f x)):G b:=by
 cases a with
 | none=>exact nn h
 | some x=>exact Option.some.inj h▸k x rfl
theorem ZdW{α β:Type}{a:Option α}{f:α->β}{b:β}{G:Prop}(h:a.map f=some b)(k:∀x,a=some x->f x=b->G):G:=by
 cases a with
 | none=>exact nn h
 | some x=>exact k x rfl (Option.some.inj h)
theorem Zag{α β:Type}{a:Option α}{f:α->Option β}{x:α}{r:Option β}(h:a=some x)(k:f x=r):a.bind f=r:=h▸k
theorem ZgR{α β:Type}{a:Option α}{f:α->β}{x:α}{r:Option β}(h:a=some x)(k:some (f x)=r):a.map f=r:=h▸k
theorem ifS{c:Prop}[Decidable c]{α:Type}{a:Option α}{x:α}{G:Prop}(h:(if c then a else none)=some x)(k:c->a=some x->G):G:=by
 by_cases q:c
 ·exact k q ((if_pos q).symm.trans h)
 ·exact nn ((if_neg q).symm.trans h)
@[elab_as_elim] theorem eqb{α:Type}[BEq α][LawfulBEq α]{a b:α}{G:α->Prop}(h:(a==b)=true)(k:G b):G a:=eq_of_beq h▸k
@[elab_as_elim] theorem eqs{α:Type}{a b:α}{G:α->Prop}(h:some a=some b)(k:G a):G b:=Option.some.inj h▸k
theorem Zbv{c:Prop}[Decidable c]{f:c->Bool}{G:Prop}(h:(if h:c then f h else false)=true)(k:∀h,f h=true->G):G:=by
 by_cases q:c
 ·exact k q ((dif_pos q).symm.trans h)
 ·exact nf ((dif_neg q).symm.trans h)
noncomputable def Zm0(h:Heap)(a:Addr)(items:Array Value):Prop:=∃n,h.get? a=some { cls:=.type "tuple",data:=.seq items n }
theorem Zm0.isTuple{h:Heap}{a:Addr}{items:Array Value}(x:Zm0 h a items):h.IsTuple a items:=let ⟨n,e⟩:=x;⟨_,e,rfl,n,rfl⟩
inductive D where
 | none
 | bool (b:Bool)
 | int (i:Int)
 | str (l:List Nat)
 | tuple (l:List D)
 | list (l:List D)
 | obj (a:Addr)
 deriving Inhabited
noncomputable def NT(o:Obj):Prop:=∀ps,o≠tabObj ps
theorem NT.ZaD{o:Obj}{T:String}(h:o.cls=.type T):NT o:=λps e=>by rw[e] at h;cases h
theorem NT.Zeo{o:Obj}{es:Array DictEntry}{ep:Nat}(h:o.data=.dict es ep):NT o:=λps e=>by rw[e] at h;cases h
theorem NT.ZgP{o:Obj}{v:Option Value}(h:o.data=.cell v):NT o:=λps e=>by rw[e] at h;cases h
mutual
inductive Rd (P:Addr->Prop) (h:Heap):Value->D->Prop
 | none:Rd P h .none .none
 | bool (b:Bool):Rd P h (.bool b) (.bool b)
 | int (i:Int) (t:Tok):Rd P h (.int i t) (.int i)
 | str (l:List Nat) (t:Tok):l.length<=sizeLine->Rd P h (.str ⟨l.toArray⟩ t) (.str l)
 | tuple {a:Addr} {vs:List Value} {ds:List D}:P a->Zm0 h a vs.toArray->Zad P h vs ds->ds.length<=sizeLine->Rd P h (.ref a) (.tuple ds)
 | list {a:Addr} {vs:List Value} {ds:List D}:P a->h.PlainList a vs.toArray->Zad P h vs ds->ds.length<=sizeLine->Rd P h (.ref a) (.list ds)
 | obj {a:Addr} {o:Obj}:P a->h.get? a=some o->NT o->Rd P h (.ref a) (.obj a)
inductive Zad (P:Addr->Prop) (h:Heap):List Value->List D->Prop
 | nil:Zad P h [] []
 | cons {v:Value} {vs:List Value} {d:D} {ds:List D}:Rd P h v d->Zad P h vs ds->Zad P h (v::vs) (d::ds)
end
section
variable {P P':Addr->Prop}{h h':Heap}
theorem Rd.mono(hP:∀a o,NT o->h.get? a=some o->P a->P' a∧h'.get? a=some o){v:Value}{d:D}(r:Rd P h v d):Rd P' h' v d:=by
 refine Rd.rec (motive_1:=λv d _=>Rd P' h' v d) (motive_2:=λvs ds _=>Zad P' h' vs ds) .none .bool .int .str ?_ ?_ ?_ .nil ?_ r
 ·intro a vs ds p e _ l ih
  obtain⟨n,e⟩:=e
  have:=hP _ _ (.ZaD rfl) e p
  exact .tuple this.1 ⟨n,this.2⟩ ih l
 ·intro a vs ds p e _ l ih
  obtain⟨n,e⟩:=e
  have:=hP _ _ (.ZaD rfl) e p
  exact .list this.1 ⟨n,this.2⟩ ih l
 ·intro a o p e n;exact .obj (hP _ _ n e p).1 (hP _ _ n e p).2 n
 ·intro v vs d ds _ _ i1 i2;exact .cons i1 i2
theorem Zad.ind{m:List Value->List D->Prop}(hn:m [] [])(hc:∀v vs d ds,Rd P h v d->Zad P h vs ds->m vs ds->m (v::vs) (d::ds)){vs:List Value}{ds:List D}(r:Zad P h vs ds):m vs ds:=
 Zad.rec (motive_1:=λ_ _ _=>True) (motive_2:=λvs ds _=>m vs ds) trivial (λ_=>trivial) (λ_ _=>trivial) (λ_ _ _=>trivial) (λ_ _ _ _ _=>trivial) (λ_ _ _ _ _=>trivial) (λ_ _ _=>trivial) hn (λa b _ i=>hc _ _ _ _ a b i) r
theorem Zad.mono(hP:∀a o,NT o->h.get? a=some o->P a->P' a∧h'.get? a=some o){vs:List Value}{ds:List D}(r:Zad P h vs ds):Zad P' h' vs ds:=
 r.ind .nil λ_ _ _ _ a _ i=>.cons (a.mono hP) i
theorem Zad.length{vs:List Value}{ds:List D}(r:Zad P h vs ds):vs.length=ds.length:=r.ind (m:=λvs ds=>vs.length=ds.length) rfl λ_ _ _ _ _ _ i=>congrArg Nat.succ i
theorem Zad.get{vs:List Value}{ds:List D}(r:Zad P h vs ds):∀{i:Nat} {d:D},ds[i]? = some d->∃v,vs[i]? = some v∧Rd P h v d:=
 r.ind (m:=λvs ds=>∀{i:Nat} {d:D},ds[i]? = some d->∃v,vs[i]? = some v∧Rd P h v d) (λe=>nn e) λv _ _ _ a _ ih i _ e=>match i with
  | 0=>⟨v,rfl,Option.some.inj e▸a⟩
  | _+1=>ih e
theorem Zad.Zu5{vs:List Value}{ds:List D}(r:Zad P h vs ds):∀{i:Nat} {v:Value},vs[i]? = some v->∃d,ds[i]? = some d∧Rd P h v d:=
 r.ind (m:=λvs ds=>∀{i:Nat} {v:Value},vs[i]? = some v->∃d,ds[i]? = some d∧Rd P h v d) (λe=>nn e) λ_ _ d _ a _ ih i _ e=>match i with
  | 0=>⟨d,rfl,Option.some.inj e▸a⟩
  | _+1=>ih e
theorem Zad.append{vs vs':List Value}{ds ds':List D}(r:Zad P h vs ds)(q:Zad P h vs' ds'):Zad P h (vs++vs') (ds++ds'):=r.ind (m:=λvs ds=>Zad P h (vs++vs') (ds++ds')) q λ_ _ _ _ a _ i=>.cons a i
theorem Zad.take{vs:List Value}{ds:List D}(r:Zad P h vs ds):∀k:Nat,Zad P h (vs.take k) (ds.take k):=
 r.ind (m:=λvs ds=>∀k:Nat,Zad P h (vs.take k) (ds.take k)) (λk=>match k with | 0=>.nil | _+1=>.nil) λ_ _ _ _ a _ i k=>match k with
  | 0=>.nil
  | k+1=>.cons a (i k)
theorem Zad.drop{vs:List Value}{ds:List D}(r:Zad P h vs ds):∀k:Nat,Zad P h (vs.drop k) (ds.drop k):=
 r.ind (m:=λvs ds=>∀k:Nat,Zad P h (vs.drop k) (ds.drop k)) (λk=>match k with | 0=>.nil | _+1=>.nil) λ_ _ _ _ a b i k=>match k with
  | 0=>.cons a b
  | k+1=>i k
theorem Zad.snoc{vs:List Value}{ds:List D}{v:Value}{d:D}(r:Zad P h vs ds)(x:Rd P h v d):Zad P h (vs++[v]) (ds++[d]):=r.append (.cons x .nil)
theorem Zad.set{vs:List Value}{ds:List D}(r:Zad P h vs ds)(i:Nat){v:Value}{d:D}(x:Rd P h v d):Zad P h (vs.set i v) (ds.set i d):=
 r.ind (m:=λvs ds=>∀i,Zad P h (vs.set i v) (ds.set i d)) (λ_=>.nil) (λ_ _ _ _ a b ih i=>match i with
  | 0=>.cons x b
  | i+1=>.cons a (ih i)) i
theorem Zad.eraseIdx{vs:List Value}{ds:List D}(r:Zad P h vs ds):∀(i:Nat),Zad P h (vs.eraseIdx i) (ds.eraseIdx i):=
 r.ind (m:=λvs ds=>∀i,Zad P h (vs.eraseIdx i) (ds.eraseIdx i)) (λ_=>.nil) λ_ _ _ _ a b ih i=>match i with
  | 0=>b
  | i+1=>.cons a (ih i)
theorem Zad.replicate{v:Value}{d:D}(x:Rd P h v d):∀n:Nat,Zad P h (List.replicate n v) (List.replicate n d)
 | 0=>.nil
 | n+1=>.cons x (Zad.replicate x n)
noncomputable def Rd.View(P:Addr->Prop)(h:Heap)(v:Value):D->Prop
 | .none=>v=.none
 | .bool b=>v=.bool b
 | .int i=>∃t,v=.int i t
 | .str l=>l.length<=sizeLine∧∃t,v=.str ⟨l.toArray⟩ t
 | .tuple ds=>∃a vs,v=.ref a∧P a∧Zm0 h a vs.toArray∧Zad P h vs ds∧ds.length<=sizeLine
 | .list ds=>∃a vs,v=.ref a∧P a∧h.PlainList a vs.toArray∧Zad P h vs ds∧ds.length<=sizeLine
 | .obj a=>v=.ref a
theorem Rd.view{v:Value}{d:D}(r:Rd P h v d):Rd.View P h v d:=by
 cases r with
 | none=>exact rfl
 | bool=>exact rfl
 | int _ t=>exact⟨t,rfl⟩
 | str _ t l=>exact⟨l,t,rfl⟩
 | tuple p e r l=>exact⟨_,_,rfl,p,e,r,l⟩
 | list p e r l=>exact⟨_,_,rfl,p,e,r,l⟩
 | obj=>exact rfl
theorem Rd.Zbq{v:Value}{ds:List D}(r:Rd P h v (.list ds)):∃a vs,v=.ref a∧P a∧h.PlainList a vs.toArray∧Zad P h vs ds∧ds.length<=sizeLine:=r.view
theorem Rd.Zh1{v:Value}{ds:List D}(r:Rd P h v (.tuple ds)):∃a vs,v=.ref a∧P a∧Zm0 h a vs.toArray∧Zad P h vs ds∧ds.length<=sizeLine:=r.view
theorem Rd.str_inv{v:Value}{l:List Nat}(r:Rd P h v (.str l)):l.length<=sizeLine∧∃t,v=.str ⟨l.toArray⟩ t:=r.view
theorem Rd.int_inv{v:Value}{i:Int}(r:Rd P h v (.int i)):∃t,v=.int i t:=r.view
theorem Rd.bool_inv{v:Value}{b:Bool}(r:Rd P h v (.bool b)):v=.bool b:=r.view
theorem Rd.ZiX{v:Value}{a:Addr}(r:Rd P h v (.obj a)):v=.ref a:=r.view
theorem Rd.none_inv{v:Value}(r:Rd P h v .none):v=.none:=r.view
@[elab_as_elim] theorem Rd.Za0{v:Value}{i:Int}{G:Value->Prop}(r:Rd P h v (.int i))(k:∀t,G (.int i t)):G v:=let ⟨t,e⟩:=r.int_inv;e▸k t
@[elab_as_elim] theorem Rd.Zba{v:Value}{l:List Nat}{G:Value->Prop}(r:Rd P h v (.str l))(k:∀t,l.length<=sizeLine->G (.str ⟨l.toArray⟩ t)):G v:=let ⟨x,t,e⟩:=r.str_inv;e▸k t x
@[elab_as_elim] theorem Rd.ZbL{v:Value}{ds:List D}{G:Value->Prop}(r:Rd P h v (.list ds))(k:∀a vs,P a->h.PlainList a vs.toArray->Zad P h vs ds->ds.length<=sizeLine->G (.ref a)):G v:=let ⟨a,vs,e,p,x,y,z⟩:=r.Zbq;e▸k a vs p x y z
@[elab_as_elim] theorem Rd.Zc1{v:Value}{ds:List D}{G:Value->Prop}(r:Rd P h v (.tuple ds))(k:∀a vs,P a->Zm0 h a vs.toArray->Zad P h vs ds->ds.length<=sizeLine->G (.ref a)):G v:=let ⟨a,vs,e,p,x,y,z⟩:=r.Zh1;e▸k a vs p x y z
noncomputable def Zad.View(P:Addr->Prop)(h:Heap)(vs:List Value):List D->Prop
 | []=>vs=[]
 | d::ds=>∃v r,vs=v::r∧Rd P h v d∧Zad P h r ds
theorem Zad.view{vs:List Value}{ds:List D}(r:Zad P h vs ds):Zad.View P h vs ds:=r.ind (m:=Zad.View P h) rfl λv vs _ _ a b _=>⟨v,vs,rfl,a,b⟩
theorem Zad.nil_inv{vs:List Value}(r:Zad P h vs []):vs=[]:=r.view
theorem Zad.cons_inv{vs:List Value}{d:D}{ds:List D}(r:Zad P h vs (d::ds)):∃v r,vs=v::r∧Rd P h v d∧Zad P h r ds:=r.view
@[elab_as_elim] theorem Zad.Zd0{vs:List Value}{d:D}{ds:List D}{G:List Value->Prop}(r:Zad P h vs (d::ds))(k:∀v r,Rd P h v d->Zad P h r ds->G (v::r)):G vs:=let ⟨v,r,e,a,b⟩:=r.cons_inv;e▸k v r a b
end
inductive Rd0 (P:Addr->Prop) (h:Heap):Value->D->Prop
 | of {v:Value} {d:D}:Rd P h v d->Rd0 P h v d
 | own {a:Addr} {vs:List Value} {ds:List D}:h.PlainList a vs.toArray->Zad P h vs ds->ds.length<=sizeLine->Rd0 P h (.ref a) (.list ds)
section
variable {P P':Addr->Prop}{h h':Heap}{v:Value}
noncomputable def Rd0.View(P:Addr->Prop)(h:Heap)(v:Value)(d:D):Prop:=match d with
 | .list ds=>∃a vs,v=.ref a∧h.PlainList a vs.toArray∧Zad P h vs ds∧ds.length<=sizeLine
 | d=>Rd P h v d
theorem Rd0.view{d:D}(r:Rd0 P h v d):Rd0.View P h v d:=by
 cases r with
 | of r=>
  cases d with
  | list=>obtain⟨a,vs,e,_,x⟩:=r.Zbq;exact⟨a,vs,e,x⟩
  | _=>exact r
 | own e r l=>exact⟨_,_,rfl,e,r,l⟩
theorem Rd0.Zbq{ds:List D}(r:Rd0 P h v (.list ds)):∃a vs,v=.ref a∧h.PlainList a vs.toArray∧Zad P h vs ds∧ds.length<=sizeLine:=r.view
theorem Rd0.str{l:List Nat}(r:Rd0 P h v (.str l)):Rd P h v (.str l):=r.view
theorem Rd0.int{i:Int}(r:Rd0 P h v (.int i)):Rd P h v (.int i):=r.view
theorem Rd0.str_inv{l:List Nat}(r:Rd0 P h v (.str l)):l.length<=sizeLine∧∃t,v=.str ⟨l.toArray⟩ t:=r.str.view
theorem Rd0.int_inv{i:Int}(r:Rd0 P h v (.int i)):∃t,v=.int i t:=r.int.view
theorem Rd0.bool{b:Bool}(r:Rd0 P h v (.bool b)):Rd P h v (.bool b):=r.view
theorem Rd0.bool_inv{b:Bool}(r:Rd0 P h v (.bool b)):v=.bool b:=r.bool.view
theorem Rd0.ZiX{a:Addr}(r:Rd0 P h v (.obj a)):v=.ref a:=Rd.view (show Rd P h v (.obj a) from r.view)
theorem Rd0.none_inv(r:Rd0 P h v .none):v=.none:=Rd.view (show Rd P h v .none from r.view)
theorem Rd0.tup{ds:List D}(r:Rd0 P h v (.tuple ds)):Rd P h v (.tuple ds):=r.view
theorem Rd0.Zh1{ds:List D}(r:Rd0 P h v (.tuple ds)):∃a vs,v=.ref a∧P a∧Zm0 h a vs.toArray∧Zad P h vs ds∧ds.length<=sizeLine:=r.tup.view
@[elab_as_elim] theorem Rd0.Za0{i:Int}{G:Value->Prop}(r:Rd0 P h v (.int i))(k:∀t,G (.int i t)):G v:=r.int.Za0 k
@[elab_as_elim] theorem Rd0.Zba{l:List Nat}{G:Value->Prop}(r:Rd0 P h v (.str l))(k:∀t,l.length<=sizeLine->G (.str ⟨l.toArray⟩ t)):G v:=r.str.Zba k
@[elab_as_elim] theorem Rd0.ZbL{ds:List D}{G:Value->Prop}(r:Rd0 P h v (.list ds))(k:∀a vs,h.PlainList a vs.toArray->Zad P h vs ds->ds.length<=sizeLine->G (.ref a)):G v:=let ⟨a,vs,e,x,y,z⟩:=r.Zbq;e▸k a vs x y z
@[elab_as_elim] theorem Rd0.Zc1{ds:List D}{G:Value->Prop}(r:Rd0 P h v (.tuple ds))(k:∀a vs,P a->Zm0 h a vs.toArray->Zad P h vs ds->ds.length<=sizeLine->G (.ref a)):G v:=r.tup.Zc1 k
@[elab_as_elim] theorem Rd0.ZmX{b:Bool}{G:Value->Prop}(r:Rd0 P h v (.bool b))(k:G (.bool b)):G v:=r.bool_inv▸k
@[elab_as_elim] theorem Rd0.ZkC{a:Addr}{G:Value->Prop}(r:Rd0 P h v (.obj a))(k:G (.ref a)):G v:=r.ZiX▸k
theorem Rd0.mono(hP:∀a o,NT o->h.get? a=some o->P a->P' a∧h'.get? a=some o)(hk:∀a o,NT o->h.get? a=some o->h'.get? a=some o){d:D}(r:Rd0 P h v d):Rd0 P' h' v d:=by
 cases r with
 | of r=>exact .of (r.mono hP)
 | own e r l=>
  obtain⟨n,e⟩:=e
  exact .own ⟨n,hk _ _ (.ZaD rfl) e⟩ (r.mono hP) l
end
noncomputable def Kp(h h':Heap):Prop:=∀b o,NT o->h.get? b=some o->h'.get? b=some o
theorem Kp.refl(h:Heap):Kp h h:=λ_ _ _ e=>e
theorem Kp.trans{a b c:Heap}(x:Kp a b)(y:Kp b c):Kp a c:=λi o n e=>y i o n (x i o n e)
theorem Kp.of{h h':Heap}(k:∀b o,h.get? b=some o->h'.get? b=some o):Kp h h':=λb o _ e=>k b o e
theorem Kp.push(h:Heap)(o:Obj):Kp h (h.push o):=.of λ_ _ e=>Heap.get?_push_of_some _ e
theorem Kp.new{h h':Heap}{a:Addr}(n:h.get? a=none)(hs:Heap.ExtBut a h h'):Kp h h':=λb o _ e=>hs b o (λq=>by rw[q,n] at e;cases e) e
theorem Zau(h:Heap):h.get? h.objs.size=none:=by
 cases e:h.get? h.objs.size with
 | none=>rfl
 | some o=>exact absurd (Heap.lt_size e) (Nat.lt_irrefl _)
noncomputable abbrev Gw(s s':Shared):Prop:=(Kp s.heap s'.heap)∧(∀b o,s.heap.get? b=some o->∃o',s'.heap.get? b=some o')∧(s'.os=s.os)∧(AllBare s.gens->AllBare s'.gens)
theorem Gw.kp{s s':Shared}(slf:Gw s s'):Kp s.heap s'.heap:=slf.1
theorem Gw.ex{s s':Shared}(slf:Gw s s'):∀b o,s.heap.get? b=some o->∃o',s'.heap.get? b=some o':=slf.2.1
theorem Gw.os{s s':Shared}(slf:Gw s s'):s'.os=s.os:=slf.2.2.1
theorem Gw.gens{s s':Shared}(slf:Gw s s'):AllBare s.gens->AllBare s'.gens:=slf.2.2.2
theorem Gw.refl(s:Shared):Gw s s:=⟨.refl _,λ_ o e=>⟨o,e⟩,rfl,id⟩
theorem Gw.trans{a b c:Shared}(x:Gw a b)(y:Gw b c):Gw a c:=⟨x.kp.trans y.kp,λi o e=>let ⟨o',e'⟩:=x.ex i o e;y.ex i o' e',y.os.trans x.os,λg=>y.gens (x.gens g)⟩
theorem Gw.of_keep{s:Shared}{h':Heap}{tk:Tok}(k:∀b o,s.heap.get? b=some o->h'.get? b=some o):Gw s { s with heap:=h',toks:=tk }:=⟨.of k,λb o e=>⟨o,k b o e⟩,rfl,id⟩
theorem Gw.tok(s:Shared)(tk:Tok):Gw s { s with toks:=tk }:=.of_keep λ_ _ e=>e
theorem Gw.none{s s':Shared}(x:Gw s s'){b:Addr}(e:s'.heap.get? b=none):s.heap.get? b=none:=by
 cases q:s.heap.get? b with
 | none=>rfl
 | some o=>obtain⟨o',e'⟩:=x.ex b o q;rw[e] at e';cases e'
noncomputable def Pf(P:Addr->Prop)(h:Heap):Prop:=∀a,¬P a->∃o,NT o∧h.get? a=some o
theorem Pf.kp{P:Addr->Prop}{h h':Heap}(x:Pf P h)(k:Kp h h'):Pf P h':=λa n=>let ⟨o,no,e⟩:=x a n;⟨o,no,k _ _ no e⟩
theorem Pf.fresh{P:Addr->Prop}{h:Heap}(x:Pf P h){a:Addr}(e:h.get? a=none):P a:=Classical.byContradiction λn=>by
 obtain⟨o,_,e'⟩:=x a n;rw[e] at e';cases e'
theorem Rd.kp{P:Addr->Prop}{h h':Heap}{v:Value}{d:D}(r:Rd P h v d)(k:Kp h h'):Rd P h' v d:=r.mono λa o n e p=>⟨p,k a o n e⟩
theorem Zad.kp{P:Addr->Prop}{h h':Heap}{vs:List Value}{ds:List D}(r:Zad P h vs ds)(k:Kp h h'):Zad P h' vs ds:=r.mono λa o n e p=>⟨p,k a o n e⟩
theorem Rd0.kp{P:Addr->Prop}{h h':Heap}{v:Value}{d:D}(r:Rd0 P h v d)(k:Kp h h'):Rd0 P h' v d:=r.mono (λa o n e p=>⟨p,k a o n e⟩) λa o n e=>k a o n e
theorem Zj1{h h':Heap}{a:Addr}{m:Str->Option Value}(x:h.Ns a m)(k:Kp h h'):h'.Ns a m:=
 let ⟨o,es,ep,e,hd,r⟩:=x;⟨o,es,ep,k _ _ (.Zeo hd) e,hd,r⟩
theorem ZiD{h h':Heap}{a:Addr}{v:Option Value}(x:h.IsCell a v)(k:Kp h h'):h'.IsCell a v:=
 let ⟨o,e,hd⟩:=x;⟨o,k _ _ (.ZgP hd) e,hd⟩
theorem ZpK{h h':Heap}{a:Addr}{its:Array Value}(x:h.IsList a its)(k:Kp h h'):h'.IsList a its:=
 let ⟨o,e,hc,r⟩:=x;⟨o,k _ _ (.ZaD hc) e,hc,r⟩
theorem ZnV{h h':Heap}{a:Addr}{its:Array Value}(x:Zm0 h a its)(k:Kp h h'):Zm0 h' a its:=
 let ⟨n,e⟩:=x;⟨n,k _ _ (.ZaD rfl) e⟩
theorem Zbo{h h':Heap}{a:Addr}{its:Array Value}(x:h.PlainList a its)(k:Kp h h'):h'.PlainList a its:=
 let ⟨n,e⟩:=x;⟨n,k _ _ (.ZaD rfl) e⟩
end
section
set_option backward.match.sparseCases false
inductive Bop | add | sub | mul | fdiv | mod | pow
 deriving DecidableEq
noncomputable def Bop.op:Bop->Operator
 | .add=>.Add | .sub=>.Sub | .mul=>.Mult | .fdiv=>.FloorDiv | .mod=>.Mod | .pow=>.Pow
inductive Cop | eq | ne | lt | le | gt | ge | isin | notin | is_ | isnt
 deriving DecidableEq
noncomputable def Cop.op:Cop->CmpOp
 | .eq=>.Eq | .ne=>.NotEq | .lt=>.Lt | .le=>.LtE | .gt=>.Gt | .ge=>.GtE | .isin=>.In | .notin=>.NotIn | .is_=>.Is | .isnt=>.IsNot
inductive Bfn | len | chr | sum | list
 deriving DecidableEq
noncomputable def Bfn.name:Bfn->Str
 | .len => "len" | .chr => "chr" | .sum => "sum" | .list => "list"
set_option genSizeOf false in
set_option genSizeOfSpec false in
set_option genInjectivity false in
set_option genCtorIdx false in
inductive X where
 | const (d:D)
 | var (i:Nat)
 | tvar (i:Nat)
 | bin (op:Bop) (l r:X)
 | cmp (op:Cop) (l r:X)
 | cmp2 (o1 o2:Cop) (a b c:X)
 | band (xs:X)
 | bor (xs:X)
 | not (x:X)
 | ite (t a b:X)
 | bfn (b:Bfn) (x:X)
 | range1 (a:X)
 | range2 (a b:X)
 | range3 (a b c:X)
 | call (f:Nat) (xs:X)
 | nil
 | cons (x xs:X)
 | find2 (b y a:X)
 | find3 (b y a c:X)
 | repl (b:X) (y z:Nat) (zs:List Nat)
 | join (s x:X)
 | joing (s:X) (t:Nat) (e it:X)
 | transl (b:X)
 | resub (b:X)
 | idx (a b:X)
 | slc (a lo hi:X)
 | list (xs:X)
 | tuple (xs:X)
 | comp (fr:List Nat) (t:Nat) (e it c:X)
 | compu (fr:List Nat) (t u:Nat) (e it:X)
 | fstr (a:List Nat) (x:X) (b:List Nat)
 | newobj
 | tval (x:X)
 | tcmp (op:Cop) (l r:X)
 | tnot (x:X)
 | tand (xs:X)
 | tor (xs:X)
noncomputable def X.fz:X->Bool
 | .tvar _=>false
 | _=>true
section
variable {β:Type}
noncomputable def Zd4(f:List Nat->Option β):D->Option β
 | .str l=>f l
 | _=>none
noncomputable def intD(f:Int->Option β):D->Option β
 | .int l=>f l
 | _=>none
noncomputable def Zkv(f:Bool->Option β):D->Option β
 | .bool l=>f l
 | _=>none
noncomputable def ZdR(f:List D->Option β):D->Option β
 | .list l=>f l
 | _=>none
noncomputable def Zrx(f:List D->Option β):D->Option β
 | .tuple l=>f l
 | _=>none
noncomputable def Zso(f:Addr->Option β):D->Option β
 | .obj l=>f l
 | _=>none
noncomputable def one{α:Type}(f:α->Option β):List α->Option β
 | [c]=>f c
 | _=>none
noncomputable def two{α:Type}(f:α->α->Option β):List α->Option β
 | [a,b]=>f a b
 | _=>none
variable {d:D}{x:β}{G:D->Prop}
@[elab_as_elim] theorem ZbG{f:List Nat->Option β}(h:Zd4 f d=some x)(k:∀l,f l=some x->G (.str l)):G d:=by cases d<;>first | exact k _ h | exact nn h
@[elab_as_elim] theorem Za3{f:Int->Option β}(h:intD f d=some x)(k:∀l,f l=some x->G (.int l)):G d:=by cases d<;>first | exact k _ h | exact nn h
@[elab_as_elim] theorem ZmC{f:Bool->Option β}(h:Zkv f d=some x)(k:∀l,f l=some x->G (.bool l)):G d:=by cases d<;>first | exact k _ h | exact nn h
@[elab_as_elim] theorem Zdr{f:List D->Option β}(h:ZdR f d=some x)(k:∀l,f l=some x->G (.list l)):G d:=by cases d<;>first | exact k _ h | exact nn h
@[elab_as_elim] theorem Zph{f:List D->Option β}(h:Zrx f d=some x)(k:∀l,f l=some x->G (.tuple l)):G d:=by cases d<;>first | exact k _ h | exact nn h
@[elab_as_elim] theorem Zpg{f:Addr->Option β}(h:Zso f d=some x)(k:∀l,f l=some x->G (.obj l)):G d:=by cases d<;>first | exact k _ h | exact nn h
@[elab_as_elim] theorem ZnW{α:Type}{f:α->Option β}{l:List α}{G:List α->Prop}(h:one f l=some x)(k:∀c,f c=some x->G [c]):G l:=by
 cases l with
 | nil=>exact nn h
 | cons a l=>
  cases l with
  | nil=>exact k _ h
  | cons=>exact nn h
@[elab_as_elim] theorem ZuT{α:Type}{f:α->α->Option β}{l:List α}{G:List α->Prop}(h:two f l=some x)(k:∀a b,f a b=some x->G [a,b]):G l:=by
 cases l with
 | nil=>exact nn h
 | cons a l=>
  cases l with
  | nil=>exact nn h
  | cons b l=>
   cases l with
   | nil=>exact k _ _ h
   | cons=>exact nn h
end
noncomputable def okS(l:List Nat):Option D:=if l.length<=16777216 then some (.str l) else none
noncomputable def okL(l:List D):Option D:=if l.length<=16777216 then some (.list l) else none
noncomputable def Zdy(n:Nat)(i:Int):Nat:=if i < 0 then(i+n).toNat else min i.toNat n
noncomputable def slice{α:Type}(l:List α)(lo hi:Option Int):List α:=
 (l.take ((hi.map (Zdy l.length)).getD l.length)).drop ((lo.map (Zdy l.length)).getD 0)
noncomputable def idxOf(n:Nat)(i:Int):Option Nat:=if 0<=i then(if i < n then some i.toNat else none) else(if 0<=i+n then some (i+n).toNat else none)
noncomputable def ZeD(c:Nat)(l:List Nat)(lo hi:Nat):Int:=
 match ((List.range' lo (hi - lo)).find? λi=>l[i]?==some c) with
 | some i=>(i:Int)
 | none=>-1
noncomputable def Zbd(c:Nat)(z:List Nat)(l:List Nat):List Nat:=l.flatMap λx=>if x=c then z else [x]
noncomputable def strs? : List D->Option (List (List Nat))
 | []=>some []
 | d::r=>Zd4 (λl=>(strs? r).map (l::·)) d
theorem str1(d:D)(r:List D):strs? (d::r)=Zd4 (λl=>(strs? r).map (l::·)) d:=rfl
noncomputable def ZbT(sep:List Nat):List (List Nat)->List Nat
 | []=>[]
 | [x]=>x
 | x::y::r=>x++sep++ZbT sep (y::r)
theorem ZkL(sep:List Nat):ZbT sep []=[]:=rfl
theorem ZmH(sep x:List Nat):ZbT sep [x]=x:=rfl
theorem Zid(sep x y:List Nat)(r:List (List Nat)):ZbT sep (x::y::r)=x++sep++ZbT sep (y::r):=rfl
noncomputable def ZdE : List D->Option (List Bool)
 | []=>some []
 | d::r=>Zkv (λb=>(ZdE r).map (b::·)) d
theorem ZvP(d:D)(r:List D):ZdE (d::r)=Zkv (λl=>(ZdE r).map (l::·)) d:=rfl
noncomputable def ZhP : List D->Option (List Int)
 | []=>some []
 | d::r=>intD (λb=>(ZhP r).map (b::·)) d
theorem ZvD(d:D)(r:List D):ZhP (d::r)=intD (λl=>(ZhP r).map (l::·)) d:=rfl
noncomputable def ltL:List Nat->List Nat->Bool
 | [],[]=>false
 | [],_::_=>true
 | _::_,[]=>false
 | a::r,b::q=>if a < b then true else if a=b then ltL r q else false
theorem ZtW:ltL [] []=false:=rfl
theorem Zt0(a:Nat)(r:List Nat):ltL [] (a::r)=true:=rfl
theorem ZuY(a:Nat)(r:List Nat):ltL (a::r) []=false:=rfl
theorem ZvY(a b:Nat)(r q:List Nat):ltL (a::r) (b::q)=if a < b then true else if a=b then ltL r q else false:=rfl
noncomputable def Zvm(a b:D):Option D:=match a with
 | .int a=>intD (λb=>some (.int (a+b))) b
 | .str a=>Zd4 (λb=>okS (a++b)) b
 | .list a=>ZdR (λb=>okL (a++b)) b
 | _=>none
noncomputable def bop:Bop->D->D->Option D
 | .add,a,b=>Zvm a b
 | .sub,a,b=>intD (λa=>intD (λb=>some (.int (a - b))) b) a
 | .fdiv,a,b=>intD (λa=>intD (λb=>if 0 < b∧b < 1000000000 then some (.int (a / b)) else none) b) a
 | .mod,a,b=>intD (λa=>intD (λb=>if 0 < b then some (.int (a % b)) else none) b) a
 | .pow,a,b=>intD (λa=>intD (λb=>if 0<=b∧b<=64∧0<=a∧a < 65536 then some (.int (a ^ b.toNat)) else none) b) a
 | .mul,a,b=>ZdR (one λx=>intD (λn=>if 0<=n∧n<=16777216 then okL (List.replicate n.toNat x) else none) b) a
noncomputable def Zew : List D->Option (List (List (List Nat)))
 | []=>some []
 | d::r=>ZdR (λl=>(strs? l).bind λx=>(Zew r).map (x::·)) d
noncomputable def Zum(x y:List D):Option Bool:=if y.isEmpty then some x.isEmpty else(Zew x).bind λu=>(Zew y).bind λv=>some (u==v)
noncomputable def eqD(a b:D):Option Bool:=match a with
 | .int a=>intD (λb=>some (a==b)) b
 | .str a=>Zd4 (λb=>some (a==b)) b
 | .bool a=>Zkv (λb=>some (a==b)) b
 | .list a=>ZdR (λb=>Zum a b) b
 | _=>none
noncomputable def eqT(a b:D):Option Bool:=match a with
 | .tuple _=>Zd4 (λ_=>some false) b
 | a=>eqD a b
noncomputable def inS(y:List Nat)(b:D):Option Bool:=match b with
 | .str l=>one (λc=>some (l.contains c)) y
 | .list l=>(strs? l).map (·.contains y)
 | .tuple l=>(strs? l).map (·.contains y)
 | _=>none
noncomputable def inD(a b:D):Option Bool:=match a with
 | .str y=>inS y b
 | .bool y=>ZdR (λl=>(ZdE l).map (·.contains y)) b
 | _=>none
noncomputable def isD(a b:D):Option Bool:=match a with
 | .obj a=>Zso (λb=>if a=b then some true else none) b
 | .str _=>Zso (λ_=>some false) b
 | _=>none
noncomputable def Zr2(f:Int->Int->Bool)(g:List Nat->List Nat->Bool)(a b:D):Option Bool:=match a with
 | .int x=>intD (λy=>some (f x y)) b
 | .str x=>Zd4 (λy=>some (g x y)) b
 | _=>none
noncomputable def cop:Cop->D->D->Option Bool
 | .eq,a,b=>eqT a b
 | .ne,a,b=>(eqD a b).map (!·)
 | .lt,a,b=>Zr2 (λa b=>decide (a < b)) (λa b=>ltL a b) a b
 | .le,a,b=>Zr2 (λa b=>decide (a<=b)) (λa b=>!ltL b a) a b
 | .gt,a,b=>Zr2 (λa b=>decide (b < a)) (λa b=>ltL b a) a b
 | .ge,a,b=>Zr2 (λa b=>decide (b<=a)) (λa b=>!ltL a b) a b
 | .isin,a,b=>inD a b
 | .notin,a,b=>(inD a b).map (!·)
 | .is_,a,b=>isD a b
 | .isnt,a,b=>(isD a b).map (!·)
noncomputable def tru:D->Option Bool
 | .none=>some false
 | .bool b=>some b
 | .str l=>some (!l.isEmpty)
 | .list l=>some (!l.isEmpty)
 | _=>none
noncomputable def Zvo:D->Option D
 | .str l=>some (.int l.length)
 | .list l=>some (.int l.length)
 | _=>none
noncomputable def bfn:Bfn->D->Option D
 | .len,a=>Zvo a
 | .chr,a=>intD (λi=>if 0<=i∧i < 1114112 then some (.str [i.toNat]) else none) a
 | .sum,a=>ZdR (λl=>(ZhP l).map λx=>.int x.sum) a
 | .list,a=>Zd4 (λl=>some (.list (l.map λc=>.str [c]))) a
noncomputable def Zcg(a b c:Int):List D:=
 if 0 < c then(List.range ((b - a+c - 1) / c).toNat).map λ(i:Nat)=>D.int (a+(i:Int) * c)
 else(List.range ((a - b - c - 1) / (-c)).toNat).map λ(i:Nat)=>D.int (a+(i:Int) * c)
noncomputable def Zcx(i:Int):Bool:=decide (-1000000<=i∧i<=1000000)
noncomputable def ZdI(i:Int):Bool:=decide (-1000000000<=i∧i<=1000000000)
noncomputable def ZmQ(a b:D):Option D:=match a with
 | .str l=>intD (λi=>if ZdI i then(idxOf l.length i).bind λk=>l[k]?.map λc=>.str [c] else none) b
 | .list l=>intD (λi=>if ZdI i then(idxOf l.length i).bind λk=>l[k]? else none) b
 | .tuple l=>intD (λi=>if ZdI i then(idxOf l.length i).bind λk=>l[k]? else none) b
 | _=>none
noncomputable def ZjO:D->Option (Option Int)
 | .none=>some none
 | .int i=>some (some i)
 | _=>none
noncomputable def ZuK(a lo hi:D):Option D:=
 (ZjO lo).bind λlo=>(ZjO hi).bind λhi=>match a with
  | .str l=>some (.str (slice l lo hi))
  | .list l=>some (.list (slice l lo hi))
  | _=>none
noncomputable def itemsOf:D->Option (List D)
 | .list l=>if l.length<=16777216 then some l else none
 | _=>none
noncomputable def intOf:D->Option Int
 | .int i=>some i
 | _=>none
noncomputable def specials:List Nat:=[40,41,91,93,123,125,63,42,43,45,124,94,36,92,46,38,126,35,32,9,10,13,11,12]
noncomputable def Zff(c:Nat):List Nat:=if c∈specials then [92,c] else [c]
noncomputable def Zel(l:List Nat):List Nat:=l.flatMap λc=>if c=38∨c=126∨c=124 then [92,c] else [c]
inductive Slot where
 | un
 | fz (d:D)
 | own (ds:List D)
 | own2 (dss:List (List D))
 | app (j:Nat)
 | lam
noncomputable abbrev Sg:=List Slot
noncomputable def rd(σ:Sg)(i:Nat):Option D:=match σ[i]? with
 | some (.fz d)=>some d
 | _=>none
noncomputable def rdt(σ:Sg)(i:Nat):Option D:=match σ[i]? with
 | some (.fz d)=>some d
 | some (.own ds)=>some (.list ds)
 | _=>none
noncomputable def mask(fr:List Nat)(σ:Sg):Sg:=σ.mapIdx λi s=>if fr.contains i then s else .un
noncomputable abbrev ZaC:=Nat->List D->Option D
noncomputable def ZbX(f:D->Option (Option D)):List D->Option (List D)
 | []=>some []
 | d::ds=>(f d).bind λr=>(ZbX f ds).map λys=>match r with
  | some y=>y::ys
  | none=>ys
set_option smartUnfolding false in
theorem ZuW(f:D->Option (Option D))(d:D)(ds:List D):ZbX f (d::ds)=(f d).bind λr=>(ZbX f ds).map λys=>match r with
  | some y=>y::ys
  | none=>ys:=rfl
noncomputable def X.ZmY:X->Bool
 | .nil=>true
 | _=>false
noncomputable def X.Za8:X->Bool
 | .const .none=>true
 | _=>false
section
variable (Γ:ZaC)
mutual
noncomputable def ev(σ:Sg):X->Option D
 | .const d=>some d
 | .var i=>rd σ i
 | .tvar i=>rdt σ i
 | .bin op l r=>(ev σ l).bind λa=>(ev σ r).bind λb=>bop op a b
 | .cmp op l r=>(ev σ l).bind λa=>(ev σ r).bind λb=>(cop op a b).map .bool
 | .cmp2 o1 o2 a b c=>(ev σ a).bind λx=>(ev σ b).bind λy=>(cop o1 x y).bind λt=>
   if t then(ev σ c).bind λz=>(cop o2 y z).map .bool else some (.bool false)
 | .band xs=>Zfi σ xs
 | .bor xs=>Zmr σ xs
 | .not x=>(ev σ x).bind λa=>(tru a).map λb=>.bool (!b)
 | .ite t a b=>(tv σ t).bind λy=>if y then ev σ a else ev σ b
 | .bfn b x=>(ev σ x).bind λa=>bfn b a
 | .range1 a=>(ev σ a).bind λa=>(intOf a).bind λa=>if Zcx a then some (.list (Zcg 0 a 1)) else none
 | .range2 a b=>(ev σ a).bind λa=>(ev σ b).bind λb=>(intOf a).bind λa=>(intOf b).bind λb=>if Zcx a&&Zcx b then some (.list (Zcg a b 1)) else none
 | .range3 a b c=>(ev σ a).bind λa=>(ev σ b).bind λb=>(ev σ c).bind λc=>(intOf a).bind λa=>(intOf b).bind λb=>(intOf c).bind λc=>
   if Zcx a&&Zcx b&&(c==-1) then some (.list (Zcg a b c)) else none
 | .call f xs=>(evL σ xs).bind λds=>Γ f ds
 | .nil=>none
 | .cons _ _=>none
 | .find2 b y a=>(ev σ b).bind λs=>(ev σ y).bind λc=>(ev σ a).bind λi=>
   Zd4 (λl=>Zd4 (one λc=>intD (λi=>if 0<=i∧i<=1000000000 then some (.int (ZeD c l i.toNat l.length)) else none) i) c) s
 | .find3 b y a z=>(ev σ b).bind λs=>(ev σ y).bind λc=>(ev σ a).bind λi=>(ev σ z).bind λj=>
   Zd4 (λl=>Zd4 (one λc=>intD (λi=>intD (λj=>if 0<=i∧i<=1000000000∧0<=j∧j<=l.length then some (.int (ZeD c l i.toNat j.toNat)) else none) j) i) c) s
 | .repl b c z zs=>(ev σ b).bind (Zd4 λl=>if l.length<=1000000∧zs.length<=8 then some (.str (Zbd c (z::zs) l)) else none)
 | .join s x=>(ev σ s).bind λs=>(ev σ x).bind λa=>
   Zd4 (λsep=>ZdR (λl=>(strs? l).bind λls=>if ls.length<=1000000∧sep.length<=4∧(ls.map (·.length)).sum<=1000000 then some (.str (ZbT sep ls)) else none) a) s
 | .joing s t e it=>(ev σ s).bind λs=>((ev σ it).bind itemsOf).bind λds=>(ZbX (λd=>(ev ((σ.map λ_=>Slot.un).set t (.fz d)) e).map some) ds).bind λrs=>
   Zd4 (λsep=>(strs? rs).bind λls=>if ls.length<=1000000∧sep.length<=4∧(ls.map (·.length)).sum<=1000000 then some (.str (ZbT sep ls)) else none) s
 | .transl b=>(ev σ b).bind (Zd4 (one λc=>some (.str (Zff c))))
 | .resub b=>(ev σ b).bind (Zd4 λl=>if l.length<=1000 then some (.str (Zel l)) else none)
 | .idx a b=>(ev σ a).bind λx=>(ev σ b).bind λy=>ZmQ x y
 | .slc a lo hi=>(ev σ a).bind λx=>(ev σ lo).bind λy=>(ev σ hi).bind λz=>ZuK x y z
 | .list xs=>(evL σ xs).bind okL
 | .tuple xs=>(evL σ xs).bind λds=>if ds.length<=16777216 then some (.tuple ds) else none
 | .comp fr t e it c=>((ev σ it).bind itemsOf).bind λds=>(ZbX (λd=>
   (if c.Za8 then some true else tv ((mask fr σ).set t (.fz d)) c).bind λb=>
    if b then(ev ((mask fr σ).set t (.fz d)) e).map some else some none) ds).bind okL
 | .compu fr t u e it=>((ev σ it).bind itemsOf).bind λds=>(ZbX (λd=>Zrx (two λa b=>(ev (((mask fr σ).set t (.fz a)).set u (.fz b)) e).map some) d) ds).bind okL
 | .fstr a x b=>(ev σ x).bind (Zd4 λl=>okS (a++l++b))
 | .newobj=>none
 | .tval _=>none
 | .tcmp _ _ _=>none
 | .tnot _=>none
 | .tand _=>none
 | .tor _=>none
noncomputable def evL(σ:Sg):X->Option (List D)
 | .nil=>some []
 | .cons x xs=>(ev σ x).bind λa=>(evL σ xs).map (a::·)
 | _=>none
noncomputable def Zfi(σ:Sg):X->Option D
 | .cons x xs=>(ev σ x).bind λa=>if xs.ZmY then some a else(tru a).bind λb=>if b then Zfi σ xs else some a
 | _=>none
noncomputable def Zmr(σ:Sg):X->Option D
 | .cons x xs=>(ev σ x).bind λa=>if xs.ZmY then some a else(tru a).bind λb=>if b then some a else Zmr σ xs
 | _=>none
noncomputable def tv(σ:Sg):X->Option Bool
 | .tval x=>(ev σ x).bind tru
 | .tcmp op l r=>(ev σ l).bind λa=>(ev σ r).bind λb=>cop op a b
 | .tnot x=>(tv σ x).map (!·)
 | .tand xs=>Zkj σ xs
 | .tor xs=>Zru σ xs
 | _=>none
noncomputable def Zkj(σ:Sg):X->Option Bool
 | .nil=>some true
 | .cons x xs=>(tv σ x).bind λb=>if b then Zkj σ xs else some false
 | _=>none
noncomputable def Zru(σ:Sg):X->Option Bool
 | .nil=>some false
 | .cons x xs=>(tv σ x).bind λb=>if b then some true else Zru σ xs
 | _=>none
end
end
end
section
set_option backward.match.sparseCases false
noncomputable def ZrE(f:BoolOp->List Expr->Pos->Bool)(e:Expr):Bool:=if h:e.ctorIdx=0 then Expr.BoolOp.elim (motive_1:=λ_=>Bool) e h f else false
@[elab_as_elim] theorem Zrk{f:BoolOp->List Expr->Pos->Bool}{e:Expr}{G:Expr->Prop}(h:ZrE f e=true)(k:∀x0 x1 x2,f x0 x1 x2=true->G (.BoolOp x0 x1 x2)):G e:=
 Zbv h λi=>Expr.BoolOp.elim (motive_1:=λe=>∀i:e.ctorIdx=0,Expr.BoolOp.elim (motive_1:=λ_=>Bool) e i f=true->G e) e i (λx0 x1 x2 _=>k x0 x1 x2) i
noncomputable def Zrv(f:Expr->Operator->Expr->Pos->Bool)(e:Expr):Bool:=if h:e.ctorIdx=2 then Expr.BinOp.elim (motive_1:=λ_=>Bool) e h f else false
@[elab_as_elim] theorem ZmV{f:Expr->Operator->Expr->Pos->Bool}{e:Expr}{G:Expr->Prop}(h:Zrv f e=true)(k:∀x0 x1 x2 x3,f x0 x1 x2 x3=true->G (.BinOp x0 x1 x2 x3)):G e:=
 Zbv h λi=>Expr.BinOp.elim (motive_1:=λe=>∀i:e.ctorIdx=2,Expr.BinOp.elim (motive_1:=λ_=>Bool) e i f=true->G e) e i (λx0 x1 x2 x3 _=>k x0 x1 x2 x3) i
noncomputable def qUn(f:UnaryOp->Expr->Pos->Bool)(e:Expr):Bool:=if h:e.ctorIdx=3 then Expr.UnaryOp.elim (motive_1:=λ_=>Bool) e h f else false
@[elab_as_elim] theorem Zub{f:UnaryOp->Expr->Pos->Bool}{e:Expr}{G:Expr->Prop}(h:qUn f e=true)(k:∀x0 x1 x2,f x0 x1 x2=true->G (.UnaryOp x0 x1 x2)):G e:=
 Zbv h λi=>Expr.UnaryOp.elim (motive_1:=λe=>∀i:e.ctorIdx=3,Expr.UnaryOp.elim (motive_1:=λ_=>Bool) e i f=true->G e) e i (λx0 x1 x2 _=>k x0 x1 x2) i
noncomputable def Zvr(f:Arguments->Expr->Scope->Pos->Bool)(e:Expr):Bool:=if h:e.ctorIdx=4 then Expr.Lambda.elim (motive_1:=λ_=>Bool) e h f else false
@[elab_as_elim] theorem ZrY{f:Arguments->Expr->Scope->Pos->Bool}{e:Expr}{G:Expr->Prop}(h:Zvr f e=true)(k:∀x0 x1 x2 x3,f x0 x1 x2 x3=true->G (.Lambda x0 x1 x2 x3)):G e:=
 Zbv h λi=>Expr.Lambda.elim (motive_1:=λe=>∀i:e.ctorIdx=4,Expr.Lambda.elim (motive_1:=λ_=>Bool) e i f=true->G e) e i (λx0 x1 x2 x3 _=>k x0 x1 x2 x3) i
noncomputable def qIf(f:Expr->Expr->Expr->Pos->Bool)(e:Expr):Bool:=if h:e.ctorIdx=5 then Expr.IfExp.elim (motive_1:=λ_=>Bool) e h f else false
@[elab_as_elim] theorem Zuw{f:Expr->Expr->Expr->Pos->Bool}{e:Expr}{G:Expr->Prop}(h:qIf f e=true)(k:∀x0 x1 x2 x3,f x0 x1 x2 x3=true->G (.IfExp x0 x1 x2 x3)):G e:=
 Zbv h λi=>Expr.IfExp.elim (motive_1:=λe=>∀i:e.ctorIdx=5,Expr.IfExp.elim (motive_1:=λ_=>Bool) e i f=true->G e) e i (λx0 x1 x2 x3 _=>k x0 x1 x2 x3) i
noncomputable def Zkn(f:Expr->List Comprehension->Scope->Pos->Bool)(e:Expr):Bool:=if h:e.ctorIdx=8 then Expr.ListComp.elim (motive_1:=λ_=>Bool) e h f else false
@[elab_as_elim] theorem Zgm{f:Expr->List Comprehension->Scope->Pos->Bool}{e:Expr}{G:Expr->Prop}(h:Zkn f e=true)(k:∀x0 x1 x2 x3,f x0 x1 x2 x3=true->G (.ListComp x0 x1 x2 x3)):G e:=
 Zbv h λi=>Expr.ListComp.elim (motive_1:=λe=>∀i:e.ctorIdx=8,Expr.ListComp.elim (motive_1:=λ_=>Bool) e i f=true->G e) e i (λx0 x1 x2 x3 _=>k x0 x1 x2 x3) i
noncomputable def Zvs(f:Expr->List Comprehension->Scope->Pos->Bool)(e:Expr):Bool:=if h:e.ctorIdx=11 then Expr.GeneratorExp.elim (motive_1:=λ_=>Bool) e h f else false
@[elab_as_elim] theorem Zsr{f:Expr->List Comprehension->Scope->Pos->Bool}{e:Expr}{G:Expr->Prop}(h:Zvs f e=true)(k:∀x0 x1 x2 x3,f x0 x1 x2 x3=true->G (.GeneratorExp x0 x1 x2 x3)):G e:=
 Zbv h λi=>Expr.GeneratorExp.elim (motive_1:=λe=>∀i:e.ctorIdx=11,Expr.GeneratorExp.elim (motive_1:=λ_=>Bool) e i f=true->G e) e i (λx0 x1 x2 x3 _=>k x0 x1 x2 x3) i
noncomputable def Zut(f:Expr->List CmpOp->List Expr->Pos->Bool)(e:Expr):Bool:=if h:e.ctorIdx=15 then Expr.Compare.elim (motive_1:=λ_=>Bool) e h f else false
@[elab_as_elim] theorem ZoP{f:Expr->List CmpOp->List Expr->Pos->Bool}{e:Expr}{G:Expr->Prop}(h:Zut f e=true)(k:∀x0 x1 x2 x3,f x0 x1 x2 x3=true->G (.Compare x0 x1 x2 x3)):G e:=
 Zbv h λi=>Expr.Compare.elim (motive_1:=λe=>∀i:e.ctorIdx=15,Expr.Compare.elim (motive_1:=λ_=>Bool) e i f=true->G e) e i (λx0 x1 x2 x3 _=>k x0 x1 x2 x3) i
noncomputable def ZlA(f:Expr->List Expr->List Keyword->Pos->Bool)(e:Expr):Bool:=if h:e.ctorIdx=16 then Expr.Call.elim (motive_1:=λ_=>Bool) e h f else false
@[elab_as_elim] theorem ZiB{f:Expr->List Expr->List Keyword->Pos->Bool}{e:Expr}{G:Expr->Prop}(h:ZlA f e=true)(k:∀x0 x1 x2 x3,f x0 x1 x2 x3=true->G (.Call x0 x1 x2 x3)):G e:=
 Zbv h λi=>Expr.Call.elim (motive_1:=λe=>∀i:e.ctorIdx=16,Expr.Call.elim (motive_1:=λ_=>Bool) e i f=true->G e) e i (λx0 x1 x2 x3 _=>k x0 x1 x2 x3) i
noncomputable def Zvb(f:Expr->Int->Option Expr->Pos->Bool)(e:Expr):Bool:=if h:e.ctorIdx=17 then Expr.FormattedValue.elim (motive_1:=λ_=>Bool) e h f else false
@[elab_as_elim] theorem Ztf{f:Expr->Int->Option Expr->Pos->Bool}{e:Expr}{G:Expr->Prop}(h:Zvb f e=true)(k:∀x0 x1 x2 x3,f x0 x1 x2 x3=true->G (.FormattedValue x0 x1 x2 x3)):G e:=
 Zbv h λi=>Expr.FormattedValue.elim (motive_1:=λe=>∀i:e.ctorIdx=17,Expr.FormattedValue.elim (motive_1:=λ_=>Bool) e i f=true->G e) e i (λx0 x1 x2 x3 _=>k x0 x1 x2 x3) i
noncomputable def qJs(f:List Expr->Pos->Bool)(e:Expr):Bool:=if h:e.ctorIdx=18 then Expr.JoinedStr.elim (motive_1:=λ_=>Bool) e h f else false
@[elab_as_elim] theorem ZtZ{f:List Expr->Pos->Bool}{e:Expr}{G:Expr->Prop}(h:qJs f e=true)(k:∀x0 x1,f x0 x1=true->G (.JoinedStr x0 x1)):G e:=
 Zbv h λi=>Expr.JoinedStr.elim (motive_1:=λe=>∀i:e.ctorIdx=18,Expr.JoinedStr.elim (motive_1:=λ_=>Bool) e i f=true->G e) e i (λx0 x1 _=>k x0 x1) i
noncomputable def Zpf(f:Const->Nat->Pos->Bool)(e:Expr):Bool:=if h:e.ctorIdx=19 then Expr.Constant.elim (motive_1:=λ_=>Bool) e h f else false
@[elab_as_elim] theorem Zno{f:Const->Nat->Pos->Bool}{e:Expr}{G:Expr->Prop}(h:Zpf f e=true)(k:∀x0 x1 x2,f x0 x1 x2=true->G (.Constant x0 x1 x2)):G e:=
 Zbv h λi=>Expr.Constant.elim (motive_1:=λe=>∀i:e.ctorIdx=19,Expr.Constant.elim (motive_1:=λ_=>Bool) e i f=true->G e) e i (λx0 x1 x2 _=>k x0 x1 x2) i
noncomputable def ZpO(f:Expr->Str->Pos->Bool)(e:Expr):Bool:=if h:e.ctorIdx=20 then Expr.Attribute.elim (motive_1:=λ_=>Bool) e h f else false
@[elab_as_elim] theorem ZkO{f:Expr->Str->Pos->Bool}{e:Expr}{G:Expr->Prop}(h:ZpO f e=true)(k:∀x0 x1 x2,f x0 x1 x2=true->G (.Attribute x0 x1 x2)):G e:=
 Zbv h λi=>Expr.Attribute.elim (motive_1:=λe=>∀i:e.ctorIdx=20,Expr.Attribute.elim (motive_1:=λ_=>Bool) e i f=true->G e) e i (λx0 x1 x2 _=>k x0 x1 x2) i
noncomputable def ZnZ(f:Expr->Expr->Pos->Bool)(e:Expr):Bool:=if h:e.ctorIdx=21 then Expr.Subscript.elim (motive_1:=λ_=>Bool) e h f else false
@[elab_as_elim] theorem Zge{f:Expr->Expr->Pos->Bool}{e:Expr}{G:Expr->Prop}(h:ZnZ f e=true)(k:∀x0 x1 x2,f x0 x1 x2=true->G (.Subscript x0 x1 x2)):G e:=
 Zbv h λi=>Expr.Subscript.elim (motive_1:=λe=>∀i:e.ctorIdx=21,Expr.Subscript.elim (motive_1:=λ_=>Bool) e i f=true->G e) e i (λx0 x1 x2 _=>k x0 x1 x2) i
noncomputable def Zcv(f:Str->Pos->Bool)(e:Expr):Bool:=if h:e.ctorIdx=23 then Expr.Name.elim (motive_1:=λ_=>Bool) e h f else false
@[elab_as_elim] theorem Zbx{f:Str->Pos->Bool}{e:Expr}{G:Expr->Prop}(h:Zcv f e=true)(k:∀x0 x1,f x0 x1=true->G (.Name x0 x1)):G e:=
 Zbv h λi=>Expr.Name.elim (motive_1:=λe=>∀i:e.ctorIdx=23,Expr.Name.elim (motive_1:=λ_=>Bool) e i f=true->G e) e i (λx0 x1 _=>k x0 x1) i
noncomputable def Zhy(f:List Expr->Pos->Bool)(e:Expr):Bool:=if h:e.ctorIdx=24 then Expr.List.elim (motive_1:=λ_=>Bool) e h f else false
@[elab_as_elim] theorem Zd7{f:List Expr->Pos->Bool}{e:Expr}{G:Expr->Prop}(h:Zhy f e=true)(k:∀x0 x1,f x0 x1=true->G (.List x0 x1)):G e:=
 Zbv h λi=>Expr.List.elim (motive_1:=λe=>∀i:e.ctorIdx=24,Expr.List.elim (motive_1:=λ_=>Bool) e i f=true->G e) e i (λx0 x1 _=>k x0 x1) i
noncomputable def Zrr(f:List Expr->Nat->Pos->Bool)(e:Expr):Bool:=if h:e.ctorIdx=25 then Expr.Tuple.elim (motive_1:=λ_=>Bool) e h f else false
@[elab_as_elim] theorem Zjx{f:List Expr->Nat->Pos->Bool}{e:Expr}{G:Expr->Prop}(h:Zrr f e=true)(k:∀x0 x1 x2,f x0 x1 x2=true->G (.Tuple x0 x1 x2)):G e:=
 Zbv h λi=>Expr.Tuple.elim (motive_1:=λe=>∀i:e.ctorIdx=25,Expr.Tuple.elim (motive_1:=λ_=>Bool) e i f=true->G e) e i (λx0 x1 x2 _=>k x0 x1 x2) i
noncomputable def ZoZ(f:Option Expr->Option Expr->Option Expr->Pos->Bool)(e:Expr):Bool:=if h:e.ctorIdx=26 then Expr.Slice.elim (motive_1:=λ_=>Bool) e h f else false
@[elab_as_elim] theorem Zoq{f:Option Expr->Option Expr->Option Expr->Pos->Bool}{e:Expr}{G:Expr->Prop}(h:ZoZ f e=true)(k:∀x0 x1 x2 x3,f x0 x1 x2 x3=true->G (.Slice x0 x1 x2 x3)):G e:=
 Zbv h λi=>Expr.Slice.elim (motive_1:=λe=>∀i:e.ctorIdx=26,Expr.Slice.elim (motive_1:=λ_=>Bool) e i f=true->G e) e i (λx0 x1 x2 x3 _=>k x0 x1 x2 x3) i
noncomputable def b1{α:Type}(f:α->Bool):List α->Bool
 | [a]=>f a
 | _=>false
noncomputable def b2{α:Type}(f:α->α->Bool):List α->Bool
 | [a,b]=>f a b
 | _=>false
noncomputable def b3{α:Type}(f:α->α->α->Bool):List α->Bool
 | [a,b,c]=>f a b c
 | _=>false
noncomputable def bc{α:Type}(f:α->List α->Bool):List α->Bool
 | a::r=>f a r
 | _=>false
section
variable {α:Type}{l:List α}{G:List α->Prop}
@[elab_as_elim] theorem ZcD(h:l.isEmpty=true)(k:G []):G l:=by
 cases l with
 | nil=>exact k
 | cons=>exact nf h
@[elab_as_elim] theorem Zry{f:α->List α->Bool}(h:bc f l=true)(k:∀a r,f a r=true->G (a::r)):G l:=by
 cases l with
 | nil=>exact nf h
 | cons=>exact k _ _ h
@[elab_as_elim] theorem ZfN{f:α->Bool}(h:b1 f l=true)(k:∀a,f a=true->G [a]):G l:=by
 cases l with
 | nil=>exact nf h
 | cons a l=>
 cases l with
 | nil=>exact k _ h
 | cons=>exact nf h
@[elab_as_elim] theorem Zl6{f:α->α->Bool}(h:b2 f l=true)(k:∀a b,f a b=true->G [a,b]):G l:=by
 cases l with
 | nil=>exact nf h
 | cons a l=>
 cases l with
 | nil=>exact nf h
 | cons b l=>
 cases l with
 | nil=>exact k _ _ h
 | cons=>exact nf h
@[elab_as_elim] theorem Zu0{f:α->α->α->Bool}(h:b3 f l=true)(k:∀a b c,f a b c=true->G [a,b,c]):G l:=by
 cases l with
 | nil=>exact nf h
 | cons a l=>
 cases l with
 | nil=>exact nf h
 | cons b l=>
 cases l with
 | nil=>exact nf h
 | cons c l=>
 cases l with
 | nil=>exact k _ _ _ h
 | cons=>exact nf h
end
noncomputable def Zai(e:Expr):Bool:=!(e.ctorIdx==22||e.ctorIdx==7||e.ctorIdx==26)
noncomputable def plainT(e:Expr):Bool:=!(e.ctorIdx==0||e.ctorIdx==5||e.ctorIdx==15||qUn (λo _ _=>o==.Not) e)
noncomputable def Zgj(e:Expr):Bool:=!(e.ctorIdx==8||e.ctorIdx==9||e.ctorIdx==10)
noncomputable def ZeM(e:Expr):Bool:=!(ZlA (λg as kw _=>g.ctorIdx==23&&as.isEmpty&&kw.isEmpty) e)
noncomputable def ZdT:X->Bool
 | .nil=>true
 | .cons x xs=>x.fz&&ZdT xs
 | _=>false
noncomputable def ZpC(sc:Scope)(names:List (Str×NameKind)):List (Str×NameKind):=
 names.map λ(n,k)=>if(k==.free&&sc.kind==.function&&sc.names.lookup n==some .cell) then(n,.cell) else(n,k)
noncomputable def ZkJ(sc scope:Scope):Scope:={ scope with names:=ZpC sc scope.names }
noncomputable def Zcz(sc:Scope)(n:Str):Bool:=sc.names.lookup n==some .globalImplicit
noncomputable def Zlk(o:CmpOp)(f:Expr->Expr->Bool)(e:Expr):Bool:=Zut (λa os bs _=>b1 (λp=>b1 (λb=>p==o&&f a b) bs) os) e
@[elab_as_elim] theorem Zle{o:CmpOp}{f:Expr->Expr->Bool}{e:Expr}{G:Expr->Prop}(h:Zlk o f e=true)(k:∀a b p,f a b=true->G (.Compare a [o] [b] p)):G e:=
 ZoP h λa _ _ p h=>ZfN h λ_ h=>ZfN h λb h=>Zbg h λh1 h2=>eqb h1 (k a b p h2)
noncomputable def Zpn(o u:CmpOp)(f:Expr->Expr->Expr->Bool)(e:Expr):Bool:=Zut (λa os bs _=>b2 (λp q=>b2 (λb c=>p==o&&q==u&&f a b c) bs) os) e
@[elab_as_elim] theorem Zqm{o u:CmpOp}{f:Expr->Expr->Expr->Bool}{e:Expr}{G:Expr->Prop}(h:Zpn o u f e=true)(k:∀a b c p,f a b c=true->G (.Compare a [o,u] [b,c] p)):G e:=
 ZoP h λa _ _ p h=>Zl6 h λ_ _ h=>Zl6 h λb c h=>Zd2 h λh1 h2 h3=>eqb h1 (eqb h2 (k a b c p h3))
noncomputable def qFn(sc:Scope)(n:Str)(f:List Expr->Bool)(e:Expr):Bool:=ZlA (λg as kw _=>Zcv (λm _=>m==n&&Zcz sc n&&kw.isEmpty&&f as) g) e
@[elab_as_elim] theorem ZmI{sc:Scope}{n:Str}{f:List Expr->Bool}{e:Expr}{G:Expr->Prop}(h:qFn sc n f e=true)(k:∀p as q,Zcz sc n=true->f as=true->G (.Call (.Name n p) as [] q)):G e:=
 ZiB h λ_ as _ q h=>Zbx h λ_ p h=>Zi6 h λh1 h2 h3 h4=>eqb h1 (ZcD h3 (k p as q h2 h4))
noncomputable def ZcY(n:Str)(f:Expr->List Expr->Bool)(e:Expr):Bool:=ZlA (λg as kw q=>ZpO (λo m p=>m==n&&ZeM o&&p.endLine==q.line&&kw.isEmpty&&f o as) g) e
@[elab_as_elim] theorem Zby{n:Str}{f:Expr->List Expr->Bool}{e:Expr}{G:Expr->Prop}(h:ZcY n f e=true)(k:∀o p as q,ZeM o=true->(p.endLine==q.line)=true->f o as=true->G (.Call (.Attribute o n p) as [] q)):G e:=
 ZiB h λ_ as _ q h=>ZkO h λo _ p h=>Zm2 h λh1 h2 h3 h4 h5=>eqb h1 (ZcD h4 (k o p as q h2 h3 h5))
noncomputable def Zm1(o:BoolOp)(f:List Expr->Bool)(e:Expr):Bool:=ZrE (λp es _=>p==o&&f es) e
@[elab_as_elim] theorem Zf5{o:BoolOp}{f:List Expr->Bool}{e:Expr}{G:Expr->Prop}(h:Zm1 o f e=true)(k:∀es p,f es=true->G (.BoolOp o es p)):G e:=Zrk h λ_ es p h=>Zbg h λh1 h2=>eqb h1 (k es p h2)
noncomputable def Zl3(o:UnaryOp)(f:Expr->Bool)(e:Expr):Bool:=qUn (λp a _=>p==o&&f a) e
@[elab_as_elim] theorem Zfg{o:UnaryOp}{f:Expr->Bool}{e:Expr}{G:Expr->Prop}(h:Zl3 o f e=true)(k:∀a p,f a=true->G (.UnaryOp o a p)):G e:=Zub h λ_ a p h=>Zbg h λh1 h2=>eqb h1 (k a p h2)
noncomputable def qC(c:Const)(e:Expr):Bool:=Zpf (λd _ _=>d==c) e
@[elab_as_elim] theorem Znw{c:Const}{e:Expr}{G:Expr->Prop}(h:qC c e=true)(k:∀n p,G (.Constant c n p)):G e:=Zno h λ_ n p h=>eqb h (k n p)
noncomputable def mtc(d:D)(e:Expr):Bool:=match d with
 | .none=>qC .none e
 | .bool b=>qC (.bool b) e
 | .int i=>qC (.int i) e||Zl3 .USub (qC (.int (-i))) e
 | .str l=>qC (.str ⟨l.toArray⟩) e&&decide (l.length<=1000)
 | _=>false
noncomputable def mtv(nm:List Str)(i:Nat)(e:Expr):Bool:=Zcv (λn _=>nm[i]?==some n&&n != ("__debug__" : Str)&&n != ("__classdict__" : Str)) e
noncomputable def ZbR(sc:Scope)(nm:List Str)(fr:List Nat)(scope:Scope):Bool:=
 scope.names.all (λy=>y.2 != .cell&&(y.2 != .local||scope.names.lookup y.1==some .local)&&(y.2 != .free||sc.names.lookup y.1==some .cell))&&
 scope.kind==.function&&sc.kind==.function&&
 fr.all λi=>match nm[i]? with
  | some n=>scope.names.lookup n==some .free
  | none=>false
noncomputable def Zuj(scope:Scope)(nm:List Str)(t:Nat)(e:Expr):Bool:=Zcv (λn _=>nm[t]?==some n&&scope.names.lookup n==some .local) e
noncomputable def opt{α:Type}(a:Bool)(f:α->Bool):Option α->Bool
 | none=>a
 | some x=>f x
section
variable (nm:List Str) (fn:Nat->Str)
mutual
noncomputable def mt(sc:Scope)(cp:Bool):X->Expr->Bool
  | .const d,e=>mtc d e
  | .var i,e=>mtv nm i e
  | .tvar i,e=>mtv nm i e
  | .bin op l r,e=>Zrv (λa o b _=>o==op.op&&mt sc cp l a&&mt sc cp r b) e
  | .cmp op l r,e=>Zlk op.op (λa b=>Zai b&&mt sc cp l a&&mt sc cp r b) e
  | .cmp2 o1 o2 a b c,e=>Zpn o1.op o2.op (λx y z=>Zai y&&Zai z&&mt sc cp a x&&mt sc cp b y&&mt sc cp c z) e
  | .band xs,e=>Zm1 .And (λes=>mtL sc cp xs es&&ZdT xs) e
  | .bor xs,e=>Zm1 .Or (λes=>mtL sc cp xs es&&ZdT xs) e
  | .not x,e=>Zl3 .Not (λa=>mt sc cp x a) e
  | .ite t a b,e=>qIf (λu c d _=>a.fz&&b.fz&&mtT sc cp t u&&mt sc cp a c&&mt sc cp b d) e
  | .bfn f x,e=>qFn sc f.name (b1 λa=>Zai a&&mt sc cp x a) e
  | .range1 _,_=>false
  | .range2 _ _,_=>false
  | .range3 _ _ _,_=>false
  | .call f xs,e=>qFn sc (fn f) (λes=>fn f != ("__debug__" : Str)&&!es.isEmpty&&ZdT xs&&mtL sc cp xs es) e
  | .nil,_=>false
  | .cons _ _,_=>false
  | .find2 b y a,e=>ZcY "find" (λo=>b2 λp q=>Zai p&&Zai q&&mt sc cp b o&&mt sc cp y p&&mt sc cp a q) e
  | .find3 b y a z,e=>ZcY "find" (λo=>b3 λp q r=>Zai p&&Zai q&&Zai r&&mt sc cp b o&&mt sc cp y p&&mt sc cp a q&&mt sc cp z r) e
  | .repl b c z zs,e=>ZcY "replace" (λo=>b2 λp q=>mtc (.str [c]) p&&mtc (.str (z::zs)) q&&!(z::zs==[c])&&mt sc cp b o) e
  | .join s x,e=>ZcY "join" (λo=>b1 λp=>Zai p&&mt sc cp s o&&mt sc cp x p) e
  | .joing _ _ _ _,_=>false
  | .transl _,_=>false
  | .resub _,_=>false
  | .idx a b,e=>ZnZ (λx y _=>Zai y&&mt sc cp a x&&mt sc cp b y) e
  | .slc a lo hi,e=>ZnZ (λx y _=>ZoZ (λl u st _=>st.isNone&&mt sc cp a x&&opt lo.Za8 (λy=>mt sc cp lo y) l&&opt hi.Za8 (λy=>mt sc cp hi y) u) y) e
  | .list xs,e=>Zhy (λes _=>ZdT xs&&mtL sc cp xs es) e
  | .tuple xs,e=>Zrr (λes _ _=>ZdT xs&&mtL sc cp xs es) e
  | .comp fr t e it c, x => cp && Zkn (fun elt gens scope _ => b1 (fun g => g.is_async == 0 && ZbR sc nm fr scope && Zuj scope nm t g.target && !fr.contains t && e.fz && Zai g.iter &&
          (mtR sc false it g.iter||mt sc false it g.iter)&&mt (ZkJ sc scope) false e elt&&(if c.Za8 then g.ifs.isEmpty else b1 (λi=>mtT (ZkJ sc scope) false c i) g.ifs)) gens) x
  | .compu _ _ _ _ _,_=>false
  | .fstr a x b,e=>qJs (λvs _=>b3 (λp y q=>mtc (.str a) p&&mtc (.str b) q&&Zvb (λy cv sp _=>cv==-1&&sp.isNone&&mt sc cp x y) y) vs) e
  | .newobj,_=>false
  | .tval _,_=>false
  | .tcmp _ _ _,_=>false
  | .tnot _,_=>false
  | .tand _,_=>false
  | .tor _,_=>false
termination_by structural x _=>x
noncomputable def mtR(sc:Scope)(cp:Bool):X->Expr->Bool
  | .range1 a,e=>qFn sc "range" (b1 λx=>Zai x&&mt sc cp a x) e
  | .range2 a b,e=>qFn sc "range" (b2 λx y=>Zai x&&Zai y&&mt sc cp a x&&mt sc cp b y) e
  | .range3 a b c,e=>qFn sc "range" (b3 λx y z=>Zai x&&Zai y&&Zai z&&mt sc cp a x&&mt sc cp b y&&mt sc cp c z) e
  | _,_=>false
termination_by structural x _=>x
noncomputable def mtL(sc:Scope)(cp:Bool):X->List Expr->Bool
  | .nil,es=>es.isEmpty
  | .cons x xs,es=>bc (λe r=>Zai e&&mt sc cp x e&&mtL sc cp xs r) es
  | _,_=>false
termination_by structural x _=>x
noncomputable def mtT(sc:Scope)(cp:Bool):X->Expr->Bool
  | .tval x,e=>plainT e&&mt sc cp x e
  | .tcmp op l r,e=>Zlk op.op (λa b=>Zai b&&mt sc cp l a&&mt sc cp r b) e
  | .tnot x,e=>Zl3 .Not (λa=>mtT sc cp x a) e
  | .tand xs,e=>Zm1 .And (λes=>Zpd sc cp xs es) e
  | .tor xs,e=>Zm1 .Or (λes=>Zpd sc cp xs es) e
  | _,_=>false
termination_by structural x _=>x
noncomputable def Zpd(sc:Scope)(cp:Bool):X->List Expr->Bool
  | .nil,es=>es.isEmpty
  | .cons x xs,es=>bc (λe r=>mtT sc cp x e&&Zpd sc cp xs r) es
  | _,_=>false
termination_by structural x _=>x
end
noncomputable def mtI(sc:Scope)(cp:Bool)(x:X)(e:Expr):Bool:=mtR nm fn sc cp x e||mt nm fn sc cp x e
end
end
section
noncomputable def Mut(o:Obj):Prop:=(∃es n,o.data=.dict es n)∨(∃xs n,o.data=.seq xs n)∨(∃v,o.data=.cell v)∨o.cls=.type "list_iterator" ∨ o.cls=.type "range_iterator"
noncomputable abbrev Gr(base:Addr->Prop)(mg mb:Str->Option Value)(Gd:Heap->Prop):Prop:=(∀h h',Gd h->(∀b o,(base b∨¬Mut o)->h.get? b=some o->h'.get? b=some o)->Gd h')∧(∀h b,Gd h->base b->∃o,h.get? b=some o)∧(∀h,Gd h->h.Ns mainGlobals mg)∧(∀h,Gd h->h.Ns builtinsNs mb)∧(∀h,Gd h->h.NoLimit)∧(∀n v,(n,v)∈([("len",.builtin "len"),("chr",.builtin "chr"),("sum",.builtin "sum"),("list",.type "list"),("range",.type "range"),("iter",.builtin "iter"),("object",.type "object"),("str",.type "str"),("isinstance",.builtin "isinstance")]:List (Str×Value))->mg n=none∧mb n=some v)
theorem Gr.keep{base:Addr->Prop}{mg mb:Str->Option Value}{Gd:Heap->Prop}(slf:Gr base mg mb Gd):∀h h',Gd h->(∀b o,(base b∨¬Mut o)->h.get? b=some o->h'.get? b=some o)->Gd h':=slf.1
theorem Gr.there{base:Addr->Prop}{mg mb:Str->Option Value}{Gd:Heap->Prop}(slf:Gr base mg mb Gd):∀h b,Gd h->base b->∃o,h.get? b=some o:=slf.2.1
theorem Gr.g{base:Addr->Prop}{mg mb:Str->Option Value}{Gd:Heap->Prop}(slf:Gr base mg mb Gd):∀h,Gd h->h.Ns mainGlobals mg:=slf.2.2.1
theorem Gr.b{base:Addr->Prop}{mg mb:Str->Option Value}{Gd:Heap->Prop}(slf:Gr base mg mb Gd):∀h,Gd h->h.Ns builtinsNs mb:=slf.2.2.2.1
theorem Gr.lim{base:Addr->Prop}{mg mb:Str->Option Value}{Gd:Heap->Prop}(slf:Gr base mg mb Gd):∀h,Gd h->h.NoLimit:=slf.2.2.2.2.1
theorem Gr.bi{base:Addr->Prop}{mg mb:Str->Option Value}{Gd:Heap->Prop}(slf:Gr base mg mb Gd):∀n v,(n,v)∈([("len",.builtin "len"),("chr",.builtin "chr"),("sum",.builtin "sum"),("list",.type "list"),("range",.type "range"),("iter",.builtin "iter"),("object",.type "object"),("str",.type "str"),("isinstance",.builtin "isinstance")]:List (Str×Value))->mg n=none∧mb n=some v:=slf.2.2.2.2.2
noncomputable abbrev Ok(Gd:Heap->Prop)(s:Shared):Prop:=(Gd s.heap)∧(1<=s.toks)
theorem Ok.gd{Gd:Heap->Prop}{s:Shared}(slf:Ok Gd s):Gd s.heap:=slf.1
theorem Ok.tk{Gd:Heap->Prop}{s:Shared}(slf:Ok Gd s):1<=s.toks:=slf.2
noncomputable abbrev Lv(A:Around)(n:Nat):Prop:=(A.handled=none)∧(A.depth+n<=900)∧(A.units+3 * n<=9000)
theorem Lv.hd{A:Around}{n:Nat}(slf:Lv A n):A.handled=none:=slf.1
theorem Lv.dp{A:Around}{n:Nat}(slf:Lv A n):A.depth+n<=900:=slf.2.1
theorem Lv.un{A:Around}{n:Nat}(slf:Lv A n):A.units+3 * n<=9000:=slf.2.2
theorem Lv.le{A:Around}{n m:Nat}(l:Lv A n)(h:m<=n):Lv A m:=⟨l.hd,by have:=l.dp;lia,by have:=l.un;lia⟩
noncomputable def Kc(Gd:Heap->Prop)(P:Addr->Prop)(d:D)(Q:Value->Shared->Prop)(s:Shared):Prop:=
 ∀v s',Gw s s'->Ok Gd s'->Rd P s'.heap v d->Q v s'
section
variable {base:Addr->Prop}{mg mb:Str->Option Value}{Gd:Heap->Prop}{P:Addr->Prop}{d:D}{Q:Value->Shared->Prop}{s:Shared}{v:Value}{tk:Tok}
theorem Kc.tok(k:Kc Gd P d Q s)(o:Ok Gd s)(ht:1<=tk)(r:Rd P s.heap v d):Q v { s with toks:=tk }:=k v _ (.tok ..) ⟨o.gd,ht⟩ r
theorem Kc.same(k:Kc Gd P d Q s)(o:Ok Gd s)(r:Rd P s.heap v d):Q v s:=k v _ (.refl _) o r
theorem Kc.ZkI(k:Kc Gd P d Q s)(o:Ok Gd s)(r:Rd P s.heap v d):Q v { s with toks:=s.toks+1 }:=k.tok o (Nat.le_succ_of_le o.tk) r
theorem Kc.Zvx(k:Kc Gd P d Q s)(o:Ok Gd s)(r:Rd P s.heap v d):Q v { s with toks:=s.toks+1+1 }:=k.tok o (Nat.le_succ_of_le (Nat.le_succ_of_le o.tk)) r
theorem Gr.keeps(G:Gr base mg mb Gd){h h':Heap}(x:Gd h)(k:∀b o,h.get? b=some o->h'.get? b=some o):Gd h':=G.keep _ _ x λb o _ e=>k b o e
theorem Kc.heap(k:Kc Gd P d Q s)(o:Ok Gd s)(G:Gr base mg mb Gd){h':Heap}(hk:∀b o,s.heap.get? b=some o->h'.get? b=some o)(ht:1<=tk)(r:Rd P h' v d):Q v { s with heap:=h',toks:=tk }:=
 k v _ (.of_keep hk) ⟨G.keeps o.gd hk,ht⟩ r
theorem Kc.push(k:Kc Gd P d Q s)(o:Ok Gd s)(G:Gr base mg mb Gd){ob:Obj}(r:Rd P (s.heap.push ob) v d):Q v { s with heap:=s.heap.push ob }:=
 k.heap (tk:=s.toks) o G (λ_ _ e=>Heap.get?_push_of_some _ e) o.tk r
theorem Kc.after{s₁:Shared}(k:Kc Gd P d Q s)(g:Gw s s₁):Kc Gd P d Q s₁:=λv s' g' o r=>k v s' (g.trans g') o r
end
section
variable {prog:Program}{w:World}{A:Around}{E:Value->Shared->Prop}{s:Shared}{α:Type}
theorem wrap{M:Model}{t:Sem α}{Q:α->Shared->Prop}(hs:1<=s.toks)(h:wpAny M A t (λv s'=>1<=s'.toks->Q v s') E s):wpAny M A t Q E s:=
 wpAny_mono (wpAny_toks_of (n:=1) hs h) (λ_ _ x=>x.2 x.1) λ_ _ x=>x.2
end
theorem Zhx{P:Addr->Prop}{h:Heap}{x:Str}{t:Tok}{l:List Nat}(e:x.cps.toList=l)(hl:l.length<=sizeLine):Rd P h (.str x t) (.str l):=by
 subst e;obtain⟨⟨c⟩⟩:=x;exact .str _ _ hl
@[elab_as_elim] theorem Zq1{l:List Nat}{d:D}{G:D->Prop}(h:okS l=some d)(k:l.length<=sizeLine->G (.str l)):G d:=ifS h λx e=>Option.some.inj e▸k x
@[elab_as_elim] theorem ZmO{l:List D}{d:D}{G:D->Prop}(h:okL l=some d)(k:l.length<=sizeLine->G (.list l)):G d:=ifS h λx e=>Option.some.inj e▸k x
theorem ZcQ(a b:List Nat):((⟨a.toArray⟩:Str)++(⟨b.toArray⟩:Str)).cps.toList=a++b:=by
 erw[rwl (Str.cps_append ..) ?_];simp
theorem str_len(a:List Nat):(⟨a.toArray⟩:Str).length=a.length:=by simp[Str.length]
theorem Zkd{α:Type}(x:α)(n:Nat):List.foldl (λx1 x2=>x1++x2) (#[]:Array α) (List.replicate n #[x])=(List.replicate n x).toArray:=by
 have:∀(n:Nat) (a:Array α),List.foldl (λx1 x2=>x1++x2) a (List.replicate n #[x])=a++(List.replicate n x).toArray:=by
  intro n
  induction n with
  | zero=>intro a;simp
  | succ n ih=>intro a;erw[rwl (List.replicate_succ ..) (rwl (List.foldl_cons ..) (rwl (ih ..) (rwl (List.replicate_succ ..) ?_)))];apply Array.toList_inj.mp;simp
 erw[rwl (this ..) ?_];simp
section
variable {prog:Program}{w:World}{A:Around}{E:Value->Shared->Prop}{s:Shared}{P:Addr->Prop}{base:Addr->Prop}{mg mb:Str->Option Value}{Gd:Heap->Prop}{Q:Value->Shared->Prop}
theorem Zps(G:Gr base mg mb Gd){a b d:D}{va vb:Value}(o:Ok Gd s)(hP:Pf P s.heap)(ra:Rd0 P s.heap va a)(rb:Rd0 P s.heap vb b)(h:Zvm a b=some d)(k:Kc Gd P d Q s):wpAny (model prog w) A (binaryOp .Add va vb) Q E s:=by
 cases a with
 | int a=>
  revert rb k
  refine Za3 (show intD _ b=_ from h) λb h=>eqs h λrb k=>ra.Za0 λ_=>rb.Za0 λ_=>?_
  exact add_int (k.ZkI o (.int _ _))
 | str a=>
  revert rb k
  refine ZbG (show Zd4 _ b=_ from h) λb h=>Zq1 h λhl rb k=>ra.Zba λ_ _=>rb.Zba λ_ _=>?_
  refine wrap o.tk (add_str (λt' tk ht=>k.tok o ht (Zhx (ZcQ ..) hl)) ?_)
  erw[rwl (str_len ..) (rwl (str_len ..) (rwr (List.length_append ..) ?_))];exact hl
 | list a=>
  revert rb k
  refine Zdr (show ZdR _ b=_ from h) λb h=>ZmO h λhl rb k=>ra.ZbL λi vs hi hr _=>rb.ZbL λj ws hj hq _=>?_
  obtain⟨n,hi⟩:=hi
  obtain⟨m,hj⟩:=hj
  have r:=hr.append hq
  refine PySem.P.add_list hi hj (k.push o G (.list (hP.fresh (Zau _)) ⟨0,?_⟩ (r.kp (.push _ _)) hl)) ?_
  ·erw[rwl (List.append_toArray ..) ?_];exact Heap.get?_push_size s.heap rfl
  ·have:=r.length
   rw[List.length_append] at this
   erw[rwl (List.size_toArray ..) (rwl (List.size_toArray ..) (rwl (this ..) ?_))]
   exact hl
 | _=>exact nn h
theorem ZuI(G:Gr base mg mb Gd){op:Bop}{a b d:D}{va vb:Value}{n:Nat}(_L:Lv A n)(o:Ok Gd s)(hP:Pf P s.heap)(ra:Rd0 P s.heap va a)(rb:Rd0 P s.heap vb b)(h:bop op a b=some d)(k:Kc Gd P d Q s) :
  wpAny (model prog w) A (binaryOp op.op va vb) Q E s:=by
 cases op with
 | add=>exact Zps G o hP ra rb h k
 | mul=>
  revert ra rb k
  refine Zdr (show ZdR _ a=_ from h) λa h=>ZnW h λx h=>Za3 h λn h=>ifS h λhn h=>ZmO h λhl ra rb k=>ra.ZbL λi vs hi hr _=>rb.Za0 λ_=>?_
  revert hi
  refine hr.Zd0 λv0 r r0 rn=>?_
  erw[rwl (rn.nil_inv ..) ?_]
  rintro⟨n',hi⟩
  refine wpAny_binaryOp_repeat_ref (T := "list") (U := "int") (by decide) ⟨_,hi,rfl⟩ (λs'=>typeIs_int s' n _) noFill_list_mul F.fills_int_mul F.slot_int_rmul repeat_list F.slot_int_index.lookup
   (call_meets F.slot_int_rmul (typeIs_int s n _) F.entry_int_rmul (F.args_int_rmul_2 _ _) (int___rmul___int_list n _ i _ n')
    ⟨hi,rfl,⟨_,hi,rfl⟩,call_meets F.slot_list_mul ⟨_,hi,rfl⟩ F.entry_list_mul (F.args_list_mul_2 _ _)
     (AutoListH.list___mul___list_int_3 i _ n' n _ (by simp[Builtin.List.listFitsIndex];omega) (by simp;omega) (by simp[Builtin.List.listTooLong,sizeLine];omega))
     ⟨hi,k.push o G ?_⟩⟩)
  refine .list (vs:=List.replicate n.toNat v0) (hP.fresh (Zau _)) ⟨0,?_⟩ ((Zad.replicate r0 _).kp (.push _ _)) hl
  erw[rwl (Heap.get?_push_size _ rfl ..) ?_]
  exact congrArg (λz=>some ({ cls:=.type "list",data:=.seq z }:Obj)) (Zkd v0 n.toNat)
 | sub=>
  revert ra rb k
  refine Za3 (show intD _ a=_ from h) λa h=>Za3 h λb h=>eqs h λra rb k=>ra.Za0 λ_=>rb.Za0 λ_=>?_
  exact sub_int' (k.ZkI o (.int _ _))
 | fdiv=>
  revert ra rb k
  refine Za3 (show intD _ a=_ from h) λa h=>Za3 h λb h=>ifS h λhb h=>eqs h λra rb k=>ra.Za0 λ_=>rb.Za0 λ_=>?_
  rw[←Int.fdiv_eq_ediv_of_nonneg a (Int.le_of_lt hb.1)] at k
  exact floordiv_int (Int.ne_of_gt hb.1) (k.ZkI o (.int _ _)) (.inl (PyProof.noPylong_small (by omega)))
 | mod=>
  revert ra rb k
  refine Za3 (show intD _ a=_ from h) λa h=>Za3 h λb h=>ifS h λhb h=>eqs h λra rb k=>ra.Za0 λ_=>rb.Za0 λ_=>?_
  rw[←Int.fmod_eq_emod_of_nonneg a (Int.le_of_lt hb)] at k
  exact mod_int' (Int.ne_of_gt hb) (k.ZkI o (.int _ _))
 | pow=>
  revert ra rb k
  refine Za3 (show intD _ a=_ from h) λa h=>Za3 h λb h=>ifS h λhb h=>eqs h λra rb k=>ra.Za0 λ_=>rb.Za0 λ_=>?_
  exact pow_int_small hb.1 (by omega) (by omega) (k.ZkI o (.int _ _))
theorem ZkS{A:Around}{n:Nat}(L:Lv A n):A.units < cLine:=by
 have h:=L.un
 have e:cLine=9900:=rfl
 lia
theorem Zg3(a b:List Nat):((⟨a.toArray⟩:Str)==(⟨b.toArray⟩:Str))=(a==b):=by
 erw[rwl (propext (Bool.eq_iff_iff ..)) (rwl (propext (beq_iff_eq ..)) (rwl (propext (beq_iff_eq ..)) ?_))]
 constructor
 ·intro h;have:=congrArg (λx:Str=>x.cps.toList) h;simpa using this
 ·intro h;erw[rwl (h ..) ?_]
theorem Zjl{A:Around}{h:Shared}{v v':Value}{a b:List Nat}{P P':Addr->Prop}(r:Rd P h.heap v (.str a))(q:Rd P' h.heap v' (.str b)):SeqAt.EqAt A h v v' (a==b):=by
 obtain⟨_,_,rfl⟩:=r.str_inv
 obtain⟨_,_,rfl⟩:=q.str_inv
 erw[rwr (Zg3 ..) ?_]
 exact SeqAt.EqAt.str_str _ _ _ _
theorem ZlH{A:Around}{h:Shared}{v v':Value}{a b:Bool}{P P':Addr->Prop}(r:Rd P h.heap v (.bool a))(q:Rd P' h.heap v' (.bool b)):SeqAt.EqAt A h v v' (a==b):=by
 erw[rwl (r.bool_inv ..) (rwl (q.bool_inv ..) ?_)]
 exact SeqAt.EqAt.bool_bool _ _
theorem Zcs:∀{ds:List D} {ls:List (List Nat)},strs? ds=some ls->ds=ls.map .str
 | [],_,h=>eqs h rfl
 | d::r,_,h=>ZbG (show Zd4 (λl=>(strs? r).map (l::·)) d=_ from h) λl h=>Zds h λq e=>congrArg (D.str l::·) (Zcs e)
theorem ZhS:∀{ds:List D} {ls:List Bool},ZdE ds=some ls->ds=ls.map .bool
 | [],_,h=>eqs h rfl
 | d::r,_,h=>ZmC (show Zkv (λl=>(ZdE r).map (l::·)) d=_ from h) λl h=>Zds h λq e=>congrArg (D.bool l::·) (ZhS e)
theorem ints_get:∀{ds:List D} {ls:List Int},ZhP ds=some ls->ds=ls.map .int
 | [],_,h=>eqs h rfl
 | d::r,_,h=>Za3 (show intD (λl=>(ZhP r).map (l::·)) d=_ from h) λl h=>Zds h λq e=>congrArg (D.int l::·) (ints_get e)
theorem Zfq:∀{ds:List D} {ls:List (List (List Nat))},Zew ds=some ls->ds=ls.map λl=>.list (l.map .str)
 | [],_,h=>eqs h rfl
 | d::r,_,h=>Zdr (show ZdR (λl=>(strs? l).bind λx=>(Zew r).map (x::·)) d=_ from h) λl h=>Zac h λx hx h=>Zds h λq e=>by erw[rwl (Zcs hx ..) (rwl (Zfq e ..) ?_)];rfl
theorem Zia{α:Type}[BEq α][LawfulBEq α](e:Nat->Bool):∀(a b:List α) (k:Nat),a.length=b.length->(∀j x y,a[j]? = some x->b[j]? = some y->e (k+j)=(x==y))->((List.range' k a.length).all e)=(a==b)
 | [],[],_,_,_=>by simp
 | x::a,y::b,k,hl,he=>by
  have h0:=he 0 x y rfl rfl
  have ih:=Zia e a b (k+1) (by simpa using hl) λj x y h1 h2=>by have:=he (j+1) x y (by simpa using h1) (by simpa using h2);erw[rwr (this ..) ?_];congr 1;lia
  simp only[List.length_cons,List.range'_succ,List.all_cons,ih]
  rw[show e k=(x==y) by simpa using h0]
  rfl
theorem Zmv{A:Around}{h:Shared}{a b:List Value}{x y:List (List Nat)}{P P':Addr->Prop}(r:Zad P h.heap a (x.map .str))(q:Zad P' h.heap b (y.map .str))(hl:x.length=y.length) :
  ∃e:Nat->Bool,(∀j (h1:j < a.toArray.size) (h2:j < b.toArray.size),SeqAt.EqAt A h a.toArray[j] b.toArray[j] (e j))∧(List.range a.toArray.size).all e=(x==y):=by
 have e1:=r.length
 have e2:=q.length
 simp at e1 e2
 refine⟨λj=>x[j]?==y[j]?,λj h1 h2=>?_,?_⟩
 ·simp at h1 h2
  have hx:x[j]? = some x[j]:=List.getElem?_eq_getElem (by lia)
  have hy:y[j]? = some y[j]:=List.getElem?_eq_getElem (by lia)
  obtain⟨v,e3,rv⟩:=r.get (i:=j) (d:=.str x[j]) (by simp[hx])
  obtain⟨u,e4,ru⟩:=q.get (i:=j) (d:=.str y[j]) (by simp[hy])
  have e5:a[j]=v:=by rw[List.getElem?_eq_getElem (by lia)] at e3;exact Option.some.inj e3
  have e6:b[j]=u:=by rw[List.getElem?_eq_getElem (by lia)] at e4;exact Option.some.inj e4
  have e7:(x[j]?==y[j]?)=(x[j]==y[j]):=by erw[rwl (hx ..) (rwl (hy ..) ?_)];rfl
  show SeqAt.EqAt A h a.toArray[j] b.toArray[j] (x[j]?==y[j]?)
  erw[rwl (e7 ..) ?_]
  simp only[List.getElem_toArray,e5,e6]
  exact Zjl rv ru
 ·have:=Zia (λj=>x[j]?==y[j]?) x y 0 hl (λj u v h1 h2=>by simp[h1,h2])
  erw[rwl (List.size_toArray ..) (rwl (e1 ..) (rwl (List.range_eq_range' ..) (rwl (this ..) ?_)))]
theorem Zke{h:Heap}{v:Value}{a b:List Nat}{P P':Addr->Prop}(r:Rd P h v (.str a))(q:Rd P' h v (.str b)):a=b:=by
 obtain⟨_,t,e⟩:=r.str_inv
 obtain⟨_,t',e'⟩:=q.str_inv
 injection e.symm.trans e' with e1
 exact congrArg (λx:Str=>x.cps.toList) e1
theorem Zfy{h:Heap}{P P':Addr->Prop}:∀{x y:List (List Nat)} {vs:List Value},Zad P h vs (x.map .str)->Zad P' h vs (y.map .str)->x=y
 | [],[],_,_,_=>rfl
 | [],_::_,_,r,q=>by rw[r.nil_inv] at q;obtain⟨_,_,e,_⟩:=q.cons_inv;cases e
 | _::_,[],_,r,q=>by rw[q.nil_inv] at r;obtain⟨_,_,e,_⟩:=r.cons_inv;cases e
 | a::x,b::y,_,r,q=>by
  obtain⟨v,vs,e,r1,r2⟩:=r.cons_inv
  obtain⟨v',vs',e',q1,q2⟩:=q.cons_inv
  injection e.symm.trans e' with e1 e2
  rw[←e1] at q1
  rw[←e2] at q2
  erw[rwl (Zke r1 q1 ..) (rwl (Zfy r2 q2 ..) ?_)]
theorem Zmf{h:Heap}{a:Addr}{x y:Array Value}(p:h.PlainList a x)(q:h.PlainList a y):x=y:=by
 obtain⟨n,e⟩:=p
 obtain⟨m,e'⟩:=q
 rw[e] at e'
 simp at e'
 exact e'.1
theorem ZlC{A:Around}{h:Shared}{v v':Value}{x y:List (List Nat)}{P P':Addr->Prop}(hu:A.units < cLine)(r:Rd P h.heap v (.list (x.map .str)))(q:Rd P' h.heap v' (.list (y.map .str))) :
  SeqAt.EqAt A h v v' (x==y):=by
 obtain⟨a,vs,rfl,_,ha,rv,_⟩:=r.Zbq
 obtain⟨b,us,rfl,_,hb,ru,_⟩:=q.Zbq
 have e1:=rv.length
 have e2:=ru.length
 simp at e1 e2
 by_cases hab:a=b
 ·subst hab
  have:=Zmf ha hb
  have:vs=us:=by simpa using this
  subst this
  erw[rwl (Zfy rv ru ..) ?_]
  erw[rwl (beq_self_eq_true ..) ?_]
  exact SeqAt.EqAt.same _
 ·refine SeqAt.EqAt.of_refs hab ?_
  by_cases hl:x.length=y.length
  ·obtain⟨e,he,hall⟩:=Zmv (A:=A.in1) (h:=h) rv ru hl
   erw[rwr (hall ..) ?_]
   exact SeqAt.RcAt.lists ha.isList hb.isList (by simp;lia) hu he
  ·have:(x==y)=false:=by
    erw[rwl (propext (beq_eq_false_iff_ne ..)) ?_];intro q;exact hl (by erw[rwl (q ..) ?_])
   erw[rwl (this ..) ?_]
   exact SeqAt.RcAt.lists_lengths ha.isList hb.isList (by simp;lia) hu
theorem Zku{A:Around}{h:Shared}{a b:List Value}{x y:List (List (List Nat))}{P P':Addr->Prop}(hu:A.units < cLine)(r:Zad P h.heap a (x.map λl=>.list (l.map .str)))(q:Zad P' h.heap b (y.map λl=>.list (l.map .str)))(hl:x.length=y.length) :
  ∃e:Nat->Bool,(∀j (h1:j < a.toArray.size) (h2:j < b.toArray.size),SeqAt.EqAt A h a.toArray[j] b.toArray[j] (e j))∧(List.range a.toArray.size).all e=(x==y):=by
 have e1:=r.length
 have e2:=q.length
 simp at e1 e2
 refine⟨λj=>x[j]?==y[j]?,λj h1 h2=>?_,?_⟩
 ·simp at h1 h2
  have hx:x[j]? = some x[j]:=List.getElem?_eq_getElem (by lia)
  have hy:y[j]? = some y[j]:=List.getElem?_eq_getElem (by lia)
  obtain⟨v,e3,rv⟩:=r.get (i:=j) (d:=.list (x[j].map .str)) (by simp[hx])
  obtain⟨u,e4,ru⟩:=q.get (i:=j) (d:=.list (y[j].map .str)) (by simp[hy])
  have e5:a[j]=v:=by rw[List.getElem?_eq_getElem (by lia)] at e3;exact Option.some.inj e3
  have e6:b[j]=u:=by rw[List.getElem?_eq_getElem (by lia)] at e4;exact Option.some.inj e4
  have e7:(x[j]?==y[j]?)=(x[j]==y[j]):=by erw[rwl (hx ..) (rwl (hy ..) ?_)];rfl
  show SeqAt.EqAt A h a.toArray[j] b.toArray[j] (x[j]?==y[j]?)
  erw[rwl (e7 ..) ?_]
  simp only[List.getElem_toArray,e5,e6]
  exact ZlC hu rv ru
 ·have:=Zia (λj=>x[j]?==y[j]?) x y 0 hl (λj u v h1 h2=>by simp[h1,h2])
  erw[rwl (List.size_toArray ..) (rwl (e1 ..) (rwl (List.range_eq_range' ..) (rwl (this ..) ?_)))]
theorem units_in1{A:Around}{n:Nat}(L:Lv A n):A.in1.units < cLine:=by
 have h:=L.un
 have e:cLine=9900:=rfl
 show A.units+1 < cLine
 lia
noncomputable def Zrl(prog:Program)(w:World)(A:Around)(E:Value->Shared->Prop)(s:Shared)(o p:CmpOp)(va vb:Value)(c:Bool):Prop:=
 (∀Q:Value->Shared->Prop,Q (.bool c) s->wpAny (model prog w) A (compareOp o va vb) Q E s)∧(∀Q:Value->Shared->Prop,Q (.bool !c) s->wpAny (model prog w) A (compareOp p va vb) Q E s)
theorem ZnU{n:Nat}(L:Lv A n){a b:List D}{i j:Addr}{vs us:List Value}(hi:s.heap.PlainList i vs.toArray)(rv:Zad P s.heap vs a)(hj:s.heap.PlainList j us.toArray)(ru:Zad P s.heap us b){c:Bool}(h:Zum a b=some c):Zrl prog w A E s .Eq .NotEq (.ref i) (.ref j) c:=by
 have hu:=ZkS L
 have len:∀c,c=false->vs.length≠us.length->Zrl prog w A E s .Eq .NotEq (.ref i) (.ref j) c:=λc hc hl=>by
  erw[rwl (hc ..) ?_]
  exact⟨λQ q=>SeqAt.eq_list_lengthsAt hi.isList hj.isList (bne_iff_ne.mpr hl) hu q,λQ q=>SeqAt.RcNeAt.lists_lengths hi.isList hj.isList (bne_iff_ne.mpr hl) hu prog w E Q q⟩
 have same:∀{e:Nat->Bool} {c},(List.range vs.toArray.size).all e=c->vs.length=us.length->(∀j (h1:j < vs.toArray.size) (h2:j < us.toArray.size),SeqAt.EqAt A.in1 s vs.toArray[j] us.toArray[j] (e j))->Zrl prog w A E s .Eq .NotEq (.ref i) (.ref j) c:=λhc hl he=>
  ⟨λQ q=>SeqAt.eq_listAt hi.isList hj.isList hl hu he (hc▸q),λQ q=>SeqAt.RcNeAt.lists hi.isList hj.isList hl hu he prog w E Q (hc▸q)⟩
 unfold Zum at h
 cases b with
 | nil=>
  have eu:=ru.nil_inv
  cases a with
  | nil=>
   have ev:=rv.nil_inv
   refine eqs h (same (e:=λ_=>true) (by erw[rwl (ev ..) ?_];rfl) (by erw[rwl (eu ..) (rwl (ev ..) ?_)]) λj h1 _=>?_)
   rw[ev] at h1
   exact absurd h1 (Nat.not_lt_zero _)
  | cons x y=>exact len _ (Option.some.inj h).symm (by erw[rwl (rv.length ..) (rwl (eu ..) ?_)];exact Nat.succ_ne_zero _)
 | cons b0 b1=>
  refine Zac (show(Zew a).bind _=_ from h) λx hx h=>Zac h λy hy h=>?_
  have ea:=Zfq hx
  have eb:=Zfq hy
  rw[ea] at rv
  rw[eb] at ru
  have e1:=rv.length
  have e2:=ru.length
  rw[List.length_map] at e1 e2
  by_cases hl:x.length=y.length
  ·obtain⟨e,he,hall⟩:=Zku (A:=A.in1) (h:=s) (units_in1 L) rv ru hl
   exact eqs h (same hall (by erw[rwl (e1 ..) (rwl (e2 ..) (rwl (hl ..) ?_))]) he)
  ·exact len _ ((Option.some.inj h).symm.trans (beq_eq_false_iff_ne.mpr λq=>hl (by erw[rwl (q ..) ?_]))) (by erw[rwl (e1 ..) (rwl (e2 ..) ?_)];exact hl)
theorem s_eq{n:Nat}(L:Lv A n){a b:D}{va vb:Value}(ra:Rd0 P s.heap va a)(rb:Rd0 P s.heap vb b){c:Bool}(h:eqD a b=some c):Zrl prog w A E s .Eq .NotEq va vb c:=by
 cases a with
 | int a=>
  revert rb
  refine Za3 (show intD _ b=_ from h) λb h=>eqs h λrb=>ra.Za0 λ_=>rb.Za0 λ_=>?_
  exact⟨λQ q=>PyProof.Rows.eq_int q,λQ q=>PyProof.Rows.ne_int q⟩
 | str a=>
  revert rb
  refine ZbG (show Zd4 _ b=_ from h) λb h=>eqs h λrb=>ra.Zba λ_ _=>rb.Zba λ_ _=>?_
  erw[rwr (Zg3 ..) ?_]
  exact⟨λQ q=>PyProof.Rows.eq_str q,λQ q=>PyProof.Rows.ne_str q⟩
 | bool a=>
  revert rb
  refine ZmC (show Zkv _ b=_ from h) λb h=>eqs h λrb=>ra.ZmX (rb.ZmX ?_)
  exact⟨λQ q=>PyProof.Rows.eq_bool q,λQ q=>SeqAt.RcNeAt.bool_bool _ _ prog w E Q q⟩
 | list a=>
  revert rb
  exact Zdr (show ZdR _ b=_ from h) λb h rb=>ra.ZbL λi vs hi rv _=>rb.ZbL λj us hj ru _=>ZnU L hi rv hj ru h
 | _=>exact nn h
end
end
section
set_option backward.match.sparseCases false
theorem Zht:∀a b:List Nat,ltL a b=decide (a < b)
 | [],[]=>by simp[ZtW,Zt0,ZuY]
 | [],_::_=>by simp[ZtW,Zt0,ZuY]
 | _::_,[]=>by simp[ZtW,Zt0,ZuY]
 | x::a,y::b=>by
  erw[rwl (ZvY ..) (rwl (Zht a b ..) (rwl (propext (Bool.eq_iff_iff ..)) ?_))]
  by_cases h1:x < y
  ·simp[h1,List.cons_lt_cons_iff]
  ·by_cases h2:x=y
   ·simp[h2,List.cons_lt_cons_iff]
   ·simp[h1,h2,List.cons_lt_cons_iff]
noncomputable def isV(y:List Nat):Value->Bool
 | .str x _=>x.cps.toList==y
 | _=>false
noncomputable def isB(y:Bool):Value->Bool
 | .bool x=>x==y
 | _=>false
theorem ZlZ{h:Heap}{P:Addr->Prop}{α:Type}[BEq α][LawfulBEq α]{f:α->D}{p:Value->Bool}{y:α}(hp:∀{v x},Rd P h v (f x)->p v=(y==x)):∀{ls:List α} {vs:List Value},Zad P h vs (ls.map f)->vs.toArray.any p=ls.contains y
 | [],_,r=>by erw[rwl (r.nil_inv ..) (rwl (List.any_toArray ..) ?_)];rfl
 | x::ls,_,r=>r.Zd0 λv vs r1 r2=>by
  have ih:=ZlZ hp r2
  rw[List.any_toArray] at ih ⊢
  erw[rwl (List.any_cons ..) (rwl (List.contains_cons ..) (rwl (ih ..) (rwl (hp r1 ..) ?_)))]
theorem ZlT{h:Heap}{P:Addr->Prop}{y:List Nat}{vs:List Value}{ls:List (List Nat)}(r:Zad P h vs (ls.map .str)):vs.toArray.any (isV y)=ls.contains y:=ZlZ (λr=>r.Zba λ_ _=>Bool.beq_comm) r
theorem ZqW{h:Heap}{P:Addr->Prop}{y:Bool}{vs:List Value}{ls:List Bool}(r:Zad P h vs (ls.map .bool)):vs.toArray.any (isB y)=ls.contains y:=ZlZ (λr=>by erw[rwl (r.bool_inv ..) ?_];exact Bool.beq_comm) r
theorem Zl0{h:Shared}{A:Around}{P:Addr->Prop}{α:Type}{f:α->D}{p:Value->Bool}{x:Value}(hp:∀{v l},Rd P h.heap v (f l)->SeqAt.EqAt A h v x (p v)){vs:List Value}{ls:List α}(r:Zad P h.heap vs (ls.map f))(v:Value)(hv:v∈vs.toArray):SeqAt.EqAt A h v x (p v):=by
 obtain⟨i,hi,e⟩:=List.mem_iff_getElem.mp (Array.mem_def.mp hv:v∈vs)
 obtain⟨d,hd,rv⟩:=r.Zu5 ((List.getElem?_eq_getElem hi).trans (congrArg some e))
 rw[List.getElem?_map] at hd
 exact ZdW hd λl _ e=>hp (e▸rv)
theorem Zgs{h:Shared}{A:Around}{P P':Addr->Prop}{y:List Nat}{x:Value}(q:Rd P' h.heap x (.str y)){vs:List Value}{ls:List (List Nat)}(r:Zad P h.heap vs (ls.map .str)):∀v∈vs.toArray,SeqAt.EqAt A h v x (isV y v):=
 Zl0 (λ{v l} rv=>by
  have e:isV y v=(l==y):=rv.Zba λ_ _=>rfl
  erw[rwl (e ..) ?_]
  exact Zjl rv q) r
theorem Zot{h:Shared}{A:Around}{P P':Addr->Prop}{y:Bool}{x:Value}(q:Rd P' h.heap x (.bool y)){vs:List Value}{ls:List Bool}(r:Zad P h.heap vs (ls.map .bool)):∀v∈vs.toArray,SeqAt.EqAt A h v x (isB y v):=
 Zl0 (λ{v l} rv=>by
  have e:isB y v=(l==y):=by erw[rwl (rv.bool_inv ..) ?_];rfl
  erw[rwl (e ..) ?_]
  exact ZlH rv q) r
section
variable {prog:Program}{w:World}{A:Around}{E:Value->Shared->Prop}{s:Shared}{P:Addr->Prop}{base:Addr->Prop}{mg mb:Str->Option Value}{Gd:Heap->Prop}
theorem Zvk{a b:D}{va vb:Value}(ra:Rd0 P s.heap va a)(rb:Rd0 P s.heap vb b){c:Bool}(h:inD a b=some c):Zrl prog w A E s .In .NotIn va vb c:=by
 have inl:∀{i vs p c},s.heap.PlainList i vs->vs.any p=c->(∀v∈vs,SeqAt.EqAt A.in1 s v va (p v))->Zrl prog w A E s .In .NotIn va (.ref i) c:=λhi hc he=>
  ⟨λQ q=>SeqAt.in_listAt _ hi.isList he (hc▸q),λQ q=>SeqAt.notIn_listAt _ hi.isList he (hc▸q)⟩
 cases a with
 | str y=>
  have h:inS y b=some c:=h
  cases b with
  | str l=>
   revert ra
   refine ZnW h λx h=>eqs h λra=>ra.Zba λ_ _=>rb.Zba λ_ _=>?_
   have e:=StrLaws.found_one ⟨l.toArray⟩ x
   have e2:decide (x∈(⟨l.toArray⟩:Str).cps.toList)=l.contains x:=by simp
   rw[e2] at e
   erw[rwr (e ..) ?_]
   exact⟨λQ q=>PyProof.Rows.in_str q,λQ q=>PyProof.Rows.notIn_str q⟩
  | list l=>
   refine Zds h λls hl=>rb.ZbL λi vs hi rv _=>?_
   rw[Zcs hl] at rv
   exact inl hi (ZlT rv) (Zgs ra.str rv)
  | tuple l=>
   refine Zds h λls hl=>rb.Zc1 λi vs _ hi rv _=>?_
   rw[Zcs hl] at rv
   erw[rwr (ZlT rv ..) ?_]
   exact⟨λQ q=>SeqAt.in_tupleAt _ hi.isTuple (Zgs ra.str rv) q,λQ q=>SeqAt.notIn_tupleAt _ hi.isTuple (Zgs ra.str rv) q⟩
  | _=>exact nn h
 | bool y=>
  revert rb
  refine Zdr (show ZdR _ b=_ from h) λl h=>Zds h λls hl rb=>rb.ZbL λi vs hi rv _=>?_
  rw[ZhS hl] at rv
  exact inl hi (ZqW rv) (Zot ra.bool rv)
 | _=>exact nn h
theorem Zvc{a b:D}{va vb:Value}(ra:Rd0 P s.heap va a)(rb:Rd0 P s.heap vb b){c:Bool}(h:isD a b=some c):Zrl prog w A E s .Is .IsNot va vb c:=by
 cases a with
 | obj a=>
  revert rb
  refine Zpg (show Zso _ b=_ from h) λb h=>ifS h λe h=>eqs h λrb=>ra.ZkC (rb.ZkC ?_)
  erw[rwl (e ..) ?_]
  exact⟨λQ q=>wpAny_is_ref_self q,λQ q=>wpAny_isNot_ref_self q⟩
 | str a=>
  revert rb
  refine Zpg (show Zso _ b=_ from h) λb h=>eqs h λrb=>ra.Zba λ_ _=>rb.ZkC ?_
  exact⟨λQ q=>wpAny_is_other rfl (by nofun) q,λQ q=>wpAny_isNot_other rfl (by nofun) q⟩
 | _=>exact nn h
theorem Zn6{f:Int->Int->Bool}{g:List Nat->List Nat->Bool}{a b:D}{va vb:Value}{o:CmpOp}(ra:Rd0 P s.heap va a)(rb:Rd0 P s.heap vb b){c:Bool}(h:Zr2 f g a b=some c){Q:Value->Shared->Prop}(q:Q (.bool c) s)
  (ki:∀x y t u,Q (.bool (f x y)) s->wpAny (model prog w) A (compareOp o (.int x t) (.int y u)) Q E s) (ks:∀x y t u,Q (.bool (g x y)) s->wpAny (model prog w) A (compareOp o (.str ⟨x.toArray⟩ t) (.str ⟨y.toArray⟩ u)) Q E s):wpAny (model prog w) A (compareOp o va vb) Q E s:=by
 cases a with
 | int a=>
  revert rb q
  exact Za3 (show intD _ b=_ from h) λb h=>eqs h λrb q=>ra.Za0 λ_=>rb.Za0 λ_=>ki _ _ _ _ q
 | str a=>
  revert rb q
  exact ZbG (show Zd4 _ b=_ from h) λb h=>eqs h λrb q=>ra.Zba λ_ _=>rb.Zba λ_ _=>ks _ _ _ _ q
 | _=>exact nn h
theorem ZkQ{n:Nat}(L:Lv A n){op:Cop}{a b:D}{va vb:Value}(ra:Rd0 P s.heap va a)(rb:Rd0 P s.heap vb b){c:Bool}(h:cop op a b=some c){Q:Value->Shared->Prop}(q:Q (.bool c) s) :
  wpAny (model prog w) A (compareOp op.op va vb) Q E s:=by
 cases op with
 | eq=>
  have eq:eqD a b=some c->wpAny (model prog w) A (compareOp .Eq va vb) Q E s:=λh=>(s_eq L ra rb h).1 Q q
  cases a with
  | tuple a=>
   revert rb q
   refine ZbG (show Zd4 _ b=_ from h) λb h=>eqs h λrb q=>ra.Zc1 λi vs _ ht _ _=>rb.Zba λt _=>?_
   exact SeqAt.RcAt.tuple_str _ t ht.isTuple (ZkS L) prog w E Q q
  | _=>exact eq h
 | ne=>revert q;exact Zds (show(eqD a b).map _=_ from h) λx h q=>(s_eq L ra rb h).2 Q q
 | lt=>exact Zn6 ra rb h q (λ_ _ _ _ q=>PyProof.Rows.lt_int q) λ_ _ _ _ q=>PySem.P.lt_str (Zht _ _▸q)
 | le=>exact Zn6 ra rb h q (λ_ _ _ _ q=>PyProof.Rows.le_int q) λ_ _ _ _ q=>PySem.P.le_str (Zht _ _▸q)
 | gt=>exact Zn6 ra rb h q (λ_ _ _ _ q=>PyProof.Rows.gt_int q) λ_ _ _ _ q=>PySem.P.gt_str (Zht _ _▸q)
 | ge=>exact Zn6 ra rb h q (λ_ _ _ _ q=>PyProof.Rows.ge_int q) λ_ _ _ _ q=>PySem.P.ge_str (Zht _ _▸q)
 | isin=>exact(Zvk ra rb h).1 Q q
 | notin=>revert q;exact Zds (show(inD a b).map _=_ from h) λx h q=>(Zvk ra rb h).2 Q q
 | is_=>exact(Zvc ra rb h).1 Q q
 | isnt=>revert q;exact Zds (show(isD a b).map _=_ from h) λx h q=>(Zvc ra rb h).2 Q q
theorem Zn1{a:D}{v:Value}(r:Rd0 P s.heap v a)(o:Ok Gd s){b:Bool}(h:tru a=some b){Q:Bool->Shared->Prop}(q:∀s',Gw s s'->Ok Gd s'->s'.heap=s.heap->Q b s'):wpAny (model prog w) A (truthy v) Q E s:=by
 have t2:Ok Gd { s with toks:=s.toks+1+1 }:=⟨o.gd,Nat.le_succ_of_le (Nat.le_succ_of_le o.tk)⟩
 have hz:sizeLine=16777216:=rfl
 revert q
 cases a with
 | none=>erw[rwl (r.none_inv ..) ?_];exact eqs h λq=>wpAny_pure (q s (.refl _) o rfl)
 | bool x=>exact r.ZmX (eqs h λq=>wpAny_truthy_bool (q s (.refl _) o rfl))
 | str l=>
  refine r.Zba λt hl=>eqs h λq=>?_
  refine PySem.P.truthy_str (by erw[rwl (str_len ..) ?_];lia) ?_
  have e:(((⟨l.toArray⟩:Str).length:Int) != 0) = !l.isEmpty:=by
   erw[rwl (str_len ..) ?_]
   cases l with
   | nil=>rfl
   | cons=>rfl
  erw[rwl (e ..) ?_]
  exact q _ (.tok ..) t2 rfl
 | list l=>
  refine r.ZbL λi vs hi rv hl=>eqs h λq=>?_
  refine wpAny_truthy_list hi.isList (by erw[rwl (List.size_toArray ..) (rwl (rv.length ..) ?_)];lia) ?_
  have e:(!vs.toArray.isEmpty) = !l.isEmpty:=by
   cases l with
   | nil=>erw[rwl (rv.nil_inv ..) ?_];rfl
   | cons=>exact rv.Zd0 λ_ _ _ _=>rfl
  erw[rwl (e ..) ?_]
  exact q _ (.tok ..) t2 rfl
 | _=>exact nn h
end
end
section
theorem Zlb{n:Nat}{i:Int}{k:Nat}{G:Prop}(h:idxOf n i=some k)(kp:0<=i->i < n->i.toNat=k->G)(kn:i < 0->0<=i+n->(i+n).toNat=k->G):G:=by
 unfold idxOf at h
 by_cases q:0<=i
 ·rw[if_pos q] at h
  exact ifS h λq2 e=>kp q q2 (Option.some.inj e)
 ·rw[if_neg q] at h
  exact ifS h λq2 e=>kn (Int.not_le.mp q) q2 (Option.some.inj e)
theorem Zdj{n:Nat}{i:Int}{k:Nat}(h:idxOf n i=some k):seqIndex? i n=some k∧k < n:=by
 refine Zlb h (λh0 h1 e=>?_) λh0 h1 e=>?_
 ·have h2 : ¬i < 0:=Int.not_lt.mpr h0
  have:k < n:=by lia
  refine⟨?_,this⟩
  simp[seqIndex?,h2,h1,h0,e]
 ·have:k < n:=by lia
  refine⟨?_,this⟩
  have h2:i+n < n:=by lia
  simp[seqIndex?,h0,h1,h2,e]
theorem Ze0{i:Int}(h:ZdI i=true) : -1000000000<=i∧i<=1000000000:=of_decide_eq_true h
theorem szv:sizeLine=16777216:=rfl
section
variable {prog:Program}{w:World}{A:Around}{E:Value->Shared->Prop}{s:Shared}{P:Addr->Prop}{base:Addr->Prop}{mg mb:Str->Option Value}{Gd:Heap->Prop}{Q:Value->Shared->Prop}
theorem Zs0{a b d:D}{va vb:Value}(o:Ok Gd s)(ra:Rd0 P s.heap va a)(rb:Rd0 P s.heap vb b)(h:ZmQ a b=some d)(k:Kc Gd P d Q s) :
  wpAny (model prog w) A (getItem va vb) Q E s:=by
 have hz:=szv
 cases a with
 | str l=>
  revert rb
  refine Za3 (show intD _ b=_ from h) λi h=>ifS h λhi h=>Zac h λj hx h=>ZdW h λc hc e rb=>ra.Zba λ_ hl=>rb.Za0 λ_=>?_
  have hi:=Ze0 hi
  obtain⟨hs,hj⟩:=Zdj hx
  refine PyProof.Rows.getItem_str (c:=c) (by simp;lia) (by erw[rwl (str_len ..) (rwl (hs ..) ?_)];exact(List.getElem?_toArray ..).trans hc) (k.ZkI o ?_)
  exact e▸.str [c] _ (by erw[rwl (hz ..) ?_];exact Nat.le_of_ble_eq_true rfl)
 | list l=>
  revert rb
  refine Za3 (show intD _ b=_ from h) λi h=>ifS h λhi h=>Zac h λj hx h rb=>ra.ZbL λa vs hl rv hz=>rb.Za0 λ_=>?_
  have hi:=Ze0 hi
  have e1:=rv.length
  obtain⟨v,hv,rd⟩:=rv.get h
  have hv':vs.toArray[j]? = some v:=(List.getElem?_toArray ..).trans hv
  have hq:Q v s:=k.same o rd
  refine Zlb hx (λh0 h1 e=>?_) λh0 h1 e=>?_
  ·exact wpAny_getItem_list hl.isList (by lia) (by lia) (by erw[rwl (e ..) ?_];exact hv') hq
  ·exact wpAny_getItem_list_neg hl.isList (by lia) (by erw[rwl (List.size_toArray ..) (rwl (e1 ..) ?_)];lia) (by lia) (by erw[rwl (List.size_toArray ..) (rwl (e1 ..) (rwl (e ..) ?_))];exact hv') hq
 | tuple l=>
  revert rb
  refine Za3 (show intD _ b=_ from h) λi h=>ifS h λhi h=>Zac h λj hx h rb=>ra.Zc1 λa vs _ hl rv hz=>rb.Za0 λ_=>?_
  have hi:=Ze0 hi
  obtain⟨n,hl⟩:=hl
  obtain⟨v,hv,rd⟩:=rv.get h
  obtain⟨hs,hj⟩:=Zdj hx
  exact PySem.P.getItem_tuple hl (by lia) (by lia) (by erw[rwl (List.size_toArray ..) (rwl (rv.length ..) ?_)];exact hs) ((List.getElem?_toArray ..).trans hv) (k.same o rd)
 | _=>exact nn h
theorem ZdL(a b:Nat):sliceRange (a:Int) (b:Int) 1=List.range' a (b - a):=by
 have e:(if(a:Int) < b then((b:Int) - a+1 - 1) / 1 else 0).toNat=b - a:=by
  erw[rwl (Int.ediv_one ..) (rwl (Int.add_sub_cancel ..) ?_)]
  rcases Nat.lt_or_ge a b with h | h
  ·erw[rwl (if_pos (Int.ofNat_lt.mpr h) ..) (rwr (Int.ofNat_sub (Nat.le_of_lt h) ..) ?_)];rfl
  ·erw[rwl (if_neg (Int.not_lt.mpr (Int.ofNat_le.mpr h)) ..) (rwl (Nat.sub_eq_zero_of_le h ..) ?_)];rfl
 show(List.range (if(a:Int) < b then((b:Int) - a+1 - 1) / 1 else 0).toNat).map (λ(k:Nat)=>((a:Int)+1 * (k:Int)).toNat)=_
 erw[rwl (e ..) (rwl (List.range'_eq_map_range ..) ?_)]
 exact List.map_congr_left λk _=>by erw[rwl (Int.one_mul ..) (rwr (Int.natCast_add ..) ?_)];rfl
theorem Zgf{α:Type}(l:List α):∀(m a:Nat),a+m<=l.length->(List.range' a m).filterMap (λi=>l[i]?)=(l.drop a).take m
 | 0,_,_=>rfl
 | m+1,a,h=>by
  have ha:a < l.length:=Nat.lt_of_lt_of_le (Nat.lt_add_of_pos_right (Nat.succ_pos m)) h
  rw[List.range'_succ,List.filterMap_cons,List.getElem?_eq_getElem ha,Zgf l m (a+1) (by lia),List.drop_eq_getElem_cons ha]
  rfl
theorem ZeE(a b:Nat)(n:Nat)(hb:b<=n){α:Type}(l:List α)(hl:l.length=n) :
  (sliceRange (a:Int) (b:Int) 1).filterMap (λi=>l[i]?)=(l.take b).drop a:=by
 erw[rwl (ZdL ..) (rwl (List.drop_take ..) ?_)]
 rcases Nat.le_total a b with h | h
 ·exact Zgf l _ _ (by lia)
 ·erw[rwl (Nat.sub_eq_zero_of_le h ..) ?_];rfl
theorem Zld(n:Nat)(i:Int):max 0 (min (if i < 0 then i+n else i) (n:Int))=((min (Zdy n i) n:Nat):Int):=by
 unfold Zdy
 by_cases h:i < 0
 ·erw[rwl (if_pos h ..) (rwl (if_pos h ..) ?_)]
  have hn:i+n<=n:=by lia
  erw[rwl (Int.min_eq_left hn ..) ?_]
  rcases Int.le_total 0 (i+n) with q | q
  ·obtain⟨k,e⟩:=Int.eq_ofNat_of_zero_le q
   rw[e] at hn ⊢
   erw[rwl (Int.max_eq_right (Int.natCast_nonneg k) ..) (rwl (Int.toNat_natCast ..) (rwl (Nat.min_eq_left (Int.ofNat_le.mp hn) ..) ?_))]
  ·erw[rwl (Int.max_eq_left q ..) (rwl (Int.toNat_of_nonpos q ..) (rwl (Nat.zero_min ..) ?_))];rfl
 ·erw[rwl (if_neg h ..) (rwl (if_neg h ..) ?_)]
  obtain⟨k,rfl⟩:=Int.eq_ofNat_of_zero_le (Int.not_lt.mp h)
  erw[rwl (Int.toNat_natCast ..) (rwl (Nat.min_assoc ..) (rwl (Nat.min_self ..) (rwl (Int.max_eq_right (Int.le_min.mpr ⟨Int.natCast_nonneg k,Int.natCast_nonneg n⟩) ..) ?_)))]
  rcases Nat.le_total k n with q | q
  ·erw[rwl (Nat.min_eq_left q ..) (rwl (Int.min_eq_left (Int.ofNat_le.mpr q) ..) ?_)]
  ·erw[rwl (Nat.min_eq_right q ..) (rwl (Int.min_eq_right (Int.ofNat_le.mpr q) ..) ?_)]
theorem ZrQ(n:Nat)(lo:Option Int):(lo.map λ(i:Int)=>max 0 (min (if i < 0 then i+(n:Int) else i) (n:Int))).getD 0=((min ((lo.map (Zdy n)).getD 0) n:Nat):Int):=by
 cases lo with
 | none=>exact congrArg Nat.cast (Nat.zero_min n).symm
 | some i=>exact Zld n i
theorem Zsk(n:Nat)(hi:Option Int):(hi.map λ(i:Int)=>max 0 (min (if i < 0 then i+(n:Int) else i) (n:Int))).getD (n:Int)=((min ((hi.map (Zdy n)).getD n) n:Nat):Int):=by
 cases hi with
 | none=>exact congrArg Nat.cast (Nat.min_self n).symm
 | some i=>exact Zld n i
theorem Zk8{α:Type}(l:List α)(a b:Nat):(l.take (min b l.length)).drop (min a l.length)=(l.take b).drop a:=by
 erw[rwr (List.take_eq_take_min ..) ?_]
 rcases Nat.le_total a l.length with h | h
 ·erw[rwl (Nat.min_eq_left h ..) ?_]
 ·erw[rwl (Nat.min_eq_right h ..) (rwl (List.drop_of_length_le (List.length_take_le' _ _) ..) (rwl (List.drop_of_length_le (Nat.le_trans (List.length_take_le' _ _) h) ..) ?_))]
theorem Zep{α:Type}(l:List α)(lo hi:Option Int) :
  (sliceRange ((lo.map λi=>max 0 (min (if i < 0 then i+(l.length:Int) else i) (l.length:Int))).getD 0) ((hi.map λi=>max 0 (min (if i < 0 then i+(l.length:Int) else i) (l.length:Int))).getD (l.length:Int)) 1).filterMap (λi=>l[i]?)=slice l lo hi:=by
 erw[rwl (ZrQ ..) (rwl (Zsk ..) (rwl (ZeE _ _ l.length (Nat.min_le_right _ _) l rfl ..) ?_))]
 exact Zk8 l _ _
theorem Zhb{α:Type}(l:List α)(lo hi:Option Int):(slice l lo hi).length<=l.length:=
 Nat.le_trans (List.length_drop▸Nat.sub_le _ _) (List.length_take_le' _ _)
theorem Zg9(vs:List Value)(lo hi:Option Int):slicePick vs.toArray lo hi none=(slice vs lo hi).toArray:=by
 unfold slicePick sliceBounds
 erw[rwr (Zep vs lo hi ..) ?_]
 simp only[Option.getD_none,show(1:Int) > 0 by decide,if_true]
 congr 1
 cases lo<;>cases hi<;>simp
theorem Zad.slice{h:Heap}{vs:List Value}{ds:List D}(r:Zad P h vs ds)(lo hi:Option Int):Zad P h (slice vs lo hi) (slice ds lo hi):=by
 unfold Mine.Internal.slice
 erw[rwl (r.length ..) ?_]
 exact(r.take _).drop _
theorem Zj0(l:List Nat)(t:Tok)(lo hi:Option (Int×Tok)):(slicePicked ⟨l.toArray⟩ lo hi none).filterMap ((⟨l.toArray⟩:Str).cps[·]?)=slice l (lo.map (·.1)) (hi.map (·.1)):=by
 unfold slicePicked Builtin.Str.strSliceIndices
 erw[rwr (Zep l ..) ?_]
 simp only[Option.map_none,Option.getD_none,show(1:Int) > 0 by decide,if_true,str_len]
 cases lo<;>cases hi<;>simp
theorem ZfL(a b:Nat):(sliceRange (a:Int) (b:Int) 1).length=b - a:=by erw[rwl (ZdL ..) (rwl (List.length_range' ..) ?_)]
theorem Zpk{H L n:Nat}(h:min H n - min L n=n):min H n - L=n:=by
 rcases Nat.le_total L n with q | q
 ·rw[Nat.min_eq_left q] at h;exact h
 ·rw[Nat.min_eq_right q] at h
  have:n=0:=by have:=Nat.min_le_right H n;lia
  erw[rwl (this ..) (rwl (Nat.min_zero ..) (rwl (Nat.zero_sub ..) ?_))]
theorem Zlg{H L n:Nat}(h:min H n - L=n)(h0:n≠0):n<=H∧L=0:=by
 have:=Nat.min_le_right H n
 have:=Nat.min_le_left H n
 lia
theorem Zmc{α:Type}(l:List α)(lo hi:Option Int)(h:(slice l lo hi).length=l.length):slice l lo hi=l:=by
 unfold slice at h ⊢
 rw[List.length_drop,List.length_take] at h
 by_cases h0:l.length=0
 ·erw[rwl (List.length_eq_zero_iff.mp h0 ..) (rwl (List.take_nil ..) (rwl (List.drop_nil ..) ?_))]
 ·obtain⟨h1,h2⟩:=Zlg h h0
  erw[rwl (List.take_of_length_le h1 ..) (rwl (h2 ..) (rwl (List.drop_zero ..) ?_))]
theorem ZiF(l:List Nat)(lo hi:Option (Int×Tok))(h:(slicePicked ⟨l.toArray⟩ lo hi none).length=l.length):slice l (lo.map (·.1)) (hi.map (·.1))=l:=by
 have e:slicePicked ⟨l.toArray⟩ lo hi none=sliceRange (((lo.map (·.1)).map λi=>max 0 (min (if i < 0 then i+(l.length:Int) else i) (l.length:Int))).getD 0) (((hi.map (·.1)).map λi=>max 0 (min (if i < 0 then i+(l.length:Int) else i) (l.length:Int))).getD (l.length:Int)) 1:=by
  cases lo<;>cases hi<;>rfl
 rw[e,ZrQ,Zsk,ZfL] at h
 refine Zmc l _ _ ?_
 unfold slice
 erw[rwl (List.length_drop ..) (rwl (List.length_take ..) ?_)]
 exact Zpk h
theorem ZjV{v:Value}{x:D}{y:Option Int}(r:Rd0 P s.heap v x)(e:ZjO x=some y):∃z:Option (Int×Tok),v=partValue z∧z.map (·.1)=y∧IsPart v y:=by
 cases x with
 | none=>exact eqs e (r.none_inv▸⟨none,rfl,rfl,.none⟩)
 | int i=>exact eqs e (r.Za0 λt=>⟨some (i,t),rfl,rfl,.int _ _⟩)
 | _=>exact nn e
set_option tactic.hygienic true in
theorem Zt7(G:Gr base mg mb Gd){a lo hi d:D}{va vl vu:Value}{sl:Addr}(o:Ok Gd s)(hP:Pf P s.heap)(ra:Rd0 P s.heap va a)(rl:Rd0 P s.heap vl lo)(ru:Rd0 P s.heap vu hi)
  (hs:s.heap.get? sl=some { cls:=.type "slice",data:=.fields #[vl,vu,.none] }) (h:ZuK a lo hi=some d) (k:Kc Gd P d Q s) :
  wpAny (model prog w) A (getItem va (.ref sl)) Q E s:=by
 refine Zac h λlo' e1 h=>Zac h λhi' e2 h=>?_
 obtain⟨zl,el,hzl,pl⟩:=ZjV rl e1
 obtain⟨zu,eu,hzu,pu⟩:=ZjV ru e2
 revert k
 cases a with
 | str l=>
  refine eqs h λk=>ra.Zba λt hl=>?_
  rw[el,eu] at hs
  refine wpAny_getItem_str_slice (l:=zl) (u:=zu) (st:=none) ⟨_,hs,rfl,rfl⟩ rfl ?_
  unfold sliceMade
  rw[←hzl,←hzu] at k
  split
  ·rename_i hc
   rw[ZiF l zl zu ((eq_of_beq hc).trans (str_len l))] at k
   exact k.same o (.str _ _ hl)
  ·erw[rwl (Zj0 l t zl zu ..) ?_]
   have hlen:=Nat.le_trans (Zhb l (zl.map (·.1)) (zu.map (·.1))) hl
   exact⟨str_len _▸hlen,k.ZkI o (.str _ _ hlen)⟩
 | list l=>
  refine eqs h λk=>ra.ZbL λa vs hl rv hz=>?_
  have e3:=rv.slice lo' hi'
  have hlen:=Nat.le_trans (Zhb l lo' hi') hz
  refine wpAny_getItem_list_slice hl.isList ⟨_,hs,rfl,rfl⟩ pl pu .none (by simp) (k.push o G ?_) (by erw[rwl (List.size_toArray ..) (rwl (rv.length ..) ?_)];exact hz)
  refine .list (vs:=Mine.Internal.slice vs lo' hi') (hP.fresh (Zau _)) ⟨0,?_⟩ (e3.kp (.push _ _)) hlen
  erw[rwl (Heap.get?_push_size _ rfl ..) (rwl (Zg9 ..) ?_)]
 | _=>exact nn h
end
end
section
open PySem.Builtin PySem.Builtin.Str PySem.StrLaws
theorem Zit(x y:Str)(lo hi limit:Nat)(hl:1<=limit) :
  (occurrences x y lo hi limit=[]∧∀i,lo<=i->¬At x y hi i)∨
  ∃i r,occurrences x y lo hi limit=i::r∧lo<=i∧At x y hi i∧∀k,lo<=k->k < i->¬At x y hi k:=by
 rw[occ_eq]
 rcases occ_first x y hi limit hl (List.range' lo (hi+1 - lo)) lo (λi hi=>(List.mem_range'_1.mp hi).1) with⟨h0,hn⟩ | ⟨pre,a,post,e,h0,ha,hn⟩
 ·refine .inl ⟨by rw[h0],λi hlo hi'=>?_⟩
  exact hn i (List.mem_range'_1.mpr (Zul hlo hi'.1)) hi'
 ·obtain⟨h1,h2⟩:=range'_split_from e
  have hne:∀(l:List Nat),l[0]? = some a->∃r,l=a::r:=by
   intro l hl
   cases l with
   | nil=>cases hl
   | cons b r=>simp at hl;exact⟨r,by rw[hl]⟩
  obtain⟨r,hr⟩:=hne (forIn (List.range' lo (hi+1 - lo)) ((#[]:Array Nat),lo) (occBody x y hi limit)).run.fst.toList (by simpa using h0)
  exact .inr ⟨a,r,hr,h1,ha,λk hk hk'=>hn k (h2 k hk hk')⟩
theorem ZjD(l:List Nat)(c lo hi:Nat)(hh:hi<=l.length) :
  (match occurrences ⟨l.toArray⟩ ⟨#[c]⟩ lo hi 1 with | k::_=>(k:Int) | []=>-1)=ZeD c l lo hi:=by
 have at1:∀i,At ⟨l.toArray⟩ ⟨#[c]⟩ hi i↔(i < hi∧l[i]? = some c):=by
  intro i
  have h1:(i+1<=l.length∧subAt ⟨l.toArray⟩ ⟨#[c]⟩ i=true)↔l[i]? = some c:=by
   have h1:=subAt_one ⟨l.toArray⟩ c i
   rw[show(⟨l.toArray⟩:Str).length=l.length from str_len l] at h1
   rw[show(⟨#[c]⟩:Str).length=1 from rfl] at h1
   simpa using h1
  have e1:(⟨#[c]⟩:Str).length=1:=rfl
  unfold At
  rw[e1]
  constructor
  ·intro h;exact⟨by lia,h1.mp ⟨by lia,h.2⟩⟩
  ·intro h;exact⟨by lia,(h1.mpr h.2).2⟩
 unfold ZeD
 rcases Zit ⟨l.toArray⟩ ⟨#[c]⟩ lo hi 1 (Nat.le_refl _) with⟨e,hn⟩ | ⟨i,r,e,h1,h2,h3⟩
 ·rw[e]
  have:(List.range' lo (hi - lo)).find? (λi=>l[i]?==some c)=none:=by
   rw[List.find?_eq_none]
   intro i hi' h
   have:=List.mem_range'_1.mp hi'
   exact hn i (by lia) ((at1 i).mpr ⟨by lia,by simpa using h⟩)
  rw[this]
 ·rw[e]
  have h2':=(at1 i).mp h2
  have:(List.range' lo (hi - lo)).find? (λi=>l[i]?==some c)=some i:=by
   rw[List.find?_range'_eq_some]
   refine⟨by simpa using h2'.2,by rw[List.mem_range'_1];lia,λj hj hj'=>?_⟩
   have:=h3 j hj hj'
   rw[at1] at this
   simp only[Bool.not_eq_true',beq_eq_false_iff_ne,ne_eq]
   intro q;exact this ⟨by lia,q⟩
  rw[this]
theorem Zig(x y:Str)(i j:Int)(t u v z:Tok):Gives («str.find» ⟨[.str x t,.str y u,.int i v,.int j z],[]⟩) (.int (match occurrences x y (fromIndex x.length i) (min (fromIndex x.length j) x.length) 1 with | k::_=>(k:Int) | []=>-1)):=by
 show Gives (match occurrences x y (fromIndex x.length i) (min (fromIndex x.length j) x.length) 1 with | k::_=>retInt k | []=>(do rule "str.find.not-found";retInt (-1))) _
 cases occurrences x y (fromIndex x.length i) (min (fromIndex x.length j) x.length) 1 with
 | nil=>exact .rule (.of_eq rfl)
 | cons k _=>exact .of_eq rfl
noncomputable def Bfn.val:Bfn->Value
 | .len=>.builtin "len" | .chr=>.builtin "chr" | .sum=>.builtin "sum" | .list=>.type "list"
section
variable {prog:Program}{w:World}{A:Around}{E:Value->Shared->Prop}{s:Shared}{P:Addr->Prop}{base:Addr->Prop}{mg mb:Str->Option Value}{Gd:Heap->Prop}{Q:Value->Shared->Prop}
theorem Zgx{n:Nat}{i:Int}(h:0<=i):fromIndex n i=i.toNat:=by unfold fromIndex;erw[rwl (if_neg (Int.not_lt.mpr h) ..) (rwl (Int.max_eq_right h ..) ?_)]
theorem ZqX{l:List Nat}{c:Nat}{i:Int}{va vb vi:Value}(o:Ok Gd s)(ra:Rd0 P s.heap va (.str l))(rb:Rd0 P s.heap vb (.str [c]))(ri:Rd0 P s.heap vi (.int i))(h0:0<=i)(k:Kc Gd P (.int (ZeD c l i.toNat l.length)) Q s) :
  wpAny (model prog w) A (call (.builtin "str.find") [va,vb,vi]) Q E s:=by
 refine ra.Zba λ_ _=>rb.Zba λ_ _=>ri.Za0 λ_=>SC.find3 ?_
 have e:Txt.find3 ⟨l.toArray⟩ ⟨[c].toArray⟩ i=ZeD c l i.toNat l.length:=by
  unfold Txt.find3
  erw[rwl (str_len ..) (rwr (ZjD l c i.toNat l.length (Nat.le_refl _) ..) (rwl (Zgx h0 ..) ?_))]
  rfl
 erw[rwl (e ..) ?_]
 exact k.ZkI o (.int _ _)
theorem Zqo{l:List Nat}{c:Nat}{i j:Int}{va vb vi vj:Value}(o:Ok Gd s)(ra:Rd0 P s.heap va (.str l))(rb:Rd0 P s.heap vb (.str [c]))(ri:Rd0 P s.heap vi (.int i))(rj:Rd0 P s.heap vj (.int j))(h0:0<=i)(h1:0<=j)(h2:j<=l.length)
  (k:Kc Gd P (.int (ZeD c l i.toNat j.toNat)) Q s) :
  wpAny (model prog w) A (call (.builtin "str.find") [va,vb,vi,vj]) Q E s:=by
 refine ra.Zba λ_ _=>rb.Zba λ_ _=>ri.Za0 λ_=>rj.Za0 λ_=>?_
 have hj:j.toNat<=l.length:=Int.toNat_le.mpr h2
 rw[←ZjD l c i.toNat j.toNat hj] at k
 refine call_gives F.slot_str_find (typeIs_str _ _ _) F.entry_str_find (F.args_str_find_4 _ _ _ _) (Zig _ _ i j _ _ _ _) ?_
 erw[rwl (Zgx h0 ..) (rwl (Zgx h1 ..) (rwl (str_len ..) (rwl (Nat.min_eq_left hj ..) ?_)))]
 exact k.ZkI o (.int _ _)
theorem Zfa(xs:List Int):∀m,m<=xs.length->preSum (λj=>xs.getD j 0) m=(xs.take m).sum
 | 0,_=>rfl
 | m+1,hm=>by
  rw[preSum,Zfa xs m (Nat.le_of_succ_le hm),List.take_add_one,List.sum_append,List.getD_eq_getElem?_getD,List.getElem?_eq_getElem hm]
  exact congrArg (_ + ·) (Int.add_zero _).symm
theorem Zuk(G:Gr base mg mb Gd){n:Nat}(L:Lv A n){xs:List Int}{v:Value}(o:Ok Gd s)(ra:Rd0 P s.heap v (.list (xs.map .int)))(k:Kc Gd P (.int xs.sum) Q s):wpAny (model prog w) A (call (.builtin "sum") [v]) Q E s:=by
 refine ra.ZbL λi vs hi rv hl=>call_sum_walkAnyS (wpAny_pyIter_list hi.isList ?_)
 have e1:=rv.length
 rw[List.length_map] at e1
 have hlt:=Heap.lt_size hi.choose_spec
 have hi2:(s.heap.push { cls:=.type "list_iterator",data:=.fields #[.ref i,.int 0 0] }).IsList i vs.toArray:=ZpK hi.isList (.push _ _)
 refine⟨s.heap.objs.size,_,_,_,_,_,_,λj=>xs.getD j 0,rfl,(Walks.list (prog:=prog) (w:=w) (A:=A.in1) L.hd s.heap.objs.size i (Nat.ne_of_lt hlt) vs.toArray).toS,⟨⟨_,Heap.get?_push_size _ rfl,rfl,rfl⟩,hi2⟩,λb hb=>?_,λj v hv=>?_,λs' t' m=>?_⟩
 ·simp only[Heap.size_push]
  simp at hb
  exact hb.elim (λe=>e▸Nat.lt_succ_self _) λe=>e▸Nat.lt_succ_of_lt hlt
 ·obtain⟨d,hd,rd⟩:=rv.Zu5 ((List.getElem?_toArray ..).symm.trans hv)
  rw[List.getElem?_map] at hd
  refine ZdW hd λx hj e=>?_
  obtain⟨t,e2⟩:=(e▸rd:Rd P s.heap v (.int x)).int_inv
  refine⟨t,?_⟩
  show v=Value.int (xs.getD j 0) t
  erw[rwl (e2 ..) (rwl (List.getD_eq_getElem?_getD ..) (rwl (hj ..) ?_))];rfl
 ·have e2:preSum (λj=>xs.getD j 0) vs.toArray.size=xs.sum:=by
   erw[rwl (List.size_toArray ..) (rwl (e1 ..) (rwl (Zfa xs _ (Nat.le_refl _) ..) (rwl (List.take_length ..) ?_)))]
  erw[rwl (e2 ..) ?_]
  have hk:∀b o,s.heap.get? b=some o->s'.heap.get? b=some o:=λb o e=>m.heap b o (by simp;intro q;rw[q] at e;exact absurd (Heap.lt_size e) (Nat.lt_irrefl _)) (Heap.get?_push_of_some _ e)
  exact k _ s' ⟨.of hk,λb o e=>⟨o,hk b o e⟩,m.os.trans rfl,λg=>by erw[rwl (m.gens ..) ?_];exact g⟩ ⟨G.keeps o.gd hk,Nat.le_trans o.tk m.toks⟩ (.int _ _)
theorem Zjz{h':Heap}:∀(ls:List Nat) (vs:List Value),vs.length=ls.length->(∀(j:Nat) (v:Value),vs[j]? = some v->∃c u,ls[j]? = some c∧v=Value.str ⟨#[c]⟩ u)->Zad P h' vs (ls.map λc=>D.str [c])
 | [],_,e,_=>List.length_eq_zero_iff.mp e▸.nil
 | c::ls,vs,e,hv=>by
  cases vs with
  | nil=>exact absurd e.symm (Nat.succ_ne_zero _)
  | cons v vs=>
   obtain⟨c',u,h3,h4⟩:=hv 0 v rfl
   erw[rwl (h4 ..) (rwl (Option.some.inj h3 ..) ?_)]
   exact .cons (.str [c'] u (Nat.le_of_ble_eq_true rfl)) (Zjz ls vs (Nat.succ.inj e) λj v hj=>hv (j+1) v hj)
theorem ZuQ(G:Gr base mg mb Gd){n:Nat}(L:Lv A n){b:Bfn}{a d:D}{v:Value}(o:Ok Gd s)(hP:Pf P s.heap)(ra:Rd0 P s.heap v a)(h:bfn b a=some d)(k:Kc Gd P d Q s) :
  wpAny (model prog w) A (call b.val [v]) Q E s:=by
 have hz:=szv
 revert ra k
 cases b with
 | len=>
  have h:Zvo a=some d:=h
  cases a with
  | str l=>
   refine eqs h λra k=>ra.Zba λt hl=>PySem.P.len_str (by erw[rwl (str_len ..) ?_];lia) ?_
   erw[rwl (str_len ..) ?_]
   exact k.Zvx o (.int _ _)
  | list l=>
   refine eqs h λra k=>ra.ZbL λi vs hi rv hl=>?_
   rw[←rv.length] at k hl
   exact len_list hi.isList (by erw[rwl (List.size_toArray ..) ?_];lia) (k.Zvx o (.int _ _))
  | _=>exact nn h
 | chr=>
  refine Za3 (show intD _ a=_ from h) λi h=>ifS h λhc h=>eqs h λra k=>ra.Za0 λ_=>?_
  exact PySem.P.chr_of_int (by simp;lia) (k.ZkI o (.str [i.toNat] _ (Nat.le_of_ble_eq_true rfl)))
 | sum=>exact Zdr (show ZdR _ a=_ from h) λl h=>Zds h λxs hx ra k=>Zuk G L o (ints_get hx▸ra) k
 | list=>
  refine ZbG (show Zd4 _ a=_ from h) λl h=>eqs h λra k=>ra.Zba λt hl=>wrap o.tk ?_
  refine call_list_str L.hd ⟨l.toArray⟩ t (λh' tk acc' c' hk hS hacc ht=>k.heap o G hk ht ?_) hl
  have ⟨h1,h2⟩:=hacc
  exact .list (vs:=acc'.toList) (hP.fresh (Zau _)) ⟨c',by simpa using hS⟩ (Zjz l acc'.toList (by simpa using h1) λj v hj=>let ⟨c,u,h3,h4⟩:=h2 j v ((Array.getElem?_toList ..).symm.trans hj);⟨c,u,(List.getElem?_toArray ..).symm.trans h3,h4⟩) (by erw[rwl (List.length_map ..) ?_];exact hl)
end
end
section
open PySem.Builtin PySem.Builtin.Str PySem.StrLaws
theorem Zd6(c:Nat)(z:List Nat):∀l:List Nat,c ∉ l->Zbd c z l=l
 | [],_=>rfl
 | k::r,h=>by
  have h1 : ¬k=c:=λe=>h (e▸List.mem_cons_self ..)
  have ih:=Zd6 c z r λm=>h (List.mem_cons_of_mem _ m)
  unfold Zbd at ih ⊢
  erw[rwl (List.flatMap_cons ..) (rwl (ih ..) (rwl (if_neg h1 ..) ?_))];rfl
theorem ZhB(c:Nat)(z a b:List Nat):Zbd c z (a++b)=Zbd c z a++Zbd c z b:=by unfold Zbd;erw[rwl (List.flatMap_append ..) ?_]
theorem Zhf(c:Nat)(z:List Nat):∀parts:List Str,(∀p∈parts,c ∉ p.cps.toList)->Zbd c z (Str.join ⟨#[c]⟩ parts).cps.toList=(Str.join ⟨z.toArray⟩ parts).cps.toList
 | [],_=>rfl
 | [p],h=>Zd6 c z _ (h p (List.mem_singleton.mpr rfl))
 | p::q::r,h=>by
  have ih:=Zhf c z (q::r) λa ha=>h a (List.mem_cons_of_mem _ ha)
  show Zbd c z (p++⟨#[c]⟩++Str.join ⟨#[c]⟩ (q::r)).cps.toList=(p++⟨z.toArray⟩++Str.join ⟨z.toArray⟩ (q::r)).cps.toList
  simp only[Str.cps_append,Array.toList_append,ZhB]
  erw[rwl (ih ..) (rwl (Zd6 c z _ (h p (List.mem_cons_self ..)) ..) ?_)]
  simp[Zbd]
theorem ZdC(x:Str)(c:Nat)(z:List Nat):(Txt.replace x ⟨#[c]⟩ ⟨z.toArray⟩).cps.toList=Zbd c z x.cps.toList:=by
 erw[rwl (StrLaws.replace_one ..) (rwr (Zhf c z _ (StrLaws.split_free x c) ..) (rwl (StrLaws.join_split ..) ?_))]
theorem ZkZ(c:Nat)(z:List Nat)(l:List Nat):(Zbd c z l).length<=l.length * (z.length+1):=by
 induction l with
 | nil=>simp[Zbd]
 | cons a r ih=>
  unfold Zbd at ih ⊢
  erw[rwl (List.flatMap_cons ..) (rwl (List.length_append ..) (rwl (List.length_cons ..) (rwl (Nat.succ_mul ..) ?_)))]
  have h1:(if a=c then z else [a]).length<=z.length+1:=by split<;>simp
  lia
theorem Zdp(sep:List Nat):∀ls:List (List Nat),(Str.join ⟨sep.toArray⟩ (ls.map λl=>(⟨l.toArray⟩:Str))).cps.toList=ZbT sep ls
 | []=>rfl
 | [x]=>by simp[Str.join,ZkL,ZmH,Zid]
 | x::y::r=>by
  have ih:=Zdp sep (y::r)
  show((⟨x.toArray⟩:Str)++⟨sep.toArray⟩++Str.join ⟨sep.toArray⟩ ((y::r).map λl=>(⟨l.toArray⟩:Str))).cps.toList=_
  simp only[Str.cps_append,Array.toList_append,ih,ZkL,ZmH,Zid]
theorem ZeV(sep:List Nat):∀ls:List (List Nat),(ZbT sep ls).length<=(ls.map (·.length)).sum+ls.length * sep.length
 | []=>Nat.zero_le _
 | [x]=>by simp[ZkL,ZmH,Zid]
 | x::y::r=>by
  have ih:=ZeV sep (y::r)
  simp only[ZkL,ZmH,Zid,List.length_append,List.map_cons,List.sum_cons,List.length_cons,Nat.succ_mul] at ih ⊢
  lia
theorem Zf7{h:Heap}{P:Addr->Prop}:∀{vs:List Value} {ls:List (List Nat)},Zad P h vs (ls.map .str)->StrsAre vs (ls.map λl=>(⟨l.toArray⟩:Str))
 | [],[],_=>.nil
 | v::vs,x::ls,r=>by
  cases r with | cons r1 r2=>
  obtain⟨_,t,rfl⟩:=r1.str_inv
  exact .cons _ t (Zf7 r2)
section
variable {prog:Program}{w:World}{A:Around}{E:Value->Shared->Prop}{s:Shared}{P:Addr->Prop}{base:Addr->Prop}{mg mb:Str->Option Value}{Gd:Heap->Prop}{Q:Value->Shared->Prop}
theorem ZrX{l:List Nat}{c:Nat}{z:List Nat}{va:Value}{t:Tok}(o:Ok Gd s)(ra:Rd0 P s.heap va (.str l))(ht:t≠0)(hz:z.length<=9)(hl:l.length<=1000000)(hne:z≠[c])
  (k:Kc Gd P (.str (Zbd c z l)) Q s) :
  wpAny (model prog w) A (call (.builtin "str.replace") [va,.str ⟨#[c]⟩ t,.str ⟨z.toArray⟩ (t+1)]) Q E s:=by
 obtain⟨_,_,rfl⟩:=ra.str_inv
 refine wrap o.tk ?_
 refine SC.replaceW (hu:=ht) (hv:=Nat.succ_ne_zero t) (huv:=Nat.ne_of_lt (Nat.lt_succ_self t)) (hyz:=?_) (hx:=by erw[rwl (str_len ..) ?_];lia) (hz:=by erw[rwl (str_len ..) ?_];lia) λt' k' ht'=>k.tok o ht' (Zhx ?_ ?_)
 ·erw[rwl (propext (beq_eq_false_iff_ne ..)) ?_]
  intro q
  have:=congrArg (λx:Str=>x.cps.toList) q
  simp at this
  exact hne this.symm
 ·exact ZdC ⟨l.toArray⟩ c z
 ·have h1:=ZkZ c z l
  have h2:l.length * (z.length+1)<=1000000 * 10:=Nat.mul_le_mul hl (by lia)
  erw[rwl (szv ..) ?_];lia
theorem ZoO{sep:List Nat}{ls:List (List Nat)}{va:Value}{D:Addr}{vs:List Value}(o:Ok Gd s)(ra:Rd0 P s.heap va (.str sep))(hD:s.heap.IsList D vs.toArray)(rv:Zad P s.heap vs (ls.map .str))
  (h1:ls.length<=1000000) (h2:sep.length<=4) (h3:(ls.map (·.length)).sum<=1000000) (k:Kc Gd P (.str (ZbT sep ls)) Q s) :
  wpAny (model prog w) A (call (.builtin "str.join") [va,.ref D]) Q E s:=by
 obtain⟨_,_,rfl⟩:=ra.str_inv
 have h4:ls.length * sep.length<=1000000 * 4:=Nat.mul_le_mul h1 h2
 refine wrap o.tk ?_
 refine join_list hD (Zf7 rv) ?_ λt' k' ht'=>k.tok o ht' (Zhx ?_ ?_)
 ·erw[rwl (List.map_map ..) (rwl (List.length_map ..) (rwl (str_len ..) ?_))]
  have:(ls.map ((λx:Str=>x.length) ∘ λl=>(⟨l.toArray⟩:Str)))=ls.map (·.length):=by
   apply List.map_congr_left;intro a _;exact str_len a
  erw[rwl (this ..) ?_];lia
 ·show(glued ⟨sep.toArray⟩ _).cps.toList=_
  erw[rwl (glued_eq_join ..) (rwl (Zdp ..) ?_)]
 ·have:=ZeV sep ls
  erw[rwl (szv ..) ?_];lia
end
end
section
noncomputable def Zb0(env:Env)(h:Heap)(n:Str)(v:Value):Prop:=
 (env.kindOf n=some .local∧∃m,h.Ns env.locals m∧m n=some v)∨((env.kindOf n=some .cell∨env.kindOf n=some .free)∧∃c,env.cells.lookup n=some c∧h.IsCell c (some v))
theorem Zb0.kp{env:Env}{h h':Heap}{n:Str}{v:Value}(x:Zb0 env h n v)(k:Kp h h'):Zb0 env h' n v:=by
 rcases x with⟨hk,m,hn,e⟩ | ⟨hk,c,e,hc⟩
 ·exact .inl ⟨hk,m,Zj1 hn k,e⟩
 ·exact .inr ⟨hk,c,e,ZiD hc k⟩
noncomputable abbrev ZaO(env:Env)(sc:Scope)(nm:List Str)(P:Addr->Prop)(σ:Sg)(h:Heap):Prop:=(env.scope=sc)∧(sc.kind=.function)∧(env.globals=mainGlobals)∧(env.builtins=builtinsNs)∧(∀n,sc.names.lookup n=some .cell->∃c,env.cells.lookup n=some c)∧(∀i d,rd σ i=some d->∃n v,nm[i]? = some n∧Zb0 env h n v∧Rd P h v d)∧(∀i d,rdt σ i=some d->∃n v,nm[i]? = some n∧Zb0 env h n v∧Rd0 P h v d)
theorem ZaO.scp{env:Env}{sc:Scope}{nm:List Str}{P:Addr->Prop}{σ:Sg}{h:Heap}(slf:ZaO env sc nm P σ h):env.scope=sc:=slf.1
theorem ZaO.kf{env:Env}{sc:Scope}{nm:List Str}{P:Addr->Prop}{σ:Sg}{h:Heap}(slf:ZaO env sc nm P σ h):sc.kind=.function:=slf.2.1
theorem ZaO.gl{env:Env}{sc:Scope}{nm:List Str}{P:Addr->Prop}{σ:Sg}{h:Heap}(slf:ZaO env sc nm P σ h):env.globals=mainGlobals:=slf.2.2.1
theorem ZaO.bi{env:Env}{sc:Scope}{nm:List Str}{P:Addr->Prop}{σ:Sg}{h:Heap}(slf:ZaO env sc nm P σ h):env.builtins=builtinsNs:=slf.2.2.2.1
theorem ZaO.cells{env:Env}{sc:Scope}{nm:List Str}{P:Addr->Prop}{σ:Sg}{h:Heap}(slf:ZaO env sc nm P σ h):∀n,sc.names.lookup n=some .cell->∃c,env.cells.lookup n=some c:=slf.2.2.2.2.1
theorem ZaO.vars{env:Env}{sc:Scope}{nm:List Str}{P:Addr->Prop}{σ:Sg}{h:Heap}(slf:ZaO env sc nm P σ h):∀i d,rd σ i=some d->∃n v,nm[i]? = some n∧Zb0 env h n v∧Rd P h v d:=slf.2.2.2.2.2.1
theorem ZaO.ZtK{env:Env}{sc:Scope}{nm:List Str}{P:Addr->Prop}{σ:Sg}{h:Heap}(slf:ZaO env sc nm P σ h):∀i d,rdt σ i=some d->∃n v,nm[i]? = some n∧Zb0 env h n v∧Rd0 P h v d:=slf.2.2.2.2.2.2
theorem ZaO.kp{env:Env}{sc:Scope}{nm:List Str}{P:Addr->Prop}{σ:Sg}{h h':Heap}(x:ZaO env sc nm P σ h)(k:Kp h h'):ZaO env sc nm P σ h':=⟨x.scp,
x.kf,
x.gl,
x.bi,
x.cells,
(λi d e=>let ⟨n,v,a,b,c⟩:=x.vars i d e;⟨n,v,a,b.kp k,c.kp k⟩),
(λi d e=>let ⟨n,v,a,b,c⟩:=x.ZtK i d e;⟨n,v,a,b.kp k,c.kp k⟩)⟩
section
variable {prog:Program}{w:World}{A:Around}{E:Value->Shared->Prop}{s:Shared}{P:Addr->Prop}{base:Addr->Prop}{mg mb:Str->Option Value}{Gd:Heap->Prop}{Q:Value->Shared->Prop}
theorem Zcn{env:Env}{n:Str}{v:Value}{p:Pos}(hk:env.scope.kind=.function)(x:Zb0 env s.heap n v)(hd:n≠("__debug__" : Str))(hc:n≠("__classdict__" : Str))(h:Q v s):wpAny (model prog w) A (eval (.Name n p) env) Q E s:=by
 refine wpAny_Name ?_ (by simpa using hd)
 rcases x with⟨hl,m,hn,e⟩ | ⟨hl,c,e,hcell⟩
 ·exact wpAny_loadName_local hk hl hn e h
 ·rcases hl with hl | hl
  ·exact wpAny_loadName_cell hk hl e hcell h
  ·exact wpAny_loadName_free hk hl e hcell h (by simpa using hc)
theorem ZcR{env:Env}{n:Str}{v:Value}{p:Pos}(G:Gr base mg mb Gd)(o:Gd s.heap){sc:Scope}{nm:List Str}{σ:Sg}(x:ZaO env sc nm P σ s.heap)(hn:Zcz sc n=true)(hv:mg n=some v)(hd:n≠("__debug__" : Str))(h:Q v s) :
  wpAny (model prog w) A (eval (.Name n p) env) Q E s:=by
 refine Calls.Name_function_global (x.scp▸x.kf) ?_ (Calls.loadGlobal_global (x.gl▸G.g _ o) hv h) (by simpa using hd)
 rw[Env.kindOf,x.scp];simpa[Zcz] using hn
theorem ZcZ{env:Env}{n:Str}{v:Value}{p:Pos}(G:Gr base mg mb Gd)(o:Gd s.heap){sc:Scope}{nm:List Str}{σ:Sg}(x:ZaO env sc nm P σ s.heap)(hn:Zcz sc n=true)
  (hv:(n,v)∈([("len",.builtin "len"),("chr",.builtin "chr"),("sum",.builtin "sum"),("list",.type "list"),("range",.type "range"),("iter",.builtin "iter"),("object",.type "object"),("str",.type "str"),("isinstance",.builtin "isinstance")]:List (Str×Value)))
  (hd:n≠("__debug__" : Str)) (h:Q v s):wpAny (model prog w) A (eval (.Name n p) env) Q E s:=by
 have ⟨h1,h2⟩:=G.bi n v hv
 refine Calls.Name_function_global (x.scp▸x.kf) ?_ (Calls.loadGlobal_builtin (x.gl▸G.g _ o) h1 (x.bi▸G.b _ o) h2 h) (by simpa using hd)
 rw[Env.kindOf,x.scp];simpa[Zcz] using hn
end
inductive It (P S:Addr->Prop) (h:Heap) (I:Addr):List D->Prop
 | list {l:Addr} {i:Nat} {vs:List Value} {ds:List D}:h.IsListIter I l i->h.PlainList l vs.toArray->l≠I->S l->Zad P h (vs.drop i) ds->It P S h I ds
 | range {x:Int} {n:Nat} {step:Int}:IsRangeIter h I x n step->It P S h I ((List.range n).map λ(k:Nat)=>D.int (x+(k:Int) * step))
theorem It.mono{P S:Addr->Prop}{h h':Heap}{I:Addr}{ds:List D}(x:It P S h I ds)(k:∀b o,NT o->(P b∨S b∨b=I)->h.get? b=some o->h'.get? b=some o):It P S h' I ds:=by
 cases x with
 | list hi hl hne hs hr=>
  obtain⟨o,e,hc,r⟩:=hi
  obtain⟨n,e2⟩:=hl
  exact .list ⟨o,k _ _ (.ZaD hc) (.inr (.inr rfl)) e,hc,r⟩ ⟨n,k _ _ (.ZaD rfl) (.inr (.inl hs)) e2⟩ hne hs (hr.mono λa o n e p=>⟨p,k a o n (.inl p) e⟩)
 | range hi=>exact .range (k _ _ (.ZaD rfl) (.inr (.inr rfl)) hi)
theorem ZmU{α:Type}{l:List α}{i:Nat}{a:α}{r:List α}(h:l.drop i=a::r):l[i]? = some a∧l.drop (i+1)=r:=by
 constructor
 ·have:=congrArg (λz=>z[0]?) h
  simpa[List.getElem?_drop] using this
 ·have:=congrArg (λz=>z.drop 1) h
  simpa[List.drop_drop] using this
section
variable {prog:Program}{w:World}{A:Around}{E:Value->Shared->Prop}{s:Shared}{P S:Addr->Prop}
set_option tactic.hygienic true in
theorem It.done(hh:A.handled=none){I:Addr}{Q:Option Value->Shared->Prop}(x:It P S s.heap I [])(h:∀h',Heap.ExtBut I s.heap h'->Q none { s with heap:=h' }):wpAny (model prog w) A (pyNext (.ref I)) Q E s:=by
 generalize hds:([]:List D)=ds at x
 cases x with
 | list hi hl hne hs hr=>
  rename_i l i vs
  subst hds
  refine wpAny_pyNext_list_end hh hi hl.isList ?_ h
  have e1:=hr.length
  simp only[List.length_drop,List.length_nil] at e1
  simp;lia
 | range hi=>
  rename_i x n st
  have:n=0:=by
   have:=congrArg List.length hds
   simp at this;lia
  subst this
  exact wpAny_pyNext_range_end hh hi (by simp) h
set_option tactic.hygienic true in
theorem It.next{I:Addr}{Q:Option Value->Shared->Prop}{d:D}{ds:List D}(x:It P S s.heap I (d::ds))(hPI : ¬P I)
  (h:∀v h' tk,Rd P s.heap v d->It P S h' I ds->Heap.SameBut I s.heap h'->Q (some v) { s with heap:=h',toks:=tk }):wpAny (model prog w) A (pyNext (.ref I)) Q E s:=by
 generalize hds:d::ds=ds' at x
 cases x with
 | list hi hl hne hs hr=>
  rename_i l i vs
  subst hds
  generalize hvs:vs.drop i=vs' at hr
  cases hr with
  | cons r1 r2=>
   rename_i v vr
   obtain⟨h1,h2⟩:=ZmU hvs
   refine wpAny_pyNext_list_item (x:=v) hi hl.isList (by simpa using h1) λh' hi' hsb=>h v h' s.toks r1 (.list (vs:=vs) hi' ?_ hne hs ?_) hsb
   ·obtain⟨n,e⟩:=hl;exact⟨n,(hsb.2 _ hne).trans e⟩
   ·erw[rwl (h2 ..) ?_]
    exact r2.mono λa o n e p=>⟨p,(hsb.2 a λq=>hPI (q▸p)).trans e⟩
 | range hi=>
  rename_i x n st
  cases n with
  | zero=>simp at hds
  | succ n=>
   rw[List.range_succ_eq_map,List.map_cons,List.map_map] at hds
   injection hds with h1 h2
   subst h1 h2
   refine wpAny_pyNext_range_item hi (by lia) λh' hi' hsb=>h _ h' _ ?_ ?_ hsb
   ·simpa using Rd.int (P:=P) (h:=s.heap) x s.toks
   ·have e:((n+1:Nat):Int) - 1=n:=by lia
    rw[e] at hi'
    have:=It.range (P:=P) (S:=S) hi'
    have e2:((List.range n).map ((λ(k:Nat)=>D.int (x+(k:Int) * st)) ∘ Nat.succ))=(List.range n).map λ(k:Nat)=>D.int (x+st+(k:Int) * st):=by
     apply List.map_congr_left
     intro k _
     simp only[Function.comp,Nat.succ_eq_add_one]
     congr 1
     have:((k+1:Nat):Int) * st=k * st+st:=by erw[rwl (Int.natCast_add ..) (rwl (Int.add_mul ..) ?_)];simp
     lia
    erw[rwl (e2 ..) ?_];exact this
end
end
section
noncomputable def KpB(W:Addr->Prop)(h h':Heap):Prop:=∀b o,NT o->¬W b->h.get? b=some o->h'.get? b=some o
theorem KpB.refl(W:Addr->Prop)(h:Heap):KpB W h h:=λ_ _ _ _ e=>e
theorem KpB.trans{W:Addr->Prop}{a b c:Heap}(x:KpB W a b)(y:KpB W b c):KpB W a c:=λi o n w e=>y i o n w (x i o n w e)
theorem Kp.toB{W:Addr->Prop}{a b:Heap}(x:Kp a b):KpB W a b:=λi o n _ e=>x i o n e
theorem KpB.of_same{W:Addr->Prop}{a:Addr}{h h':Heap}(hs:Heap.ExtBut a h h')(hw:W a):KpB W h h':=λb o _ w e=>hs b o (λq=>w (q▸hw)) e
noncomputable abbrev GwB(W:Addr->Prop)(s s':Shared):Prop:=(KpB W s.heap s'.heap)∧(∀b o,¬W b->s.heap.get? b=some o->∃o',s'.heap.get? b=some o')∧(s'.os=s.os)∧(AllBare s.gens->AllBare s'.gens)
theorem GwB.kp{W:Addr->Prop}{s s':Shared}(slf:GwB W s s'):KpB W s.heap s'.heap:=slf.1
theorem GwB.ex{W:Addr->Prop}{s s':Shared}(slf:GwB W s s'):∀b o,¬W b->s.heap.get? b=some o->∃o',s'.heap.get? b=some o':=slf.2.1
theorem GwB.os{W:Addr->Prop}{s s':Shared}(slf:GwB W s s'):s'.os=s.os:=slf.2.2.1
theorem GwB.gens{W:Addr->Prop}{s s':Shared}(slf:GwB W s s'):AllBare s.gens->AllBare s'.gens:=slf.2.2.2
theorem GwB.refl(W:Addr->Prop)(s:Shared):GwB W s s:=⟨.refl _ _,λ_ o _ e=>⟨o,e⟩,rfl,id⟩
theorem GwB.trans{W:Addr->Prop}{a b c:Shared}(x:GwB W a b)(y:GwB W b c):GwB W a c:=⟨x.kp.trans y.kp,λi o w e=>let ⟨o',e'⟩:=x.ex i o w e;y.ex i o' w e',y.os.trans x.os,λg=>y.gens (x.gens g)⟩
theorem Gw.toB{W:Addr->Prop}{a b:Shared}(x:Gw a b):GwB W a b:=⟨x.kp.toB,λi o _ e=>x.ex i o e,x.os,x.gens⟩
theorem GwB.of_same{W:Addr->Prop}{a:Addr}{s:Shared}{h':Heap}{tk:Tok}(hs:Heap.ExtBut a s.heap h')(hw:W a):GwB W s { s with heap:=h',toks:=tk }:=
 ⟨.of_same hs hw,λb o w e=>⟨o,hs b o (λq=>w (q▸hw)) e⟩,rfl,id⟩
theorem GwB.Zvy{W:Addr->Prop}{a b c:Shared}(x:Gw a b)(y:GwB W b c)(h:∀i,W i->a.heap.get? i=none):Gw a c:=
 ⟨λi o n e=>y.kp i o n (λw=>by rw[h i w] at e;cases e) (x.kp i o n e),λi o e=>let ⟨o',e'⟩:=x.ex i o e;y.ex i o' (λw=>by rw[h i w] at e;cases e) e',y.os.trans x.os,λg=>y.gens (x.gens g)⟩
theorem Gr.fresh{base:Addr->Prop}{mg mb:Str->Option Value}{Gd:Heap->Prop}(G:Gr base mg mb Gd){h:Heap}{a:Addr}(x:Gd h)(e:h.get? a=none) : ¬base a:=λb=>by
 obtain⟨o,eo⟩:=G.there h a x b;rw[e] at eo;cases eo
theorem Gr.same{base:Addr->Prop}{mg mb:Str->Option Value}{Gd:Heap->Prop}(G:Gr base mg mb Gd){h h':Heap}{a:Addr}{o:Obj}(x:Gd h)(hb : ¬base a)(e:h.get? a=some o)(hm:Mut o)(hs:Heap.ExtBut a h h'):Gd h':=
 G.keep _ _ x λb ob n eb=>hs b ob (λq=>by subst q;rw[e] at eb;cases eb;exact n.elim hb λn=>n hm) eb
theorem Mut.ns{h:Heap}{a:Addr}{m:Str->Option Value}(x:h.Ns a m):∃o,h.get? a=some o∧Mut o∧NT o:=by
 obtain⟨o,es,ep,e,hd,_⟩:=x;exact⟨o,e,.inl ⟨es,ep,hd⟩,.Zeo hd⟩
theorem Mut.cell{h:Heap}{a:Addr}{v:Option Value}(x:h.IsCell a v):∃o,h.get? a=some o∧Mut o∧NT o:=by
 obtain⟨o,e,hd⟩:=x;exact⟨o,e,.inr (.inr (.inl ⟨v,hd⟩)),.ZgP hd⟩
theorem Mut.plain{h:Heap}{a:Addr}{v:Array Value}(x:h.PlainList a v):∃o,h.get? a=some o∧Mut o∧NT o:=by
 obtain⟨n,e⟩:=x;exact⟨_,e,.inr (.inl ⟨v,n,rfl⟩),.ZaD rfl⟩
theorem It.mut{P S:Addr->Prop}{h:Heap}{I:Addr}{ds:List D}(x:It P S h I ds):∃o,h.get? I=some o∧Mut o∧NT o:=by
 cases x with
 | list hi=>obtain⟨o,e,hc,_⟩:=hi;exact⟨o,e,.inr (.inr (.inr (.inl hc))),.ZaD hc⟩
 | range hi=>exact⟨_,hi,.inr (.inr (.inr (.inr rfl))),.ZaD rfl⟩
theorem Pf.same{P:Addr->Prop}{h h':Heap}{a:Addr}(x:Pf P h)(hs:Heap.ExtBut a h h')(ha:∃o,NT o∧h'.get? a=some o):Pf P h':=λb n=>by
 by_cases q:b=a
 ·subst q;exact ha
 ·obtain⟨o,no,e⟩:=x b n;exact⟨o,no,hs b o q e⟩
end
section
theorem Rd.but{P:Addr->Prop}{h h':Heap}{a:Addr}{v:Value}{d:D}(r:Rd P h v d)(hP : ¬P a)(hs:Heap.ExtBut a h h'):Rd P h' v d:=r.mono λb o _ e p=>⟨p,hs b o (λq=>hP (q▸p)) e⟩
theorem Zad.but{P:Addr->Prop}{h h':Heap}{a:Addr}{vs:List Value}{ds:List D}(r:Zad P h vs ds)(hP : ¬P a)(hs:Heap.ExtBut a h h'):Zad P h' vs ds:=r.mono λb o _ e p=>⟨p,hs b o (λq=>hP (q▸p)) e⟩
theorem Zek{h h':Heap}{a l:Addr}{its:Array Value}(x:h.PlainList l its)(hn:l≠a)(hs:Heap.ExtBut a h h'):h'.PlainList l its:=let ⟨n,e⟩:=x;⟨n,hs _ _ hn e⟩
theorem Gw.but{s s₁:Shared}{a:Addr}{h':Heap}{tk:Tok}(x:Gw s s₁)(hn:s.heap.get? a=Option.none)(hs:Heap.ExtBut a s₁.heap h'):Gw s { s₁ with heap:=h',toks:=tk }:=⟨(λb o n e=>hs b o (λq=>nn (hn.symm.trans (q▸e))) (x.kp b o n e)),
(λb o e=>let ⟨o',e'⟩:=x.ex b o e;⟨o',hs b o' (λq=>nn (hn.symm.trans (q▸e))) e'⟩),
x.os,
x.gens⟩
section
variable {prog:Program}{w:World}{A:Around}{s:Shared}{P S:Addr->Prop}{base:Addr->Prop}{mg mb:Str->Option Value}{Gd:Heap->Prop}
noncomputable def turnT(M:Model)(A:Around)(ifs:List Expr)(elt:Expr)(cenv:Env)(Qs:Option Value->Shared->Prop)(E:Value->Shared->Prop)(s:Shared):Prop:=
 wpAny M A (forIn ifs true λc r=>if r=true then do let ok ←isTrue c cenv (eval c cenv);pure (ForInStep.yield ok) else pure (ForInStep.yield r))
  (λok s₃=>if ok=true then wpAny M A (eval elt cenv) (λx s₄=>Qs (some x) s₄) E s₃ else Qs none s₃) E s
noncomputable abbrev CA(P S base:Addr->Prop)(h:Heap)(C I Dd:Addr):Prop:=(¬P I)∧(¬P Dd)∧(¬P C)∧(¬S Dd)∧(¬S C)∧(Dd≠I)∧(Dd≠C)∧(I≠C)∧(¬base I)∧(¬base Dd)∧(¬base C)∧(h.get? I=none)∧(h.get? Dd=none)∧(h.get? C=none)
theorem CA.pI{P S base:Addr->Prop}{h:Heap}{C I Dd:Addr}(slf:CA P S base h C I Dd) : ¬P I:=slf.1
theorem CA.pD{P S base:Addr->Prop}{h:Heap}{C I Dd:Addr}(slf:CA P S base h C I Dd) : ¬P Dd:=slf.2.1
theorem CA.pC{P S base:Addr->Prop}{h:Heap}{C I Dd:Addr}(slf:CA P S base h C I Dd) : ¬P C:=slf.2.2.1
theorem CA.sD{P S base:Addr->Prop}{h:Heap}{C I Dd:Addr}(slf:CA P S base h C I Dd) : ¬S Dd:=slf.2.2.2.1
theorem CA.sC{P S base:Addr->Prop}{h:Heap}{C I Dd:Addr}(slf:CA P S base h C I Dd) : ¬S C:=slf.2.2.2.2.1
theorem CA.dI{P S base:Addr->Prop}{h:Heap}{C I Dd:Addr}(slf:CA P S base h C I Dd):Dd≠I:=slf.2.2.2.2.2.1
theorem CA.dC{P S base:Addr->Prop}{h:Heap}{C I Dd:Addr}(slf:CA P S base h C I Dd):Dd≠C:=slf.2.2.2.2.2.2.1
theorem CA.iC{P S base:Addr->Prop}{h:Heap}{C I Dd:Addr}(slf:CA P S base h C I Dd):I≠C:=slf.2.2.2.2.2.2.2.1
theorem CA.bI{P S base:Addr->Prop}{h:Heap}{C I Dd:Addr}(slf:CA P S base h C I Dd) : ¬base I:=slf.2.2.2.2.2.2.2.2.1
theorem CA.bD{P S base:Addr->Prop}{h:Heap}{C I Dd:Addr}(slf:CA P S base h C I Dd) : ¬base Dd:=slf.2.2.2.2.2.2.2.2.2.1
theorem CA.bC{P S base:Addr->Prop}{h:Heap}{C I Dd:Addr}(slf:CA P S base h C I Dd) : ¬base C:=slf.2.2.2.2.2.2.2.2.2.2.1
theorem CA.nI{P S base:Addr->Prop}{h:Heap}{C I Dd:Addr}(slf:CA P S base h C I Dd):h.get? I=none:=slf.2.2.2.2.2.2.2.2.2.2.2.1
theorem CA.nD{P S base:Addr->Prop}{h:Heap}{C I Dd:Addr}(slf:CA P S base h C I Dd):h.get? Dd=none:=slf.2.2.2.2.2.2.2.2.2.2.2.2.1
theorem CA.nC{P S base:Addr->Prop}{h:Heap}{C I Dd:Addr}(slf:CA P S base h C I Dd):h.get? C=none:=slf.2.2.2.2.2.2.2.2.2.2.2.2.2
noncomputable abbrev CI(P S:Addr->Prop)(Gd:Heap->Prop)(f:D->Option (Option D))(total:List D)(N:Nat)(C I Dd:Addr)(s:Shared)(ys dn:List D)(acc:List Value)(m:Str->Option Value)(p ds:List D)(s':Shared):Prop:=(ZbX f ds=some ys)∧(dn++(p++ys)=total)∧(s'.heap.PlainList Dd acc.toArray)∧(Zad P s'.heap acc dn)∧(s'.heap.Ns C m)∧(acc.length+(p.length+ds.length)<=N)∧(It P S s'.heap I ds)∧(Ok Gd s')∧(Pf P s'.heap)∧(Gw s s')
theorem CI.hc{P S:Addr->Prop}{Gd:Heap->Prop}{f:D->Option (Option D)}{total:List D}{N:Nat}{C I Dd:Addr}{s:Shared}{ys dn:List D}{acc:List Value}{m:Str->Option Value}{p ds:List D}{s':Shared}(slf:CI P S Gd f total N C I Dd s ys dn acc m p ds s'):ZbX f ds=some ys:=slf.1
theorem CI.tt{P S:Addr->Prop}{Gd:Heap->Prop}{f:D->Option (Option D)}{total:List D}{N:Nat}{C I Dd:Addr}{s:Shared}{ys dn:List D}{acc:List Value}{m:Str->Option Value}{p ds:List D}{s':Shared}(slf:CI P S Gd f total N C I Dd s ys dn acc m p ds s'):dn++(p++ys)=total:=slf.2.1
theorem CI.pl{P S:Addr->Prop}{Gd:Heap->Prop}{f:D->Option (Option D)}{total:List D}{N:Nat}{C I Dd:Addr}{s:Shared}{ys dn:List D}{acc:List Value}{m:Str->Option Value}{p ds:List D}{s':Shared}(slf:CI P S Gd f total N C I Dd s ys dn acc m p ds s'):s'.heap.PlainList Dd acc.toArray:=slf.2.2.1
theorem CI.ra{P S:Addr->Prop}{Gd:Heap->Prop}{f:D->Option (Option D)}{total:List D}{N:Nat}{C I Dd:Addr}{s:Shared}{ys dn:List D}{acc:List Value}{m:Str->Option Value}{p ds:List D}{s':Shared}(slf:CI P S Gd f total N C I Dd s ys dn acc m p ds s'):Zad P s'.heap acc dn:=slf.2.2.2.1
theorem CI.ns{P S:Addr->Prop}{Gd:Heap->Prop}{f:D->Option (Option D)}{total:List D}{N:Nat}{C I Dd:Addr}{s:Shared}{ys dn:List D}{acc:List Value}{m:Str->Option Value}{p ds:List D}{s':Shared}(slf:CI P S Gd f total N C I Dd s ys dn acc m p ds s'):s'.heap.Ns C m:=slf.2.2.2.2.1
theorem CI.z{P S:Addr->Prop}{Gd:Heap->Prop}{f:D->Option (Option D)}{total:List D}{N:Nat}{C I Dd:Addr}{s:Shared}{ys dn:List D}{acc:List Value}{m:Str->Option Value}{p ds:List D}{s':Shared}(slf:CI P S Gd f total N C I Dd s ys dn acc m p ds s'):acc.length+(p.length+ds.length)<=N:=slf.2.2.2.2.2.1
theorem CI.it{P S:Addr->Prop}{Gd:Heap->Prop}{f:D->Option (Option D)}{total:List D}{N:Nat}{C I Dd:Addr}{s:Shared}{ys dn:List D}{acc:List Value}{m:Str->Option Value}{p ds:List D}{s':Shared}(slf:CI P S Gd f total N C I Dd s ys dn acc m p ds s'):It P S s'.heap I ds:=slf.2.2.2.2.2.2.1
theorem CI.o{P S:Addr->Prop}{Gd:Heap->Prop}{f:D->Option (Option D)}{total:List D}{N:Nat}{C I Dd:Addr}{s:Shared}{ys dn:List D}{acc:List Value}{m:Str->Option Value}{p ds:List D}{s':Shared}(slf:CI P S Gd f total N C I Dd s ys dn acc m p ds s'):Ok Gd s':=slf.2.2.2.2.2.2.2.1
theorem CI.hP{P S:Addr->Prop}{Gd:Heap->Prop}{f:D->Option (Option D)}{total:List D}{N:Nat}{C I Dd:Addr}{s:Shared}{ys dn:List D}{acc:List Value}{m:Str->Option Value}{p ds:List D}{s':Shared}(slf:CI P S Gd f total N C I Dd s ys dn acc m p ds s'):Pf P s'.heap:=slf.2.2.2.2.2.2.2.2.1
theorem CI.g{P S:Addr->Prop}{Gd:Heap->Prop}{f:D->Option (Option D)}{total:List D}{N:Nat}{C I Dd:Addr}{s:Shared}{ys dn:List D}{acc:List Value}{m:Str->Option Value}{p ds:List D}{s':Shared}(slf:CI P S Gd f total N C I Dd s ys dn acc m p ds s'):Gw s s':=slf.2.2.2.2.2.2.2.2.2
section
variable {f:D->Option (Option D)}{total p ds ys dn:List D}{acc:List Value}{m:Str->Option Value}{N:Nat}{C I Dd:Addr}{s₀ s₁:Shared}
theorem CI.gw(V:CI P S Gd f total N C I Dd s ys dn acc m p ds s₀)(g:Gw s₀ s₁)(o:Ok Gd s₁):CI P S Gd f total N C I Dd s ys dn acc m p ds s₁:=
 ⟨V.hc,V.tt,Zbo V.pl g.kp,V.ra.kp g.kp,Zj1 V.ns g.kp,V.z,V.it.mono λb ob n _ e=>g.kp b ob n e,o,V.hP.kp g.kp,V.g.trans g⟩
theorem CI.done(G:Gr base mg mb Gd)(W:CA P S base s.heap C I Dd)(V:CI P S Gd f total N C I Dd s ys dn acc m [] [] s₀){h':Heap}{tk:Tok}(he:Heap.ExtBut I s₀.heap h')(ht:1<=tk) :
  Gw s { s₀ with heap:=h',toks:=tk }∧Ok Gd { s₀ with heap:=h',toks:=tk }∧h'.PlainList Dd acc.toArray∧Zad P h' acc total∧h'.Ns C m:=by
 have b:=V.tt
 rw[←Option.some.inj V.hc,List.nil_append,List.append_nil] at b
 exact⟨V.g.but W.nI he,⟨let ⟨_,eI,mI,_⟩:=V.it.mut;G.same V.o.gd W.bI eI mI he,ht⟩,Zek V.pl W.dI he,b▸V.ra.but W.pI he,V.ns.extBut he (Ne.symm W.iC)⟩
theorem CI.turn(G:Gr base mg mb Gd)(W:CA P S base s.heap C I Dd){d:D}(V:CI P S Gd f total N C I Dd s ys dn acc m [] (d::ds) s₀){h₁ h₂:Heap}{tk:Tok}{m₂:Str->Option Value}(hit:It P S h₁ I ds)(hs₁:Heap.ExtBut I s₀.heap h₁)(hn:h₂.Ns C m₂)(hs₂:Heap.ExtBut C h₁ h₂)(ht:1<=tk) :
  ∃r zs,f d=some r∧CI P S Gd f total N C I Dd s zs dn acc m₂ r.toList ds { s₀ with heap:=h₂,toks:=tk }:=by
 refine Zac (show(f d).bind _=some ys from V.hc) λr hr a=>ZdW a λzs hz a=>⟨r,zs,hr,hz,?_,Zek (Zek V.pl W.dI hs₁) W.dC hs₂,(V.ra.but W.pI hs₁).but W.pC hs₂,hn,?_,?_,⟨?_,ht⟩,?_,(V.g.but (tk:=tk) W.nI hs₁).but W.nC hs₂⟩
 ·have b:=V.tt
  rw[←a] at b
  cases r with
  | none=>exact b
  | some y=>exact b
 ·cases r with
  | none=>exact Nat.le_trans (Nat.add_le_add_left (Nat.le_succ _) _) V.z
  | some y=>exact Nat.le_trans (Nat.le_of_eq (congrArg (acc.length + ·) ((Nat.add_comm 1 ds.length).trans (Nat.zero_add _).symm))) V.z
 ·exact hit.mono λb ob _ q e=>hs₂ b ob (λx=>q.elim (λq=>W.pC (x▸q)) λq=>q.elim (λq=>W.sC (x▸q)) λq=>W.iC (q.symm.trans x)) e
 ·obtain⟨_,eI,mI,_⟩:=V.it.mut
  obtain⟨_,eC,mC,_⟩:=Mut.ns (V.ns.extBut hs₁ (Ne.symm W.iC))
  exact G.same (G.same V.o.gd W.bI eI mI hs₁) W.bC eC mC hs₂
 ·exact(V.hP.same hs₁ (let ⟨o,e,_,n⟩:=hit.mut;⟨o,n,e⟩)).same hs₂ (let ⟨o,e,_,n⟩:=Mut.ns hn;⟨o,n,e⟩)
theorem CI.app(G:Gr base mg mb Gd)(W:CA P S base s.heap C I Dd)(hN:N<=sizeLine){y:D}(V:CI P S Gd f total N C I Dd s ys dn acc m [y] ds s₀){vy:Value}(ry:Rd P s₀.heap vy y){E:Value->Shared->Prop}{Q:Shared->Prop}(k:∀dn acc s₁,CI P S Gd f total N C I Dd s ys dn acc m [] ds s₁->Q s₁) :
  wpAny (model prog w) A (call (.builtin "list.append") [.ref Dd,vy]) (λ_=>Q) E s₀:=by
 refine wrap V.o.tk (wpAny_list_append_plain (hsz:=Nat.le_trans (Nat.le_add_right _ _) (Nat.le_trans V.z hN)) V.pl λh₄ hl hs ht=>k (dn++[y]) (acc++[vy]) _ ?_)
 rw[List.push_toArray] at hl
 exact⟨V.hc,(List.append_assoc ..).trans V.tt,hl,(V.ra.snoc ry).but W.pD hs.extBut,V.ns.sameBut hs (Ne.symm W.dC),by erw[rwl (List.length_append ..) (rwl (Nat.add_assoc ..) ?_)];exact Nat.le_trans (Nat.le_of_eq (congrArg (λn=>acc.length+(1+n)) (Nat.zero_add _))) V.z,
  V.it.mono λb ob _ q e=>hs.extBut b ob (λx=>q.elim (λq=>W.pD (x▸q)) λq=>q.elim (λq=>W.sD (x▸q)) λq=>W.dI (x.symm.trans q)) e,⟨let ⟨_,eD,mD,_⟩:=Mut.plain V.pl;G.same V.o.gd W.bD eD mD hs.extBut,ht⟩,V.hP.same hs.extBut (let ⟨o,e,_,n⟩:=Mut.plain hl;⟨o,n,e⟩),V.g.but (tk:=_) W.nD hs.extBut⟩
end
noncomputable def CJ(P S:Addr->Prop)(Gd:Heap->Prop)(f:D->Option (Option D))(total:List D)(N:Nat)(C I Dd:Addr)(s:Shared)(k:Nat)(s':Shared):Prop:=∃ds ys dn acc m,CI P S Gd f total N C I Dd s ys dn acc m [] ds s'∧k=ds.length
noncomputable def CK(P S:Addr->Prop)(Gd:Heap->Prop)(f:D->Option (Option D))(total:List D)(N:Nat)(C I Dd:Addr)(s:Shared)(k:Nat)(s':Shared):Prop:=∃n,n < k∧CJ P S Gd f total N C I Dd s n s'
theorem ZlN(G:Gr base mg mb Gd)(hh:A.handled=none){R:Result->Shared->Prop}{elt iter:Expr}{x:Str}{px:Pos}{ifs:List Expr}{scope:Scope}{pos:Pos}{I Dd:Addr}{cenv:Env}{f:D->Option (Option D)}{total:List D}{N:Nat}{s₀:Shared}
  (hN:N<=sizeLine) (W:CA P S base s.heap cenv.locals I Dd) (hx:cenv.kindOf x=some .local) (hk:cenv.scope.kind=.function)
  (hb:∀d v s₁ m₁ r E' (Qs:Option Value->Shared->Prop),f d=some r->Ok Gd s₁->Pf P s₁.heap->s₁.heap.Ns cenv.locals m₁->m₁ x=some v->Gw s s₁->Rd P s₁.heap v d->
   (r=none->∀s₂,Gw s₁ s₂->Ok Gd s₂->Qs none s₂)->(∀y,r=some y->∀vy s₂,Gw s₁ s₂->Ok Gd s₂->Rd P s₂.heap vy y->Qs (some vy) s₂)->turnT (model prog w) A ifs elt cenv Qs E' s₁)
  (hR:∀s'' (acc:List Value) m,Gw s s''->Ok Gd s''->s''.heap.PlainList Dd acc.toArray->Zad P s''.heap acc total->s''.heap.Ns cenv.locals m->R (.ok .next) s'')
  {k:Nat} (V:CJ P S Gd f total N cenv.locals I Dd s k s₀):codeAny (model prog w) A (.compLoop (.ListComp elt [⟨.Name x px,iter,ifs,0⟩] scope pos) 0 (.ref I) (.ref Dd) cenv) R s₀:=by
 refine codeAny_compLoop_tests (CJ P S Gd f total N cenv.locals I Dd s) (λk s₀ V=>?_) k V
 obtain⟨ds,ys,dn,acc,m,V,e0⟩:=V
 cases ds with
 | nil=>exact wrap V.o.tk (V.it.done hh λh' he htk=>let ⟨g,o,a,b,c⟩:=V.done G W he htk;hR _ acc m g o a b c)
 | cons d ds=>
  refine wrap V.o.tk (V.it.next W.pI λv h₁ tk₁ rv hit hs₁ htk=>?_)
  refine wpAny_assign_Name (wpAny_storeName_local hx (V.ns.extBut hs₁.extBut (Ne.symm W.iC)) (λh₂ hn₂ hs₂=>?_) (by erw[rwl (hk ..) ?_];rfl))
  obtain⟨r,zs,hf,V₂⟩:=V.turn G W hit hs₁.extBut hn₂ hs₂.extBut (Nat.le_succ_of_le htk)
  refine wpAny_mono (hb d v _ _ r _ (λov s₄=>ov.elim (CK P S Gd f total N cenv.locals I Dd s k s₄) λy=>wpAny (model prog w) A (call (.builtin "list.append") [.ref Dd,y]) (λ_=>CK P S Gd f total N cenv.locals I Dd s k) (notedBy (model prog w) A cenv λe s'=>R (.error e) s') s₄) hf V₂.o V₂.hP hn₂ (if_pos rfl) V₂.g ((rv.but W.pI hs₁.extBut).but W.pC hs₂.extBut) (λe s₃ g₃ o₃=>?_) (λy e vy s₃ g₃ o₃ ry=>?_)) (λok s₃ h₃=>by cases ok<;>exact h₃) λ_ _ e=>e
  ·rw[e] at V₂
   exact⟨_,e0▸Nat.lt_succ_self _,ds,_,_,_,_,V₂.gw g₃ o₃,rfl⟩
  ·rw[e] at V₂
   exact(V₂.gw g₃ o₃).app G W hN ry λdn acc s₁ V₃=>⟨_,e0▸Nat.lt_succ_self _,ds,_,_,_,_,V₃,rfl⟩
end
end
section
noncomputable def Zb8(cells:List (Str×Addr)):List (Str×NameKind)->List (Str×Addr)->List (Str×Addr)
 | [],acc=>acc
 | (n,k)::r,acc=>if k==.free then(match cells.lookup n with | some c=>Zb8 cells r ((n,c)::acc) | none=>Zb8 cells r acc) else Zb8 cells r acc
theorem ZvM(cells acc:List (Str×Addr)):Zb8 cells [] acc=acc:=rfl
theorem ZpJ(cells acc:List (Str×Addr))(n:Str)(k:NameKind)(r:List (Str×NameKind)):Zb8 cells ((n,k)::r) acc=if k==.free then(match cells.lookup n with | some c=>Zb8 cells r ((n,c)::acc) | none=>Zb8 cells r acc) else Zb8 cells r acc:=rfl
theorem ZbM{scope:Scope}{env:Env}(h:∀n,(n,NameKind.free)∈scope.names->∃c,env.cells.lookup n=some c):closureFor scope env=pure (Zb8 env.cells scope.names []):=by
 unfold closureFor
 have key:∀(names:List (Str×NameKind)) (acc:List (Str×Addr)) (f:Str×NameKind->List (Str×Addr)->Sem (ForInStep (List (Str×Addr)))),
   (∀n k cs,f (n,k) cs=if(k==NameKind.free)=true then(do let c ←cellOf env n;pure (.yield ((n,c)::cs))) else pure (.yield cs))->
   (∀n,(n,NameKind.free)∈names->∃c,env.cells.lookup n=some c)->forIn names acc f=pure (Zb8 env.cells names acc):=by
  intro names
  induction names with
  | nil=>intro acc f _ _;rfl
  | cons y r ih=>
   intro acc f hf hn
   obtain⟨n,k⟩:=y
   rw[List.forIn_cons,hf,ZpJ]
   have hr:=λa=>ih a f hf λn hm=>hn n (List.mem_cons_of_mem _ hm)
   by_cases hk:(k==NameKind.free)=true
   ·have hk':k=.free:=eq_of_beq hk
    obtain⟨c,hc⟩:=hn n (hk'▸List.mem_cons_self)
    rw[if_pos hk,if_pos hk,hc]
    have:cellOf env n=pure c:=by unfold cellOf;rw[hc]
    rw[this]
    exact hr _
   ·rw[if_neg hk,if_neg hk]
    exact hr _
 simp only[]
 rw[key scope.names [] _ (λn k cs=>by cases k<;>rfl) h]
 rfl
set_option tactic.hygienic true in
theorem Zbj{cells:List (Str×Addr)}{n:Str}{c:Addr}(hc:cells.lookup n=some c):∀(names:List (Str×NameKind)) (acc:List (Str×Addr)),(∀c',acc.lookup n=some c'->c'=c)->
  (∀c',(Zb8 cells names acc).lookup n=some c'->c'=c)∧((n,NameKind.free)∈names∨(acc.lookup n).isSome->(Zb8 cells names acc).lookup n=some c)
 | [],acc,ha=>⟨ha,λh=>by
   rcases h with h | h
   ·cases h
   ·obtain⟨c',e⟩:=Option.isSome_iff_exists.mp h
    erw[rwl (ZvM ..) (rwl (e ..) (rwl (ha c' e ..) ?_))]⟩
 | (m,k)::r,acc,ha=>by
  erw[rwl (ZpJ ..) ?_]
  have skip:=Zbj hc r acc ha
  split
  ·rename_i hk
   have hk':k=.free:=eq_of_beq hk
   split
   ·rename_i c' hm
    have ha':∀c'',((m,c')::acc).lookup n=some c''->c''=c:=λc'' e=>by
     rw[List.lookup_cons] at e
     split at e
     ·rename_i q
      have:n=m:=eq_of_beq q
      subst this
      rw[hc] at hm;cases hm;cases e;rfl
     ·exact ha _ e
    have ih:=Zbj hc r ((m,c')::acc) ha'
    refine⟨ih.1,λh=>ih.2 ?_⟩
    rcases h with h | h
    ·rcases List.mem_cons.mp h with q | q
     ·cases q
      right
      erw[rwl (List.lookup_cons ..) (rwl (beq_self_eq_true ..) ?_)];rfl
     ·exact .inl q
    ·right
     erw[rwl (List.lookup_cons ..) ?_]
     split
     ·rfl
     ·exact h
   ·rename_i hm
    refine⟨skip.1,λh=>skip.2 ?_⟩
    rcases h with h | h
    ·rcases List.mem_cons.mp h with q | q
     ·cases q;rw[hc] at hm;cases hm
     ·exact .inl q
    ·exact .inr h
  ·rename_i hk
   refine⟨skip.1,λh=>skip.2 ?_⟩
   rcases h with h | h
   ·rcases List.mem_cons.mp h with q | q
    ·cases q;exact absurd rfl hk
    ·exact .inl q
   ·exact .inr h
theorem ZbP{scope sc:Scope}{env:Env}(h:env.scope=sc):relabel scope env=ZkJ sc scope:=by
 subst h;rfl
theorem ZfR{sc:Scope}{names:List (Str×NameKind)}{x:Str}(h:names.lookup x=some .local):(ZpC sc names).lookup x=some .local:=by
 have:=@lookup_relabel_local ({ scope:=sc,locals:=0,globals:=0,cells:=[] }:Env) names x h
 exact this
theorem Ze1{sc:Scope}(hk:sc.kind=.function){x:Str}(hc:sc.names.lookup x=some .cell):∀{names:List (Str×NameKind)},names.lookup x=some .free->(ZpC sc names).lookup x=some .cell
 | [],h=>by simp at h
 | (n,k)::r,h=>by
  rw[List.lookup_cons] at h
  have ih:=@Ze1 sc hk x hc r
  unfold ZpC at ih ⊢
  erw[rwl (List.map_cons ..) ?_]
  cases hx:x==n with
  | true=>
   rw[hx] at h
   cases h
   have e:n=x:=(eq_of_beq hx).symm
   subst e
   simp[List.lookup_cons,hk,hc]
  | false=>
   rw[hx] at h
   have ih:=ih h
   dsimp only
   split<;>(erw[rwl (List.lookup_cons ..) (rwl (hx ..) ?_)];exact ih)
set_option tactic.hygienic true in
theorem Zfb{sc:Scope}{x:Str}:∀{names:List (Str×NameKind)},(∀y∈names,y.2≠.cell)->(ZpC sc names).lookup x=some .cell->(x,NameKind.free)∈names∧sc.names.lookup x=some .cell
 | [],_,h=>by simp[ZpC] at h
 | (n,k)::r,hn,h=>by
  have ih:=@Zfb sc x r (λy hy=>hn y (List.mem_cons_of_mem _ hy))
  unfold ZpC at ih h
  rw[List.map_cons] at h
  dsimp only at h
  split at h
  ·rename_i hc
   simp only[Bool.and_eq_true] at hc
   rw[List.lookup_cons] at h
   split at h
   ·rename_i q
    have e:x=n:=eq_of_beq q
    subst e
    have hk:=eq_of_beq hc.1.1
    subst hk
    exact⟨List.mem_cons_self,eq_of_beq hc.2⟩
   ·have:=ih h;exact⟨List.mem_cons_of_mem _ this.1,this.2⟩
  ·rw[List.lookup_cons] at h
   split at h
   ·cases h;exact absurd rfl (hn _ List.mem_cons_self)
   ·have:=ih h;exact⟨List.mem_cons_of_mem _ this.1,this.2⟩
theorem mem_lookup{α:Type}{names:List (Str×α)}{n:Str}{k:α}(h:names.lookup n=some k):(n,k)∈names:=mem_of_lookup h
theorem ZoJ{σ:Sg}{t i:Nat}{d d':D}(h:rd (σ.set t (.fz d)) i=some d'):(i=t∧d'=d)∨(i≠t∧rd σ i=some d'):=by
 unfold rd at h ⊢
 by_cases q:i=t
 ·subst q
  by_cases hl:i < σ.length
  ·rw[List.getElem?_set_self hl] at h;cases h;exact .inl ⟨rfl,rfl⟩
  ·rw[List.getElem?_eq_none (by simp;lia)] at h;cases h
 ·rw[List.getElem?_set_ne (Ne.symm q)] at h;exact .inr ⟨q,h⟩
theorem ZpX{σ:Sg}{t i:Nat}{d d':D}(h:rdt (σ.set t (.fz d)) i=some d'):(i=t∧d'=d)∨(i≠t∧rdt σ i=some d'):=by
 unfold rdt at h ⊢
 by_cases q:i=t
 ·subst q
  by_cases hl:i < σ.length
  ·rw[List.getElem?_set_self hl] at h;cases h;exact .inl ⟨rfl,rfl⟩
  ·rw[List.getElem?_eq_none (by simp;lia)] at h;cases h
 ·rw[List.getElem?_set_ne (Ne.symm q)] at h;exact .inr ⟨q,h⟩
theorem ZpF{fr:List Nat}{σ:Sg}{i:Nat}{d:D}(h:rd (mask fr σ) i=some d):fr.contains i=true∧rd σ i=some d:=by
 unfold rd mask at h
 rw[List.getElem?_mapIdx] at h
 unfold rd
 cases e:σ[i]? with
 | none=>rw[e] at h;cases h
 | some s=>
  rw[e] at h
  simp only[Option.map_some] at h
  cases hf:fr.contains i with
  | true=>rw[hf] at h;exact⟨rfl,h⟩
  | false=>rw[hf] at h;cases h
theorem Znq{fr:List Nat}{σ:Sg}{i:Nat}{d:D}(h:rdt (mask fr σ) i=some d):fr.contains i=true∧rdt σ i=some d:=by
 unfold rdt mask at h
 rw[List.getElem?_mapIdx] at h
 unfold rdt
 cases e:σ[i]? with
 | none=>rw[e] at h;cases h
 | some s=>
  rw[e] at h
  simp only[Option.map_some] at h
  cases hf:fr.contains i with
  | true=>rw[hf] at h;exact⟨rfl,h⟩
  | false=>rw[hf] at h;cases h
theorem ZaO.excl{env:Env}{sc:Scope}{nm:List Str}{P P':Addr->Prop}{σ:Sg}{h:Heap}(x:ZaO env sc nm P σ h)(hP:∀a o,h.get? a=some o->P a->P' a):ZaO env sc nm P' σ h:=⟨x.scp,
x.kf,
x.gl,
x.bi,
x.cells,
(λi d e=>let ⟨n,v,a,b,c⟩:=x.vars i d e;⟨n,v,a,b,c.mono λa o _ e p=>⟨hP a o e p,e⟩⟩),
(λi d e=>let ⟨n,v,a,b,c⟩:=x.ZtK i d e;⟨n,v,a,b,c.mono (λa o _ e p=>⟨hP a o e p,e⟩) λ_ _ _ e=>e⟩)⟩
set_option tactic.hygienic true in
theorem ZaU{sc:Scope}{nm:List Str}{fr:List Nat}{scope:Scope}(h:ZbR sc nm fr scope=true) :
  (∀y∈scope.names,y.2≠.cell)∧(∀y∈scope.names,y.2=.local->scope.names.lookup y.1=some .local)∧(∀n,(n,NameKind.free)∈scope.names->sc.names.lookup n=some .cell)∧scope.kind=.function∧sc.kind=.function∧
   ∀i,fr.contains i=true->∃n,nm[i]? = some n∧scope.names.lookup n=some .free:=by
 unfold ZbR at h
 simp only[Bool.and_eq_true,List.all_eq_true,beq_iff_eq,bne_iff_ne,Bool.or_eq_true] at h
 obtain⟨⟨⟨h1,h2⟩,h3⟩,h4⟩:=h
 refine⟨λy hy=>(h1 y hy).1.1,λy hy e=>(h1 y hy).1.2.resolve_left (λq=>q e),λn hn=>(h1 _ hn).2.resolve_left (λq=>q rfl),h2,h3,λi hi=>?_⟩
 have:=h4 i (by simpa using hi)
 split at this
 ·rename_i n hn
  exact⟨n,hn,by simpa using this⟩
 ·cases this
theorem ZaO.comp{env:Env}{sc:Scope}{nm:List Str}{P:Addr->Prop}{σ:Sg}{h:Heap}(x:ZaO env sc nm P σ h){fr:List Nat}{scope:Scope}(ok:ZbR sc nm fr scope=true){C:Addr}{m:Str->Option Value}(hn:h.Ns C m)
  {t:Nat} {n:Str} {d:D} {v:Value} (ht:nm[t]? = some n) (hl:scope.names.lookup n=some .local) (hm:m n=some v) (hr:Rd P h v d) (_htf:fr.contains t=false) :
  ZaO (compEnvC scope (Zb8 env.cells scope.names []) C env) (ZkJ sc scope) nm P ((mask fr σ).set t (.fz d)) h:=⟨ZbP x.scp,
(ZaU ok).2.2.2.1,
x.gl,
x.bi,
(λy hy=>by
  obtain⟨h1,h2⟩:=Zfb (ZaU ok).1 hy
  obtain⟨c,hc⟩:=x.cells y h2
  exact⟨c,(Zbj hc scope.names [] (λ_ e=>by simp at e)).2 (.inl h1)⟩),
(λi d' e=>by
  rcases ZoJ e with⟨rfl,rfl⟩ | ⟨hne,e⟩
  ·exact⟨n,v,ht,.inl ⟨by show(relabel scope env).names.lookup n=_;erw[rwl (ZbP x.scp ..) ?_];exact ZfR hl,m,hn,hm⟩,hr⟩
  ·obtain⟨h1,h2⟩:=ZpF e
   obtain⟨y,hy,hf⟩:=(ZaU ok).2.2.2.2.2 i h1
   obtain⟨y',u,hy',hv,hru⟩:=x.vars i d' h2
   rw[hy] at hy';cases hy'
   have hc:=(ZaU ok).2.2.1 y (mem_lookup hf)
   refine⟨y,u,hy,.inr ⟨.inl (by show(relabel scope env).names.lookup y=_;erw[rwl (ZbP x.scp ..) ?_];exact Ze1 x.kf hc hf),?_⟩,hru⟩
   rcases hv with⟨hk,_⟩ | ⟨_,c,e1,e2⟩
   ·rw[Env.kindOf,x.scp,hc] at hk;cases hk
   ·exact⟨c,(Zbj e1 scope.names [] (λ_ e=>by simp at e)).2 (.inl (mem_lookup hf)),e2⟩),
(λi d' e=>by
  rcases ZpX e with⟨rfl,rfl⟩ | ⟨hne,e⟩
  ·exact⟨n,v,ht,.inl ⟨by show(relabel scope env).names.lookup n=_;erw[rwl (ZbP x.scp ..) ?_];exact ZfR hl,m,hn,hm⟩,.of hr⟩
  ·obtain⟨h1,h2⟩:=Znq e
   obtain⟨y,hy,hf⟩:=(ZaU ok).2.2.2.2.2 i h1
   obtain⟨y',u,hy',hv,hru⟩:=x.ZtK i d' h2
   rw[hy] at hy';cases hy'
   have hc:=(ZaU ok).2.2.1 y (mem_lookup hf)
   refine⟨y,u,hy,.inr ⟨.inl (by show(relabel scope env).names.lookup y=_;erw[rwl (ZbP x.scp ..) ?_];exact Ze1 x.kf hc hf),?_⟩,hru⟩
   rcases hv with⟨hk,_⟩ | ⟨_,c,e1,e2⟩
   ·rw[Env.kindOf,x.scp,hc] at hk;cases hk
   ·exact⟨c,(Zbj e1 scope.names [] (λ_ e=>by simp at e)).2 (.inl (mem_lookup hf)),e2⟩)⟩
end
section
theorem Ze5{f:D->Option (Option D)}:∀{ds ys:List D},ZbX f ds=some ys->ys.length<=ds.length
 | [],_,h=>eqs h (Nat.le_refl _)
 | d::ds,_,h=>Zac (show(f d).bind _=some _ from h) λr _ h=>by
  revert h
  cases r with
  | none=>exact λh=>Zds h λzs h=>Nat.le_succ_of_le (Ze5 h)
  | some _=>exact λh=>Zds h λzs h=>Nat.succ_le_succ (Ze5 h)
theorem It.excl{P P' S:Addr->Prop}{h:Heap}{I:Addr}{ds:List D}(x:It P S h I ds)(hP:∀a o,h.get? a=some o->P a->P' a):It P' S h I ds:=by
 cases x with
 | list hi hl hne hs hr=>exact .list hi hl hne hs (hr.mono λa o _ e p=>⟨hP a o e p,e⟩)
 | range hi=>exact .range hi
theorem It.self{prog:Program}{w:World}{A:Around}{E:Value->Shared->Prop}{s:Shared}{P S:Addr->Prop}{I:Addr}{ds:List D}{Q:Value->Shared->Prop}(x:It P S s.heap I ds)(h:Q (.ref I) s):wpAny (model prog w) A (pyIter (.ref I)) Q E s:=by
 cases x with
 | list hi=>exact wpAny_pyIter_listiter hi h
 | range hi=>exact wpAny_pyIter_rangeiter hi h
section
variable {prog:Program}{w:World}{A:Around}{E:Value->Shared->Prop}{s:Shared}{P:Addr->Prop}{base:Addr->Prop}{mg mb:Str->Option Value}{Gd:Heap->Prop}
theorem Zqq(G:Gr base mg mb Gd)(hP:Pf P s.heap){s₁:Shared}{h₁:Heap}{I Dd C:Addr}{S:Addr->Prop}{ds ys:List D}{f:D->Option (Option D)}{m:Str->Option Value}{tk:Tok}(g₁:Gw s s₁)(o₁:Ok Gd s₁)(hit:It (λa=>P a∧a≠I) S s₁.heap I ds)(hI:s.heap.get? I=none)(hbI : ¬base I)(hS:∀b,S b->∃ob,s₁.heap.get? b=some ob)
  (hD:s₁.heap.get? Dd=none) (hC:s₁.heap.get? C=none) (hDC:Dd≠C) (k1:∀b ob,s₁.heap.get? b=some ob->h₁.get? b=some ob) (hacc:h₁.PlainList Dd ([]:List Value).toArray) (hn:h₁.Ns C m) (htk:1<=tk) (hc:ZbX f ds=some ys) :
  CA (λa=>(P a∧a≠I)∧a≠Dd∧a≠C) S base s.heap C I Dd∧CJ (λa=>(P a∧a≠I)∧a≠Dd∧a≠C) S Gd f ys ds.length C I Dd s ds.length { s₁ with heap:=h₁,toks:=tk }:=by
 have ne:∀{a b o},s₁.heap.get? a=some o->s₁.heap.get? b=none->b≠a:=λe e' q=>nn (e'.symm.trans (q▸e))
 obtain⟨oI,eI,_,nI⟩:=hit.mut
 refine⟨⟨λp=>p.1.2 rfl,λp=>p.2.1 rfl,λp=>p.2.2 rfl,λq=>let ⟨_,e⟩:=hS _ q;nn (hD.symm.trans e),λq=>let ⟨_,e⟩:=hS _ q;nn (hC.symm.trans e),ne eI hD,hDC,Ne.symm (ne eI hC),hbI,G.fresh o₁.gd hD,G.fresh o₁.gd hC,hI,g₁.none hD,g₁.none hC⟩,
  ds,ys,[],[],m,⟨hc,rfl,hacc,.nil,hn,Nat.le_of_eq ((Nat.zero_add _).trans (Nat.zero_add _)),?_,⟨G.keeps o₁.gd k1,htk⟩,?_,g₁.trans (.of_keep k1)⟩,rfl⟩
 ·exact(hit.excl (P':=λa=>(P a∧a≠I)∧a≠Dd∧a≠C) λa ob e p=>⟨p,Ne.symm (ne e hD),Ne.symm (ne e hC)⟩).mono λb ob _ _ e=>k1 b ob e
 ·intro a na
  by_cases qI:a=I
  ·exact⟨oI,nI,qI▸k1 _ _ eI⟩
  ·by_cases qD:a=Dd
   ·obtain⟨oI,eI,_,nI⟩:=Mut.plain hacc;exact⟨oI,nI,qD▸eI⟩
   ·by_cases qC:a=C
    ·obtain⟨oI,eI,_,nI⟩:=Mut.ns hn;exact⟨oI,nI,qC▸eI⟩
    ·obtain⟨ob,no,e⟩:=hP a λp=>na ⟨⟨p,qI⟩,qD,qC⟩
     exact⟨ob,no,k1 _ _ (g₁.kp _ _ no e)⟩
theorem Zf9(G:Gr base mg mb Gd){use:Option (Value->Sem Unit)}{Q:Value->Shared->Prop}{env:Env}{sc:Scope}{nm:List Str}{σ:Sg}{fr:List Nat}{scope:Scope}{elt tg iter:Expr}{pos:Pos}{ifs:List Expr}{f:D->Option (Option D)}{ds ys:List D}
  (x:ZaO env sc nm P σ s.heap) (hP:Pf P s.heap) (ok:ZbR sc nm fr scope=true) (hset:∀v,foldedSetIterable iter env v=pure v) (hlen:ds.length<=sizeLine)
  (hsrc:∀Q':Value->Shared->Prop,(∀I s₁ S,Gw s s₁->Ok Gd s₁->It (λa=>P a∧a≠I) S s₁.heap I ds->s.heap.get? I=none->¬base I->(∀b,S b->∃ob,s₁.heap.get? b=some ob)->Q' (.ref I) s₁)->
   wpAny (model prog w) A (eval iter env) (λxv s₁=>wpAny (model prog w) A (pyIter xv) Q' E s₁) E s)
  (hc:ZbX f ds=some ys)
  (hU:∀Dd C s' m,Gw s s'->Ok Gd s'->Rd (λa=>P a∧a≠C) s'.heap (.ref Dd) (.list ys)->s.heap.get? Dd=none->s.heap.get? C=none->Dd≠C->¬base C->s'.heap.Ns C m->compPost (model prog w) A E use Q (.ref Dd) C (.ok .next) s')
  (loop:∀(P₁ S:Addr->Prop) (I Dd C:Addr) (s₁:Shared) (R:Result->Shared->Prop),CA P₁ S base s.heap C I Dd->ZaO env sc nm P₁ σ s.heap->CJ P₁ S Gd f ys ds.length C I Dd s ds.length s₁->
   (∀s'' (acc:List Value) m,Gw s s''->Ok Gd s''->s''.heap.PlainList Dd acc.toArray->Zad P₁ s''.heap acc ys->s''.heap.Ns C m->R (.ok .next) s'')->
   codeAny (model prog w) A (.compLoop (.ListComp elt [⟨tg,iter,ifs,0⟩] scope pos) 0 (.ref I) (.ref Dd) (compEnvC scope (Zb8 env.cells scope.names []) C env)) R s₁) :
  wpAny (model prog w) A (comprehension (.ListComp elt [⟨tg,iter,ifs,0⟩] scope pos) scope env (firstIterPos [⟨tg,iter,ifs,0⟩] pos) (newList []) false (eval iter env) use) Q E s:=by
 have sk:=ZaU ok
 refine wpAny_comprehension_free rfl hset (ZbM λn hn=>x.cells n (sk.2.2.1 n hn)) sk.2.2.2.1 sk.2.1 (hsrc _ λI s₁ S g₁ o₁ hit hI hbI hS=>wpAny_newObj_type ?_)
 refine wpAny_newFunctionEnv sk.1 (λy hy=>absurd hy List.not_mem_nil) (λh₁ hns₁ hsb₁=>?_) sk.2.2.2.1
 have hDH:(s₁.heap.push { cls:=.type "list",dict:=none,data:=.seq ([]:List Value).toArray }).get? s₁.heap.objs.size=some { cls:=.type "list",dict:=none,data:=.seq ([]:List Value).toArray }:=Heap.get?_push_size _ rfl
 have kh:=λb ob e=>hsb₁.extBut b ob (Nat.ne_of_lt (Heap.lt_size e)) (Heap.get?_push_of_some _ e)
 have hC:s₁.heap.get? (s₁.heap.push { cls:=.type "list",dict:=none,data:=.seq ([]:List Value).toArray }).objs.size=none:=by
  cases e:s₁.heap.get? (s₁.heap.push { cls:=.type "list",dict:=none,data:=.seq ([]:List Value).toArray }).objs.size with
  | none=>rfl
  | some ob=>exact nn ((Zau _).symm.trans (Heap.get?_push_of_some _ e))
 obtain⟨W,V⟩:=Zqq G hP (f:=f) (ys:=ys) (tk:=s₁.toks+([]:List (Str×Value)).length) g₁ o₁ hit hI hbI hS (Zau _) hC (Nat.ne_of_lt (Heap.lt_size hDH)) (λb ob e=>kh b ob (Heap.get?_push_of_some _ e)) ⟨0,kh _ _ hDH⟩ hns₁ o₁.tk hc
 have e2:∀{a:Addr} {o:Obj} {b},s.heap.get? a=some o->s.heap.get? b=none->a≠b:=λe e' q=>nn (e'.symm.trans (q▸e))
 have l1:=loop _ _ _ _ _ _ (compPost (model prog w) A E use Q (.ref s₁.heap.objs.size) _) W (x.excl λa ob e p=>⟨⟨p,e2 e W.nI⟩,e2 e W.nD,e2 e W.nC⟩) V λs'' acc m g'' o'' hpl hra hn''=>
  hU _ _ s'' m g'' o'' (.list (vs:=acc) ⟨hP.fresh W.nD,W.dC⟩ hpl (hra.mono λa ob _ e p=>⟨⟨p.1.1,p.2.2⟩,e⟩) (Nat.le_trans (Ze5 hc) hlen)) W.nD W.nC W.dC W.bC hn''
 obtain⟨_,_,_,_,_,V,_⟩:=V
 exact codeAny_compStart_list l1 (It.self V.it l1)
theorem Zg1(G:Gr base mg mb Gd)(hh:A.handled=none){use:Option (Value->Sem Unit)}{Q:Value->Shared->Prop}{env:Env}{sc:Scope}{nm:List Str}{σ:Sg}{fr:List Nat}{t:Nat}{scope:Scope}{elt iter:Expr}{y:Str}{py pos:Pos}{ifs:List Expr}{f:D->Option (Option D)}{ds ys:List D}
  (x:ZaO env sc nm P σ s.heap) (hP:Pf P s.heap) (ok:ZbR sc nm fr scope=true) (hy:nm[t]? = some y) (hl:scope.names.lookup y=some .local) (htf:fr.contains t=false) (hset:∀v,foldedSetIterable iter env v=pure v) (hlen:ds.length<=sizeLine)
  (hsrc:∀Q':Value->Shared->Prop,(∀I s₁ S,Gw s s₁->Ok Gd s₁->It (λa=>P a∧a≠I) S s₁.heap I ds->s.heap.get? I=none->¬base I->(∀b,S b->∃ob,s₁.heap.get? b=some ob)->Q' (.ref I) s₁)->
   wpAny (model prog w) A (eval iter env) (λxv s₁=>wpAny (model prog w) A (pyIter xv) Q' E s₁) E s)
  (hbody:∀d r cenv s₁ (P₁:Addr->Prop) E' Qs,f d=some r->ZaO cenv (ZkJ sc scope) nm P₁ ((mask fr σ).set t (.fz d)) s₁.heap->Ok Gd s₁->Pf P₁ s₁.heap->
   (r=none->∀s₂,Gw s₁ s₂->Ok Gd s₂->Qs none s₂)->(∀z,r=some z->∀vz s₂,Gw s₁ s₂->Ok Gd s₂->Rd P₁ s₂.heap vz z->Qs (some vz) s₂)->turnT (model prog w) A ifs elt cenv Qs E' s₁)
  (hc:ZbX f ds=some ys)
  (hU:∀Dd C s' m,Gw s s'->Ok Gd s'->Rd (λa=>P a∧a≠C) s'.heap (.ref Dd) (.list ys)->s.heap.get? Dd=none->s.heap.get? C=none->Dd≠C->¬base C->s'.heap.Ns C m->compPost (model prog w) A E use Q (.ref Dd) C (.ok .next) s') :
  wpAny (model prog w) A (comprehension (.ListComp elt [⟨.Name y py,iter,ifs,0⟩] scope pos) scope env (firstIterPos [⟨.Name y py,iter,ifs,0⟩] pos) (newList []) false (eval iter env) use) Q E s:=
 Zf9 G x hP ok hset hlen hsrc hc hU λP₁ S I Dd C s₁ R W x₁ V hR=>
  ZlN (cenv:=compEnvC scope (Zb8 env.cells scope.names []) C env) G hh hlen W (lookup_relabel_local hl) (ZaU ok).2.2.2.1 (λd v s₂ m₁ r E' Qs hf o₂ hP₂ hn₂ hm₂ g₂ rv hnone hsome=>hbody d r _ s₂ P₁ E' Qs hf ((x₁.kp g₂.kp).comp ok hn₂ hy hl hm₂ rv htf) o₂ hP₂ hnone hsome) hR V
theorem Zkh(G:Gr base mg mb Gd)(hh:A.handled=none){Q:Value->Shared->Prop}{env:Env}{sc:Scope}{nm:List Str}{σ:Sg}{fr:List Nat}{t:Nat}{scope:Scope}{elt iter:Expr}{y:Str}{py pos:Pos}{ifs:List Expr}{f:D->Option (Option D)}{ds ys:List D}
  (x:ZaO env sc nm P σ s.heap) (o:Ok Gd s) (hP:Pf P s.heap) (ok:ZbR sc nm fr scope=true) (hy:nm[t]? = some y) (hl:scope.names.lookup y=some .local) (htf:fr.contains t=false) (hset:∀v,foldedSetIterable iter env v=pure v) (hlen:ds.length<=sizeLine)
  (hsrc:∀Q':Value->Shared->Prop,(∀I s₁ S,Gw s s₁->Ok Gd s₁->It (λa=>P a∧a≠I) S s₁.heap I ds->s.heap.get? I=none->¬base I->(∀b,S b->∃ob,s₁.heap.get? b=some ob)->Q' (.ref I) s₁)->
   wpAny (model prog w) A (eval iter env) (λxv s₁=>wpAny (model prog w) A (pyIter xv) Q' E s₁) E s)
  (hbody:∀d r cenv s₁ (P₁:Addr->Prop) E' Qs,f d=some r->ZaO cenv (ZkJ sc scope) nm P₁ ((mask fr σ).set t (.fz d)) s₁.heap->Ok Gd s₁->Pf P₁ s₁.heap->
   (r=none->∀s₂,Gw s₁ s₂->Ok Gd s₂->Qs none s₂)->(∀z,r=some z->∀vz s₂,Gw s₁ s₂->Ok Gd s₂->Rd P₁ s₂.heap vz z->Qs (some vz) s₂)->turnT (model prog w) A ifs elt cenv Qs E' s₁)
  (hc:ZbX f ds=some ys) (k:Kc Gd P (.list ys) Q s) :
  wpAny (model prog w) A (eval (.ListComp elt [⟨.Name y py,iter,ifs,0⟩] scope pos) env) Q E s:=by
 erw[rwl (eval_ListComp ..) ?_]
 refine Zg1 (use:=none) G hh x hP ok hy hl htf hset hlen hsrc hbody hc λDd C s' m g' o' r hD hC hDC hCb hn=>?_
 refine⟨m,hn,λh' hs=>k _ _ ⟨λb ob n e=>hs.extBut b ob (λq=>by rw[q,hC] at e;cases e) (g'.kp b ob n e),λb ob e=>let ⟨o2,e2⟩:=g'.ex b ob e;⟨o2,hs.extBut b o2 (λq=>by rw[q,hC] at e;cases e) e2⟩,g'.os,g'.gens⟩
  ⟨let ⟨oC,eC,mC,_⟩:=Mut.ns hn;G.same o'.gd hCb eC mC hs.extBut,o'.tk⟩ (r.mono λa ob _ e p=>⟨p.1,hs.extBut a ob p.2 e⟩)⟩
end
end
section
noncomputable def RdX(b:Bool)(P:Addr->Prop)(h:Heap)(v:Value)(d:D):Prop:=if b then Rd P h v d else Rd0 P h v d
theorem RdX.weak{b:Bool}{P:Addr->Prop}{h:Heap}{v:Value}{d:D}(x:RdX b P h v d):Rd0 P h v d:=by
 cases b with
 | true=>exact .of x
 | false=>exact x
theorem RdX.str{P:Addr->Prop}{h:Heap}{v:Value}{d:D}{b:Bool}(hb:b=true)(x:RdX b P h v d):Rd P h v d:=by subst hb;exact x
theorem Zcl{op:CmpOp}{e:Expr}(h:Zai e=true):behindInMarks op e=false:=by
 cases e<;>first | rfl | exact nf h
theorem ZdM{e:Expr}{env:Env}(h:Zai e=true)(v:Value):foldedSetIterable e env v=pure v:=by
 cases e<;>first | rfl | exact nf h
theorem Zab{e:Expr}{r:List Expr}{env:Env}(h:Zai e=true):starEach (e::r) env=(false,eval e env)::starEach r env:=by
 cases e<;>first | rfl | exact nf h
theorem ZdP{e:Expr}{o i:Value}(h:Zai e=true):subscripted e false o i=operate [o,i] (getItem o i):=by
 cases e<;>first | rfl | exact nf h
theorem ZaQ{o:Expr}{n:Str}{env:Env}{m:Sem Value}(h:ZeM o=true):attributeBase o n env m=m:=by
 cases o with
 | Call g as kw p=>
  cases as with
  | cons=>cases g<;>rfl
  | nil=>
   cases kw with
   | cons=>cases g<;>rfl
   | nil=>cases g<;>first | rfl | exact nf h
 | _=>rfl
theorem Zah{pos:Pos}{t:Sem Value}{r:List (Bool×Sem Value)}:backTo pos ((false,t)::r)=(false,t)::backTo pos r:=rfl
theorem Zay{pos:Pos}:backTo pos []=[]:=rfl
theorem Zam{env:Env}:starEach [] env=[]:=rfl
noncomputable abbrev Zak(prog:Program)(w:World)(Gd:Heap->Prop)(mg:Str->Option Value)(Γ:ZaC)(fn:Nat->Str)(fa:Nat->Addr)(n:Nat):Prop:=(∀f ds d,Γ f ds=some d->mg (fn f)=some (.ref (fa f)))∧(∀f ds d,Γ f ds=some d->∃o fd,o.data=.func fd∧∀h,Gd h->h.get? (fa f)=some o)∧(∀f ds d,Γ f ds=some d->∀(A:Around) (P:Addr->Prop) (s:Shared) (vs:List Value) (R:Result->Shared->Prop),Lv A n->Ok Gd s->Pf P s.heap->Zad P s.heap vs ds->
  (∀v s',Gw s s'->Ok Gd s'->Rd P s'.heap v d->R (.ok (.ret v)) s')->codeAny (model prog w) A (.call (.ref (fa f)) ⟨vs,[]⟩) R s)
theorem Zak.nm{prog:Program}{w:World}{Gd:Heap->Prop}{mg:Str->Option Value}{Γ:ZaC}{fn:Nat->Str}{fa:Nat->Addr}{n:Nat}(slf:Zak prog w Gd mg Γ fn fa n):∀f ds d,Γ f ds=some d->mg (fn f)=some (.ref (fa f)):=slf.1
theorem Zak.ob{prog:Program}{w:World}{Gd:Heap->Prop}{mg:Str->Option Value}{Γ:ZaC}{fn:Nat->Str}{fa:Nat->Addr}{n:Nat}(slf:Zak prog w Gd mg Γ fn fa n):∀f ds d,Γ f ds=some d->∃o fd,o.data=.func fd∧∀h,Gd h->h.get? (fa f)=some o:=slf.2.1
theorem Zak.ok{prog:Program}{w:World}{Gd:Heap->Prop}{mg:Str->Option Value}{Γ:ZaC}{fn:Nat->Str}{fa:Nat->Addr}{n:Nat}(slf:Zak prog w Gd mg Γ fn fa n):∀f ds d,Γ f ds=some d->∀(A:Around) (P:Addr->Prop) (s:Shared) (vs:List Value) (R:Result->Shared->Prop),Lv A n->Ok Gd s->Pf P s.heap->Zad P s.heap vs ds->
  (∀v s',Gw s s'->Ok Gd s'->Rd P s'.heap v d->R (.ok (.ret v)) s')->codeAny (model prog w) A (.call (.ref (fa f)) ⟨vs,[]⟩) R s:=slf.2.2
section
variable (prog:Program) (w:World) (base:Addr->Prop) (mg mb:Str->Option Value) (Gd:Heap->Prop) (Γ:ZaC) (nm:List Str) (fn:Nat->Str) (fa:Nat->Addr) (n:Nat)
noncomputable def evB(op:BoolOp)(σ:Sg)(xs:X):Option D:=match op with | .And=>Zfi Γ σ xs | .Or=>Zmr Γ σ xs
noncomputable def tvB(op:BoolOp)(σ:Sg)(xs:X):Option Bool:=match op with | .And=>Zkj Γ σ xs | .Or=>Zru Γ σ xs
noncomputable def SE(x:X):Prop:=∀(sc:Scope) (cp:Bool) (e:Expr) (env:Env) (σ:Sg) (A:Around) (P:Addr->Prop) (s:Shared) (E:Value->Shared->Prop) (Q:Value->Shared->Prop) (d:D),
 mt nm fn sc cp x e=true->ZaO env sc nm P σ s.heap->Lv A n->Ok Gd s->Pf P s.heap->ev Γ σ x=some d->(∀v s',Gw s s'->Ok Gd s'->RdX x.fz P s'.heap v d->Q v s')->wpAny (model prog w) A (eval e env) Q E s
noncomputable def SL(xs:X):Prop:=∀(sc:Scope) (cp:Bool) (es:List Expr) (env:Env) (σ:Sg) (A:Around) (P:Addr->Prop) (s:Shared) (pos:Pos) (E:Value->Shared->Prop) (Q:List Value->Shared->Prop) (ds:List D),
 mtL nm fn sc cp xs es=true->ZdT xs=true->ZaO env sc nm P σ s.heap->Lv A n->Ok Gd s->Pf P s.heap->evL Γ σ xs=some ds->(∀vs s',Gw s s'->Ok Gd s'->Zad P s'.heap vs ds->Q vs s')->wpAny (model prog w) A (spliced (backTo pos (starEach es env))) Q E s
noncomputable def ST(x:X):Prop:=∀(sc:Scope) (cp:Bool) (e:Expr) (env:Env) (σ:Sg) (A:Around) (P:Addr->Prop) (s:Shared) (E:Value->Shared->Prop) (Q:Bool->Shared->Prop) (b:Bool),
 mtT nm fn sc cp x e=true->ZaO env sc nm P σ s.heap->Lv A n->Ok Gd s->Pf P s.heap->tv Γ σ x=some b->(∀s',Gw s s'->Ok Gd s'->Q b s')->wpAny (model prog w) A (isTrue e env (eval e env)) Q E s
noncomputable def SB(op:BoolOp)(xs:X):Prop:=∀(sc:Scope) (cp:Bool) (es:List Expr) (env:Env) (σ:Sg) (A:Around) (P:Addr->Prop) (s:Shared) (pos:Pos) (E:Value->Shared->Prop) (Q:Value->Shared->Prop) (d:D),
 mtL nm fn sc cp xs es=true->ZdT xs=true->ZaO env sc nm P σ s.heap->Lv A n->Ok Gd s->Pf P s.heap->evB Γ op σ xs=some d->(∀v s',Gw s s'->Ok Gd s'->Rd P s'.heap v d->Q v s')->
 wpAny (model prog w) A (boolOp pos op (evalEach es env)) Q E s
noncomputable def SBT(op:BoolOp)(xs:X):Prop:=∀(sc:Scope) (cp:Bool) (es:List Expr) (env:Env) (σ:Sg) (A:Around) (P:Addr->Prop) (s:Shared) (E:Value->Shared->Prop) (Q:Bool->Shared->Prop) (b:Bool),
 Zpd nm fn sc cp xs es=true->ZaO env sc nm P σ s.heap->Lv A n->Ok Gd s->Pf P s.heap->tvB Γ op σ xs=some b->(∀s',Gw s s'->Ok Gd s'->Q b s')->
 wpAny (model prog w) A (allTrue op es env) Q E s
end
section
variable {prog:Program}{w:World}{base:Addr->Prop}{mg mb:Str->Option Value}{Gd:Heap->Prop}{Γ:ZaC}{nm:List Str}{fn:Nat->Str}{fa:Nat->Addr}{n:Nat}
theorem Zjd(G:Gr base mg mb Gd)(d0:D):SE prog w Gd Γ nm fn n (.const d0):=by
 intro sc cp e env σ A P s E Q d hm x L o hP hv k
 have hm:mtc d0 e=true:=hm
 revert k
 refine eqs (show some d0=some d from hv) λk=>?_
 cases d0 with
 | none=>exact Znw hm λ_ _=>wpAny_Constant_none (k _ _ (.refl _) o .none)
 | bool b=>exact Znw hm λ_ _=>wpAny_Constant_bool (k _ _ (.refl _) o (.bool _))
 | int i=>
  refine or2 hm (λh=>Znw h λ_ _=>wpAny_Constant_int (k _ _ (.tok ..) ⟨o.gd,Nat.le_succ_of_le o.tk⟩ (.int _ _))) λh=>Zfg h λ_ _ h=>Znw h λ_ _=>?_
  refine wpAny_UnaryOp (wpAny_Constant_int (PyProof.Rows.neg_int ?_))
  exact k _ _ (.tok ..) ⟨o.gd,Nat.le_succ_of_le (Nat.le_succ_of_le o.tk)⟩ (show Rd P s.heap (.int (- -i) _) (.int i) from by erw[rwl (Int.neg_neg ..) ?_];exact .int _ _)
 | str l=>
  exact Zbg hm λh1 h2=>Znw h1 λ_ _=>wpAny_Constant_str (k _ _ (.tok ..) ⟨o.gd,Nat.le_succ_of_le o.tk⟩ (show Rd P s.heap _ _ from .str l _ (Nat.le_trans (of_decide_eq_true h2) (Nat.le_of_ble_eq_true rfl))))
 | _=>exact nf hm
@[elab_as_elim] theorem Zl5{i:Nat}{e:Expr}{G:Expr->Prop}(h:mtv nm i e=true)(k:∀y p,nm[i]? = some y->y≠("__debug__" : Str)->y≠("__classdict__" : Str)->G (.Name y p)):G e:=
 Zbx (show Zcv _ e=true from h) λy p h=>Zd2 h λh1 h2 h3=>k y p (eq_of_beq h1) (bne_iff_ne.mp h2) (bne_iff_ne.mp h3)
theorem ZsA(i:Nat):SE prog w Gd Γ nm fn n (.var i):=by
 intro sc cp e env σ A P s E Q d hm x L o hP hv k
 refine Zl5 (show mtv nm i e=true from hm) λy p h1 h2 h3=>?_
 obtain⟨z,v,hz,hvar,hr⟩:=x.vars i d hv
 exact Zcn (x.scp▸x.kf) (Option.some.inj (h1.symm.trans hz)▸hvar) h2 h3 (k v s (.refl _) o hr)
theorem Zpp(i:Nat):SE prog w Gd Γ nm fn n (.tvar i):=by
 intro sc cp e env σ A P s E Q d hm x L o hP hv k
 refine Zl5 (show mtv nm i e=true from hm) λy p h1 h2 h3=>?_
 obtain⟨z,v,hz,hvar,hr⟩:=x.ZtK i d hv
 exact Zcn (x.scp▸x.kf) (Option.some.inj (h1.symm.trans hz)▸hvar) h2 h3 (k v s (.refl _) o hr)
theorem bind_some{α β:Type}{a:Option α}{f:α->Option β}{b:β}(h:a.bind f=some b):∃x,a=some x∧f x=some b:=Zac h λx e h=>⟨x,e,h⟩
theorem map_some{α β:Type}{a:Option α}{f:α->β}{b:β}(h:a.map f=some b):∃x,a=some x∧f x=b:=ZdW h λx e h=>⟨x,e,h⟩
theorem ZsY(G:Gr base mg mb Gd){op:Bop}{l r:X}(hl:SE prog w Gd Γ nm fn n l)(hr:SE prog w Gd Γ nm fn n r):SE prog w Gd Γ nm fn n (.bin op l r):=by
 intro sc cp e env σ A P s E Q d hm x L o hP hv k
 refine Zac (show(ev Γ σ l).bind _=_ from hv) λa ha hv=>Zac hv λb hb hv=>?_
 refine ZmV (show Zrv _ e=true from hm) λea oo eb p hm=>Zd2 hm λm1 m2 m3=>eqb m1 ?_
 refine wpAny_BinOp (hl sc cp ea env σ A P s E _ a m2 x L o hP ha λva s₁ g₁ o₁ ra=>?_)
 refine hr sc cp eb env σ A P s₁ E _ b m3 (x.kp g₁.kp) L o₁ (hP.kp g₁.kp) hb λvb s₂ g₂ o₂ rb=>?_
 exact ZuI G L o₂ ((hP.kp g₁.kp).kp g₂.kp) (ra.weak.kp g₂.kp) rb.weak hv λv s' g' o' r'=>k v s' ((g₁.trans g₂).trans g') o' r'
theorem ZsN{op:Cop}{l r:X}(hl:SE prog w Gd Γ nm fn n l)(hr:SE prog w Gd Γ nm fn n r):SE prog w Gd Γ nm fn n (.cmp op l r):=by
 intro sc cp e env σ A P s E Q d hm x L o hP hv k
 refine Zac (show(ev Γ σ l).bind _=_ from hv) λa ha hv=>Zac hv λb hb hv=>ZdW hv λc hc he=>?_
 refine Zle (show Zlk _ _ e=true from hm) λea eb p hm=>Zd2 hm λm1 m2 m3=>?_
 refine wpAny_Compare1 (hl sc cp ea env σ A P s E _ a m2 x L o hP ha λva s₁ g₁ o₁ ra=>?_) (Zcl m1)
 refine hr sc cp eb env σ A P s₁ E _ b m3 (x.kp g₁.kp) L o₁ (hP.kp g₁.kp) hb λvb s₂ g₂ o₂ rb=>?_
 exact ZkQ L (ra.weak.kp g₂.kp) rb.weak hc (k _ _ (g₁.trans g₂) o₂ (he▸.bool c))
theorem ZfP{M:Model}{A:Around}{E:Value->Shared->Prop}{s:Shared}{env:Env}{l y z:Expr}{o1 o2:CmpOp}{pos:Pos}{Q:Value->Shared->Prop}(hz:Zai z=true)
  (h:wpAny M A (eval l env) (λa s₁=>wpAny M A (eval y env) (λb s₂=>wpAny M A (compareOp o1 a b) (λc s₃=>wpAny M A (truthy c) (λt s₄=>
   if t then wpAny M A (eval z env) (λc' s₅=>wpAny M A (compareOp o2 b c') Q E s₅) E s₄ else Q c s₄) E s₃) E s₂) E s₁) E s) :
  wpAny M A (eval (.Compare l [o1,o2] [y,z] pos) env) Q E s:=by
 erw[rwl (arm_eval_Compare ..) ?_]
 refine wpAny_bind (wpAny_mono h (λa s₁ h₁=>?_) λ_ _ x=>x)
 show wpAny M A (compareChain pos a [o1,o2] [eval y env,markedBehindIn o2 z (eval z env)]) Q E s₁
 erw[rwl (markedBehindIn_of_false (Zcl hz) ..) ?_]
 show wpAny M A (do
  let rv ←holding [a] (eval y env)
  standAt pos
  let c ←holding [a,rv] (compareOp o1 a rv)
  release [a,rv] [c]
  if ←holding [c,rv] (truthy c) then compareChain pos rv [o2] [eval z env] else pure c) Q E s₁
 refine wpAny_bind (wpAny_holding (wpAny_mono h₁ (λb s₂ h₂=>?_) λ_ _ x=>x))
 refine wpAny_bind (wpAny_standAt (wpAny_bind (wpAny_holding (wpAny_mono h₂ (λc s₃ h₃=>?_) λ_ _ x=>x))))
 refine wpAny_bind (wpAny_release ?_)
 refine wpAny_bind (wpAny_holding (wpAny_mono h₃ (λt s₄ h₄=>?_) λ_ _ x=>x))
 cases t with
 | false=>exact wpAny_pure h₄
 | true=>
  show wpAny M A (do
   let rv ←holding [b] (eval z env)
   standAt pos
   operate [b,rv] (compareOp o2 b rv)) Q E s₄
  refine wpAny_bind (wpAny_holding (wpAny_mono h₄ (λc' s₅ h₅=>?_) λ_ _ x=>x))
  exact wpAny_bind (wpAny_standAt (λΓ p hΓ=>by erw[rwl (Sem.wp_operate ..) ?_];exact h₅ Γ p hΓ))
theorem ZqK{o1 o2:Cop}{a b c:X}(ha:SE prog w Gd Γ nm fn n a)(hb:SE prog w Gd Γ nm fn n b)(hc:SE prog w Gd Γ nm fn n c):SE prog w Gd Γ nm fn n (.cmp2 o1 o2 a b c):=by
 intro sc cp e env σ A P s E Q d hm x L o hP hv k
 refine Zac (show(ev Γ σ a).bind _=_ from hv) λxa hxa hv=>Zac hv λxb hxb hv=>Zac hv λt ht hv=>?_
 refine Zqm (show Zpn _ _ _ e=true from hm) λel ey ez p hm=>Zm2 hm λm3 m4 m5 m6 m7=>?_
 refine ZfP m4 (ha sc cp el env σ A P s E _ xa m5 x L o hP hxa λva s₁ g₁ o₁ ra=>?_)
 refine hb sc cp ey env σ A P s₁ E _ xb m6 (x.kp g₁.kp) L o₁ (hP.kp g₁.kp) hxb λvb s₂ g₂ o₂ rb=>?_
 refine ZkQ L (ra.weak.kp g₂.kp) rb.weak ht (wpAny_truthy_bool ?_)
 cases t with
 | false=>exact k _ _ (g₁.trans g₂) o₂ (Option.some.inj hv▸.bool false)
 | true=>
  refine Zac (show(ev Γ σ c).bind _=_ from hv) λxc hxc hv=>ZdW hv λr hr he=>?_
  refine hc sc cp ez env σ A P s₂ E _ xc m7 ((x.kp g₁.kp).kp g₂.kp) L o₂ ((hP.kp g₁.kp).kp g₂.kp) hxc λvc s₃ g₃ o₃ rc=>?_
  exact ZkQ L (rb.weak.kp g₃.kp) rc.weak hr (k _ _ ((g₁.trans g₂).trans g₃) o₃ (he▸.bool r))
theorem ZsV{y:X}(hy:SE prog w Gd Γ nm fn n y):SE prog w Gd Γ nm fn n (.not y):=by
 intro sc cp e env σ A P s E Q d hm x L o hP hv k
 refine Zac (show(ev Γ σ y).bind _=_ from hv) λa ha hv=>ZdW hv λb hb he=>?_
 refine Zfg (show Zl3 .Not _ e=true from hm) λea p hm=>?_
 refine wpAny_UnaryOp (hy sc cp _ env σ A P s E _ a hm x L o hP ha λva s₁ g₁ o₁ ra=>not_value (Zn1 ra.weak o₁ hb λs₂ g₂ o₂ _=>?_))
 exact k _ _ (g₁.trans g₂) o₂ (he▸.bool _)
theorem Ztx{t a b:X}(ht:ST prog w Gd Γ nm fn n t)(ha:SE prog w Gd Γ nm fn n a)(hb:SE prog w Gd Γ nm fn n b):SE prog w Gd Γ nm fn n (.ite t a b):=by
 intro sc cp e env σ A P s E Q d hm x L o hP hv k
 refine Zac (show(tv Γ σ t).bind _=_ from hv) λc hc hv=>?_
 refine Zuw (show qIf _ e=true from hm) λeu ec ed p hm=>Zm2 hm λm1 m2 m3 m4 m5=>?_
 refine wpAny_IfExp (ht sc cp _ env σ A P s E _ c m3 x L o hP hc λs₁ g₁ o₁=>?_)
 cases c with
 | true=>exact ha sc cp _ env σ A P s₁ E Q d m4 (x.kp g₁.kp) L o₁ (hP.kp g₁.kp) hv λv s' g' o' r'=>k v s' (g₁.trans g') o' (r'.str m1)
 | false=>exact hb sc cp _ env σ A P s₁ E Q d m5 (x.kp g₁.kp) L o₁ (hP.kp g₁.kp) hv λv s' g' o' r'=>k v s' (g₁.trans g') o' (r'.str m2)
end
end
section
section
variable {prog:Program}{w:World}{base:Addr->Prop}{mg mb:Str->Option Value}{Gd:Heap->Prop}{Γ:ZaC}{nm:List Str}{fn:Nat->Str}{fa:Nat->Addr}{n:Nat}
theorem Zsa:SL prog w Gd Γ nm fn n .nil:=by
 intro sc cp es env σ A P s pos E Q ds hm hf x L o hP hv k
 revert k
 exact eqs (show some []=some ds from hv) λk=>ZcD (show es.isEmpty=true from hm) (Calls.spliced_nil (k _ _ (.refl _) o .nil))
theorem Zrh{y ys:X}(hy:SE prog w Gd Γ nm fn n y)(hys:SL prog w Gd Γ nm fn n ys):SL prog w Gd Γ nm fn n (.cons y ys):=by
 intro sc cp es env σ A P s pos E Q ds hm hf x L o hP hv k
 refine Zac (show(ev Γ σ y).bind _=_ from hv) λa ha hv=>ZdW hv λas has he=>?_
 refine Zry (show bc _ es=true from hm) λe r hm=>Zd2 hm λm1 m2 m3=>?_
 refine Zbg (show(y.fz&&ZdT ys)=true from hf) λf1 f2=>?_
 erw[rwl (Zab m1 ..) (rwl (Zah ..) ?_)]
 refine Calls.spliced_cons (hy sc cp e env σ A P s E _ a m2 x L o hP ha λv s₁ g₁ o₁ rv=>?_)
 refine hys sc cp r env σ A P s₁ pos E _ as m3 f2 (x.kp g₁.kp) L o₁ (hP.kp g₁.kp) has λvs s₂ g₂ o₂ rvs=>?_
 exact k _ _ (g₁.trans g₂) o₂ (he▸.cons ((rv.str f1).kp g₂.kp) rvs)
noncomputable def evR(Γ:ZaC)(σ:Sg)(op:BoolOp)(ys:X)(a:D)(b:Bool):Option D:=match op with
 | .And=>if b then Zfi Γ σ ys else some a
 | .Or=>if b then some a else Zmr Γ σ ys
theorem ZnK{op:BoolOp}{y ys:X}{σ:Sg}{d:D}{G:Prop}(h:evB Γ op σ (.cons y ys)=some d)(k:∀a,ev Γ σ y=some a->(if ys.ZmY then some a else(tru a).bind (evR Γ σ op ys a))=some d->G):G:=by
 cases op with
 | And=>exact Zac (show(ev Γ σ y).bind _=_ from h) k
 | Or=>exact Zac (show(ev Γ σ y).bind _=_ from h) k
theorem Zpq{sc:Scope}{cp:Bool}{ys:X}(h:mtL nm fn sc cp ys []=true):ys.ZmY=true:=by
 cases ys<;>first | rfl | exact nf h
theorem Znk{sc:Scope}{cp:Bool}{ys:X}{e:Expr}{r:List Expr}(h:mtL nm fn sc cp ys (e::r)=true):ys.ZmY=false:=by
 cases ys<;>first | rfl | exact nf h
theorem ZqQ{op:BoolOp}{y ys:X}(hy:SE prog w Gd Γ nm fn n y)(hys:SB prog w Gd Γ nm fn n op ys):SB prog w Gd Γ nm fn n op (.cons y ys):=by
 intro sc cp es env σ A P s pos E Q d hm hf x L o hP hv k
 refine Zry (show bc _ es=true from hm) λe r hm=>Zd2 hm λm1 m2 m3=>?_
 refine Zbg (show(y.fz&&ZdT ys)=true from hf) λf1 f2=>ZnK hv λa ha hv=>?_
 cases r with
 | nil=>
  rw[if_pos (Zpq m3)] at hv
  exact hy sc cp e env σ A P s E Q _ m2 x L o hP ha λv s' g o' r=>k v s' g o' (Option.some.inj hv▸r.str f1)
 | cons e2 r2=>
  rw[Znk m3] at hv
  refine Zac (show(tru a).bind _=_ from hv) λt ht hv=>?_
  show wpAny (model prog w) A (do
   let v ←eval e env
   standAt pos
   let t ←holding [v] (truthy v)
   match op,t with
   | .And,false | .Or,true=>pure v
   | _,_=>boolOp pos op (evalEach (e2::r2) env)) Q E s
  refine wpAny_bind (hy sc cp e env σ A P s E _ a m2 x L o hP ha λv s₁ g₁ o₁ rv=>?_)
  refine wpAny_bind (wpAny_standAt (wpAny_bind (wpAny_holding (Zn1 rv.weak o₁ ht λs₂ g₂ o₂ he=>?_))))
  have g:=g₁.trans g₂
  have stop:some a=some d->wpAny (model prog w) A (pure v) Q E s₂:=λe=>wpAny_pure (k _ _ g o₂ (Option.some.inj e▸(rv.str f1).kp g₂.kp))
  have rest:evB Γ op σ ys=some d->wpAny (model prog w) A (boolOp pos op (evalEach (e2::r2) env)) Q E s₂:=λhr=>
   hys sc cp (e2::r2) env σ A P s₂ pos E Q d m3 f2 (x.kp g.kp) L o₂ (hP.kp g.kp) hr λv' s' g' o' r'=>k v' s' (g.trans g') o' r'
  cases op<;>cases t
  ·exact stop hv
  ·exact rest hv
  ·exact rest hv
  ·exact stop hv
theorem Zr5{op:BoolOp}:SB prog w Gd Γ nm fn n op .nil:=by
 intro sc cp es env σ A P s pos E Q d hm hf x L o hP hv k
 cases op<;>exact nn hv
theorem Zq8{xs:X}(h:SB prog w Gd Γ nm fn n .And xs):SE prog w Gd Γ nm fn n (.band xs):=by
 intro sc cp e env σ A P s E Q d hm x L o hP hv k
 refine Zf5 (show Zm1 .And _ e=true from hm) λes p hm=>Zbg hm λm1 m2=>?_
 erw[rwl (arm_eval_BoolOp ..) ?_]
 exact h sc cp _ env σ A P s _ E Q d m1 m2 x L o hP hv k
theorem ZrZ{xs:X}(h:SB prog w Gd Γ nm fn n .Or xs):SE prog w Gd Γ nm fn n (.bor xs):=by
 intro sc cp e env σ A P s E Q d hm x L o hP hv k
 refine Zf5 (show Zm1 .Or _ e=true from hm) λes p hm=>Zbg hm λm1 m2=>?_
 erw[rwl (arm_eval_BoolOp ..) ?_]
 exact h sc cp _ env σ A P s _ E Q d m1 m2 x L o hP hv k
theorem ZgG{e:Expr}{env:Env}{m:Sem Value}(h:plainT e=true):isTrue e env m=(do let v ←m;standAt e.pos;holding [v] (truthy v)):=by
 cases e with
 | UnaryOp op x p=>cases op<;>first | rfl | exact nf h
 | BoolOp=>exact nf h
 | IfExp=>exact nf h
 | Compare=>exact nf h
 | _=>rfl
theorem Zs4{y:X}(hy:SE prog w Gd Γ nm fn n y):ST prog w Gd Γ nm fn n (.tval y):=by
 intro sc cp e env σ A P s E Q b hm x L o hP hv k
 refine Zac (show(ev Γ σ y).bind _=_ from hv) λa ha hv=>Zbg (show(plainT e&&mt nm fn sc cp y e)=true from hm) λm1 m2=>?_
 refine wpAny_isTrue_value (hy sc cp e env σ A P s E _ a m2 x L o hP ha λv s₁ g₁ o₁ r=>?_) (ZgG m1)
 exact Zn1 r.weak o₁ hv λs₂ g₂ o₂ _=>k _ (g₁.trans g₂) o₂
theorem Ztg{op:Cop}{l r:X}(hl:SE prog w Gd Γ nm fn n l)(hr:SE prog w Gd Γ nm fn n r):ST prog w Gd Γ nm fn n (.tcmp op l r):=by
 intro sc cp e env σ A P s E Q c hm x L o hP hv k
 refine Zac (show(ev Γ σ l).bind _=_ from hv) λa ha hv=>Zac hv λb hb hc=>?_
 refine Zle (show Zlk _ _ e=true from hm) λea eb p hm=>Zd2 hm λm1 m2 m3=>?_
 refine wpAny_isTrue_Compare1 (hl sc cp ea env σ A P s E _ a m2 x L o hP ha λva s₁ g₁ o₁ ra=>?_) (Zcl m1)
 refine hr sc cp eb env σ A P s₁ E _ b m3 (x.kp g₁.kp) L o₁ (hP.kp g₁.kp) hb λvb s₂ g₂ o₂ rb=>?_
 exact ZkQ L (ra.weak.kp g₂.kp) rb.weak hc (wpAny_truthy_bool (k _ (g₁.trans g₂) o₂))
theorem Ztm{y:X}(hy:ST prog w Gd Γ nm fn n y):ST prog w Gd Γ nm fn n (.tnot y):=by
 intro sc cp e env σ A P s E Q c hm x L o hP hv k
 refine ZdW (show(tv Γ σ y).map _=_ from hv) λb hb he=>?_
 refine Zfg (show Zl3 .Not _ e=true from hm) λea p hm=>?_
 exact wpAny_isTrue_Not (hy sc cp _ env σ A P s E _ b hm x L o hP hb λs₁ g₁ o₁=>he▸k _ g₁ o₁)
theorem Zri{op:BoolOp}:SBT prog w Gd Γ nm fn n op .nil:=by
 intro sc cp es env σ A P s E Q b hm x L o hP hv k
 refine ZcD (show es.isEmpty=true from hm) ?_
 revert k
 cases op
 ·exact eqs (show some true=some b from hv) λk=>wpAny_allTrue_And_nil (k _ (.refl _) o)
 ·exact eqs (show some false=some b from hv) λk=>wpAny_allTrue_Or_nil (k _ (.refl _) o)
theorem Zoh{op:BoolOp}{y ys:X}(hy:ST prog w Gd Γ nm fn n y)(hys:SBT prog w Gd Γ nm fn n op ys):SBT prog w Gd Γ nm fn n op (.cons y ys):=by
 intro sc cp es env σ A P s E Q b hm x L o hP hv k
 refine Zry (show bc _ es=true from hm) λe r hm=>Zbg hm λm1 m2=>?_
 have rest:∀{s₁},Gw s s₁->Ok Gd s₁->tvB Γ op σ ys=some b->wpAny (model prog w) A (allTrue op r env) Q E s₁:=λg₁ o₁ hv=>hys sc cp r env σ A P _ E Q b m2 (x.kp g₁.kp) L o₁ (hP.kp g₁.kp) hv λs' g' o'=>k _ (g₁.trans g') o'
 cases op with
 | And=>
  refine Zac (show(tv Γ σ y).bind _=_ from hv) λt ht hv=>?_
  refine wpAny_allTrue_And_cons (hy sc cp e env σ A P s E _ t m1 x L o hP ht λs₁ g₁ o₁=>?_)
  cases t with
  | false=>exact(show Q false s₁ from(Option.some.inj hv).symm▸k _ g₁ o₁)
  | true=>exact rest g₁ o₁ hv
 | Or=>
  refine Zac (show(tv Γ σ y).bind _=_ from hv) λt ht hv=>?_
  refine wpAny_allTrue_Or_cons (hy sc cp e env σ A P s E _ t m1 x L o hP ht λs₁ g₁ o₁=>?_)
  cases t with
  | true=>exact(show Q true s₁ from(Option.some.inj hv).symm▸k _ g₁ o₁)
  | false=>exact rest g₁ o₁ hv
theorem ZrW{xs:X}(h:SBT prog w Gd Γ nm fn n .And xs):ST prog w Gd Γ nm fn n (.tand xs):=by
 intro sc cp e env σ A P s E Q b hm x L o hP hv k
 exact Zf5 (show Zm1 .And _ e=true from hm) λes p hm=>wpAny_isTrue_BoolOp (h sc cp _ env σ A P s E Q b hm x L o hP hv k)
theorem ZuV{xs:X}(h:SBT prog w Gd Γ nm fn n .Or xs):ST prog w Gd Γ nm fn n (.tor xs):=by
 intro sc cp e env σ A P s E Q b hm x L o hP hv k
 exact Zf5 (show Zm1 .Or _ e=true from hm) λes p hm=>wpAny_isTrue_BoolOp (h sc cp _ env σ A P s E Q b hm x L o hP hv k)
theorem ZrO{sc:Scope}{cp:Bool}{xs:X}{e:Expr}{r:List Expr}(h:mtL nm fn sc cp xs (e::r)=true):Zai e=true:=by
 cases xs<;>first | exact Zd2 h λh1 _ _=>h1 | exact nf h
theorem ZqF(G:Gr base mg mb Gd)(C:Zak prog w Gd mg Γ fn fa n){f:Nat}{xs:X}(h:SL prog w Gd Γ nm fn n xs):SE prog w Gd Γ nm fn n (.call f xs):=by
 intro sc cp e env σ A P s E Q d hm x L o hP hv k
 refine Zac (show(evL Γ σ xs).bind _=_ from hv) λds hds hv=>?_
 refine ZmI (show qFn _ _ _ e=true from hm) λp es pos m2 hm=>Zi6 hm λm3 m4 m5 m6=>?_
 refine wpAny_Call_NameR (ZcR G o.gd x m2 (C.nm f ds d hv) (bne_iff_ne.mp m3) ?_)
 have hargs:wpAny (model prog w) A (spliced (backTo pos (starEach es env))) (λvs s₁=>Gw s s₁∧Ok Gd s₁∧Zad P s₁.heap vs ds) E s:=h sc cp es env σ A P s pos E _ ds m6 m5 x L o hP hds λvs s₁ g₁ o₁ r=>⟨g₁,o₁,r⟩
 cases es with
 | nil=>exact nf m4
 | cons e0 r0=>
  obtain⟨ob,fd,hfd,hob⟩:=C.ob f ds d hv
  rw[Zab (ZrO m6),Zah] at hargs ⊢
  refine Calls.callWith_function (o:=ob) (fd:=fd) (Calls.evalArgs_plain (wpAny_mono hargs (λvs s₁ hs=>?_) λ_ _ e=>e))
  obtain⟨g₁,o₁,r⟩:=hs
  refine⟨⟨hob _ o₁.gd,hfd⟩,wpAny_call ?_⟩
  exact C.ok f ds d hv A P s₁ vs _ L o₁ (hP.kp g₁.kp) r λv s' g' o' r'=>k v s' (g₁.trans g') o' r'
end
end
section
theorem Zrb(b:Bfn):(b.name,b.val)∈([("len",.builtin "len"),("chr",.builtin "chr"),("sum",.builtin "sum"),("list",.type "list"),("range",.type "range"),("iter",.builtin "iter"),("object",.type "object"),("str",.type "str"),("isinstance",.builtin "isinstance")]:List (Str×Value)):=by
 cases b with
 | len=>exact .head _
 | chr=>exact .tail _ (.head _)
 | sum=>exact .tail _ (.tail _ (.head _))
 | list=>exact .tail _ (.tail _ (.tail _ (.head _)))
theorem Zqp(b:Bfn):b.name≠("__debug__" : Str):=by cases b<;>decide
section
variable {prog:Program}{w:World}{base:Addr->Prop}{mg mb:Str->Option Value}{Gd:Heap->Prop}{Γ:ZaC}{nm:List Str}{fn:Nat->Str}{fa:Nat->Addr}{n:Nat}
theorem Zg7{A:Around}{E:Value->Shared->Prop}{s:Shared}{pos:Pos}{b:Bfn}{t:Sem Value}{Q:Value->Shared->Prop}(h:wpAny (model prog w) A t (λv s₁=>wpAny (model prog w) A (call b.val [v]) Q E s₁) E s) :
  wpAny (model prog w) A (callWith pos b.val [] [(false,t)] []) Q E s:=by
 have hargs:∀f:Value,wpAny (model prog w) A (evalArgs f true [(false,t)] []) (λa s₁=>wpAny (model prog w) A (call b.val ([]++a.pos) a.kw) Q E s₁) E s:=λf=>
  Calls.evalArgs_plain (Calls.spliced_cons (wpAny_mono h (λv s₁ h₁=>Calls.spliced_nil h₁) λ_ _ e=>e))
 cases b with
 | len=>exact Calls.callWith_builtin rfl (hargs _)
 | chr=>exact Calls.callWith_builtin rfl (hargs _)
 | sum=>exact Calls.callWith_builtin rfl (hargs _)
 | list=>exact PySem.callWith_type rfl (hargs _)
theorem Zta(G:Gr base mg mb Gd){b:Bfn}{y:X}(hy:SE prog w Gd Γ nm fn n y):SE prog w Gd Γ nm fn n (.bfn b y):=by
 intro sc cp e env σ A P s E Q d hm x L o hP hv k
 refine Zac (show(ev Γ σ y).bind _=_ from hv) λa ha hv=>?_
 refine ZmI (show qFn _ _ _ e=true from hm) λp as pos m2 hm=>ZfN hm λea hm=>Zbg hm λm3 m4=>?_
 refine wpAny_Call_NameR (ZcZ G o.gd x m2 (Zrb b) (Zqp b) ?_)
 erw[rwl (Zab m3 ..) (rwl (Zah ..) (rwl (Zam ..) (rwl (Zay ..) ?_)))]
 refine Zg7 (hy sc cp ea env σ A P s E _ a m4 x L o hP ha λv s₁ g₁ o₁ r=>?_)
 exact ZuQ G L o₁ (hP.kp g₁.kp) r.weak hv λv' s' g' o' r'=>k v' s' (g₁.trans g') o' r'
theorem Zbw{s:Shared}{x:Str}{t:Tok}:∀a,Value.str x t=.ref a->∃ob,s.heap.get? a=some ob∧ob.dict=none:=λa e=>by cases e
theorem Znu{b y a:X}(hb:SE prog w Gd Γ nm fn n b)(hy:SE prog w Gd Γ nm fn n y)(ha:SE prog w Gd Γ nm fn n a):SE prog w Gd Γ nm fn n (.find2 b y a):=by
 intro sc cp e env σ A P s E Q d hm x L o hP hv k
 refine Zac (show(ev Γ σ b).bind _=_ from hv) λd1 h1 hv=>Zac hv λd2 h2 hv=>Zac hv λd3 h3 hv=>?_
 revert h1 h2 h3 k
 refine ZbG hv λl hv=>ZbG hv λc hv=>ZnW hv λc hv=>Za3 hv λi hv=>ifS hv λhi hv=>eqs hv λk h1 h2 h3=>?_
 refine Zby (show ZcY _ _ e=true from hm) λeo ap as pos m2 m3 hm=>Zl6 hm λp q hm=>Zm2 hm λm4 m5 m6 m7 m8=>?_
 refine wpAny_Call_method (T := "str") (id := "str.find") (ZaQ m2) (by erw[rwl (Zab m4 ..) (rwl (Zab m5 ..) (rwl (Zam ..) ?_))];rfl) m3 F.plainAttrs_str F.slot_str_find F.type_str_find ?_
 refine hb sc cp eo env σ A P s E _ _ m6 x L o hP h1 λv1 s₁ g₁ o₁ r1=>r1.weak.Zba λt hl=>?_
 refine⟨rfl,Zbw,?_⟩
 erw[rwl (Zab m4 ..) (rwl (Zab m5 ..) (rwl (Zam ..) (rwl (Zah ..) (rwl (Zah ..) (rwl (Zay ..) ?_)))))]
 refine Calls.callWith_builtin rfl (Calls.evalArgs_plain (Calls.spliced_cons ?_))
 refine hy sc cp p env σ A P s₁ E _ _ m7 (x.kp g₁.kp) L o₁ (hP.kp g₁.kp) h2 λv2 s₂ g₂ o₂ r2=>Calls.spliced_cons ?_
 have g:=g₁.trans g₂
 refine ha sc cp q env σ A P s₂ E _ _ m8 (x.kp g.kp) L o₂ (hP.kp g.kp) h3 λv3 s₃ g₃ o₃ r3=>Calls.spliced_nil ?_
 exact ZqX (P:=P) o₃ (.of (.str l t hl)) (r2.weak.kp g₃.kp) r3.weak hi.1 λv' s' g' o' r'=>k v' s' ((g.trans g₃).trans g') o' r'
theorem Zm4{b y a z:X}(hb:SE prog w Gd Γ nm fn n b)(hy:SE prog w Gd Γ nm fn n y)(ha:SE prog w Gd Γ nm fn n a)(hz:SE prog w Gd Γ nm fn n z):SE prog w Gd Γ nm fn n (.find3 b y a z):=by
 intro sc cp e env σ A P s E Q d hm x L o hP hv k
 refine Zac (show(ev Γ σ b).bind _=_ from hv) λd1 h1 hv=>Zac hv λd2 h2 hv=>Zac hv λd3 h3 hv=>Zac hv λd4 h4 hv=>?_
 revert h1 h2 h3 h4 k
 refine ZbG hv λl hv=>ZbG hv λc hv=>ZnW hv λc hv=>Za3 hv λi hv=>Za3 hv λj hv=>ifS hv λhi hv=>eqs hv λk h1 h2 h3 h4=>?_
 refine Zby (show ZcY _ _ e=true from hm) λeo ap as pos m2 m3 hm=>Zu0 hm λp q r hm=>ZuH hm λm4 m5 m9 m6 m7 m8 m10=>?_
 refine wpAny_Call_method (T := "str") (id := "str.find") (ZaQ m2) (by erw[rwl (Zab m4 ..) (rwl (Zab m5 ..) (rwl (Zab m9 ..) (rwl (Zam ..) ?_)))];rfl) m3 F.plainAttrs_str F.slot_str_find F.type_str_find ?_
 refine hb sc cp eo env σ A P s E _ _ m6 x L o hP h1 λv1 s₁ g₁ o₁ r1=>r1.weak.Zba λt hl=>?_
 refine⟨rfl,Zbw,?_⟩
 erw[rwl (Zab m4 ..) (rwl (Zab m5 ..) (rwl (Zab m9 ..) (rwl (Zam ..) (rwl (Zah ..) (rwl (Zah ..) (rwl (Zah ..) (rwl (Zay ..) ?_)))))))]
 refine Calls.callWith_builtin rfl (Calls.evalArgs_plain (Calls.spliced_cons ?_))
 refine hy sc cp p env σ A P s₁ E _ _ m7 (x.kp g₁.kp) L o₁ (hP.kp g₁.kp) h2 λv2 s₂ g₂ o₂ r2=>Calls.spliced_cons ?_
 have g:=g₁.trans g₂
 refine ha sc cp q env σ A P s₂ E _ _ m8 (x.kp g.kp) L o₂ (hP.kp g.kp) h3 λv3 s₃ g₃ o₃ r3=>Calls.spliced_cons ?_
 have g':=g.trans g₃
 refine hz sc cp r env σ A P s₃ E _ _ m10 (x.kp g'.kp) L o₃ (hP.kp g'.kp) h4 λv4 s₄ g₄ o₄ r4=>Calls.spliced_nil ?_
 exact Zqo (P:=P) o₄ (.of (.str l t hl)) ((r2.weak.kp g₃.kp).kp g₄.kp) (r3.weak.kp g₄.kp) r4.weak hi.1 hi.2.2.1 hi.2.2.2 λv' s' g'' o' r'=>k v' s' ((g'.trans g₄).trans g'') o' r'
theorem Zbm{M:Model}{A:Around}{E:Value->Shared->Prop}{s:Shared}{env:Env}{e:Expr}{l:List Nat}{Q:Value->Shared->Prop}(h:mtc (.str l) e=true)(hq:Q (.str ⟨l.toArray⟩ s.toks) { s with toks:=s.toks+1 }):wpAny M A (eval e env) Q E s:=
 Zbg (show(qC _ e&&_)=true from h) λh1 _=>Znw h1 λ_ _=>wpAny_Constant_str hq
theorem ZdK{l:List Nat}{e:Expr}(h:mtc (.str l) e=true):Zai e=true:=
 Zbg (show(qC _ e&&_)=true from h) λh1 _=>Znw (G:=λe=>Zai e=true) h1 λ_ _=>rfl
theorem Zqs{b:X}{c z:Nat}{zs:List Nat}(hb:SE prog w Gd Γ nm fn n b):SE prog w Gd Γ nm fn n (.repl b c z zs):=by
 intro sc cp e env σ A P s E Q d hm x L o hP hv k
 refine Zac (show(ev Γ σ b).bind _=_ from hv) λd1 h1 hv=>?_
 revert h1 k
 refine ZbG hv λl hv=>ifS hv λhi hv=>eqs hv λk h1=>?_
 refine Zby (show ZcY _ _ e=true from hm) λeo ap as pos m2 m3 hm=>Zl6 hm λp q hm=>Zi6 hm λm4 m5 m6 m7=>?_
 have p1:=ZdK m4
 have p2:=ZdK m5
 refine wpAny_Call_method (T := "str") (id := "str.replace") (ZaQ m2) (by erw[rwl (Zab p1 ..) (rwl (Zab p2 ..) (rwl (Zam ..) ?_))];rfl) m3 F.plainAttrs_str F.slot_str_replace F.type_str_replace ?_
 refine hb sc cp eo env σ A P s E _ _ m7 x L o hP h1 λv1 s₁ g₁ o₁ r1=>r1.weak.Zba λt hl=>?_
 refine⟨rfl,Zbw,?_⟩
 erw[rwl (Zab p1 ..) (rwl (Zab p2 ..) (rwl (Zam ..) (rwl (Zah ..) (rwl (Zah ..) (rwl (Zay ..) ?_)))))]
 refine Calls.callWith_builtin rfl (Calls.evalArgs_plain (Calls.spliced_cons ?_))
 refine Zbm m4 (Calls.spliced_cons (Zbm m5 (Calls.spliced_nil ?_)))
 have o₃:Ok Gd ({ s₁ with toks:=s₁.toks+1+1 }:Shared):=⟨o₁.gd,Nat.le_succ_of_le (Nat.le_succ_of_le o₁.tk)⟩
 refine ZrX (P:=P) (z:=z::zs) o₃ (.of (.str l t hl)) (Nat.ne_of_gt o₁.tk) (Nat.succ_le_succ hi.2) hi.1 (λq=>?_) λv' s' g' o' r'=>k v' s' ((g₁.trans (Gw.tok _ _)).trans g') o' r'
 rw[q,beq_self_eq_true] at m6
 exact nf m6
theorem ZqL{b y:X}(hb:SE prog w Gd Γ nm fn n b)(hy:SE prog w Gd Γ nm fn n y):SE prog w Gd Γ nm fn n (.join b y):=by
 intro sc cp e env σ A P s E Q d hm x L o hP hv k
 refine Zac (show(ev Γ σ b).bind _=_ from hv) λd1 h1 hv=>Zac hv λd2 h2 hv=>?_
 revert h1 h2 k
 refine ZbG hv λsep hv=>Zdr hv λl hv=>Zac hv λls hls hv=>ifS hv λhi hv=>eqs hv λk h1 h2=>?_
 refine Zby (show ZcY _ _ e=true from hm) λeo ap as pos m2 m3 hm=>ZfN hm λp hm=>Zd2 hm λm4 m5 m6=>?_
 refine wpAny_Call_method (T := "str") (id := "str.join") (ZaQ m2) (by erw[rwl (Zab m4 ..) (rwl (Zam ..) ?_)];rfl) m3 F.plainAttrs_str F.slot_str_join F.type_str_join ?_
 refine hb sc cp eo env σ A P s E _ _ m5 x L o hP h1 λv1 s₁ g₁ o₁ r1=>r1.weak.Zba λt hl=>?_
 refine⟨rfl,Zbw,?_⟩
 erw[rwl (Zab m4 ..) (rwl (Zam ..) (rwl (Zah ..) (rwl (Zay ..) ?_)))]
 refine Calls.callWith_builtin rfl (Calls.evalArgs_plain (Calls.spliced_cons ?_))
 rw[Zcs hls] at h2
 refine hy sc cp p env σ A P s₁ E _ _ m6 (x.kp g₁.kp) L o₁ (hP.kp g₁.kp) h2 λv2 s₂ g₂ o₂ r2=>Calls.spliced_nil (r2.weak.ZbL λD vs hD rv _=>?_)
 exact ZoO (P:=P) o₂ (.of (.str sep t hl)) hD.isList rv hi.1 hi.2.1 hi.2.2 λv' s' g' o' r'=>k v' s' ((g₁.trans g₂).trans g') o' r'
theorem Zuo{A:Around}{E:Value->Shared->Prop}{s:Shared}{P:Addr->Prop}{Q:Value->Shared->Prop}{value slice:Expr}{a b d:D}{va vb:Value}(o:Ok Gd s)(ra:Rd0 P s.heap va a)(rb:Rd0 P s.heap vb b)(h:ZmQ a b=some d)(hp:Zai slice=true)(k:Kc Gd P d Q s) :
  wpAny (model prog w) A (subscriptTail value slice va vb) Q E s:=by
 have hg:=Zs0 (prog:=prog) (w:=w) (A:=A) (E:=E) o ra rb h k
 cases a with
 | str l=>revert hg;exact ra.Zba λt _ hg=>tail_any (T := "str") rfl F.slot_str_getitem.lookup hg (ZdP hp)
 | list l=>revert hg;exact ra.ZbL λD vs hD _ _ hg=>tail_any hD.isList.typeIs slot_list_getitem.lookup hg (ZdP hp)
 | tuple l=>revert hg;exact ra.Zc1 λD vs _ hD _ _ hg=>tail_any hD.isTuple.typeIs F.slot_tuple_getitem.lookup hg (ZdP hp)
 | _=>exact nn h
theorem Zth{a b:X}(ha:SE prog w Gd Γ nm fn n a)(hb:SE prog w Gd Γ nm fn n b):SE prog w Gd Γ nm fn n (.idx a b):=by
 intro sc cp e env σ A P s E Q d hm x L o hP hv k
 refine Zac (show(ev Γ σ a).bind _=_ from hv) λd1 h1 hv=>Zac hv λd2 h2 hv=>?_
 refine Zge (show ZnZ _ e=true from hm) λex ey pos hm=>Zd2 hm λm1 m2 m3=>?_
 refine Subscript_ (ha sc cp ex env σ A P s E _ _ m2 x L o hP h1 λv1 s₁ g₁ o₁ r1=>?_)
 refine hb sc cp ey env σ A P s₁ E _ _ m3 (x.kp g₁.kp) L o₁ (hP.kp g₁.kp) h2 λv2 s₂ g₂ o₂ r2=>?_
 exact Zuo o₂ (r1.weak.kp g₂.kp) r2.weak hv m1 λv' s' g' o' r'=>k v' s' ((g₁.trans g₂).trans g') o' r'
theorem Ziz{c:X}(h:c.Za8=true):c=.const .none:=by
 cases c with
 | const d=>cases d<;>first | rfl | exact nf h
 | _=>exact nf h
theorem ZhK{y:X}(hy:SE prog w Gd Γ nm fn n y){sc:Scope}{cp:Bool}{eo:Option Expr}{env:Env}{σ:Sg}{A:Around}{P:Addr->Prop}{s:Shared}{E:Value->Shared->Prop}{Q:Value->Shared->Prop}{d:D}
  (hm:opt y.Za8 (λz=>mt nm fn sc cp y z) eo=true) (x:ZaO env sc nm P σ s.heap) (L:Lv A n) (o:Ok Gd s) (hP:Pf P s.heap) (hv:ev Γ σ y=some d) (k:∀v s',Gw s s'->Ok Gd s'->Rd0 P s'.heap v d->Q v s') :
  wpAny (model prog w) A (evalPart eo env) Q E s:=by
 cases eo with
 | none=>
  rw[Ziz hm] at hv
  erw[rwl (evalPart_none ..) ?_]
  exact wpAny_pure (k _ _ (.refl _) o (Option.some.inj (show some D.none=some d from hv)▸.of .none))
 | some z=>
  erw[rwl (evalPart_some ..) ?_]
  exact hy sc cp z env σ A P s E Q d hm x L o hP hv λv s' g o' r=>k v s' g o' r.weak
theorem ZsL(G:Gr base mg mb Gd){a lo hi:X}(ha:SE prog w Gd Γ nm fn n a)(hlo:SE prog w Gd Γ nm fn n lo)(hhi:SE prog w Gd Γ nm fn n hi):SE prog w Gd Γ nm fn n (.slc a lo hi):=by
 intro sc cp e env σ A P s E Q d hm x L o hP hv k
 refine Zac (show(ev Γ σ a).bind _=_ from hv) λd1 h1 hv=>Zac hv λd2 h2 hv=>Zac hv λd3 h3 hv=>?_
 refine Zge (show ZnZ _ e=true from hm) λex ey pos hm=>Zoq hm λl u st p hm=>Zi6 hm λm0 m1 m2 m3=>?_
 erw[rwl (Option.isNone_iff_eq_none.mp m0 ..) ?_]
 refine Subscript_ (ha sc cp ex env σ A P s E _ _ m1 x L o hP h1 λv1 s₁ g₁ o₁ r1=>?_)
 refine wpAny_Slice (ZhK hlo m2 (x.kp g₁.kp) L o₁ (hP.kp g₁.kp) h2 λv2 s₂ g₂ o₂ r2=>?_)
 have g:=g₁.trans g₂
 refine ZhK hhi m3 (x.kp g.kp) L o₂ (hP.kp g.kp) h3 λv3 s₃ g₃ o₃ r3=>?_
 erw[rwl (evalPart_none ..) ?_]
 refine wpAny_pure ?_
 have kk:∀b ob,s₃.heap.get? b=some ob->(s₃.heap.push { cls:=.type "slice",data:=.fields #[v2,v3,.none] }).get? b=some ob:=λ_ _ e=>Heap.get?_push_of_some _ e
 have g₄:Gw s₃ { s₃ with heap:=s₃.heap.push { cls:=.type "slice",data:=.fields #[v2,v3,.none] } }:=.of_keep (tk:=s₃.toks) kk
 have g34:=g₃.trans g₄
 have r1':=(r1.weak.kp g₂.kp).kp g34.kp
 have hg:=Zt7 (prog:=prog) (w:=w) (A:=A) (E:=E) (Q:=Q) (P:=P) (s:={ s₃ with heap:=s₃.heap.push { cls:=.type "slice",data:=.fields #[v2,v3,.none] } }) G ⟨G.keeps o₃.gd kk,o₃.tk⟩ (hP.kp (g.trans g34).kp) r1' (r2.kp g34.kp) (r3.kp g₄.kp) (Heap.get?_push_size _ rfl) hv
  λv' s' g' o' r'=>k v' s' ((g.trans g34).trans g') o' r'
 have hsub:∀va:Value,subscripted (.Slice l u none p) false va (.ref s₃.heap.objs.size)=operate [.ref s₃.heap.objs.size,va] (getItem va (.ref s₃.heap.objs.size)):=λ_=>rfl
 refine Zac (show(ZjO d2).bind _=_ from hv) λlo' _ hv=>Zac hv λhi' _ hv=>?_
 revert hg
 cases d1 with
 | str l=>exact r1'.Zba λt _ hg=>tail_any (T := "str") rfl F.slot_str_getitem.lookup hg (hsub _)
 | list l=>exact r1'.ZbL λD vs hD _ _ hg=>tail_any hD.isList.typeIs slot_list_getitem.lookup hg (hsub _)
 | _=>exact nn hv
theorem ZpA(G:Gr base mg mb Gd){xs:X}(h:SL prog w Gd Γ nm fn n xs):SE prog w Gd Γ nm fn n (.list xs):=by
 intro sc cp e env σ A P s E Q d hm x L o hP hv k
 refine Zac (show(evL Γ σ xs).bind _=_ from hv) λds hds hv=>?_
 revert k
 refine ZmO hv λhl k=>Zd7 (show Zhy _ e=true from hm) λes p hm=>Zbg hm λm1 m2=>?_
 refine wpAny_List (h sc cp _ env σ A P s _ E _ ds m2 m1 x L o hP hds λvs s₁ g₁ o₁ r=>⟨by erw[rwl (r.length ..) ?_];exact hl,?_⟩)
 have kk:∀b ob,s₁.heap.get? b=some ob->(s₁.heap.push { cls:=.type "list",data:=.seq vs.toArray }).get? b=some ob:=λ_ _ e=>Heap.get?_push_of_some _ e
 exact k _ _ (g₁.trans (.of_keep (tk:=s₁.toks) kk)) ⟨G.keeps o₁.gd kk,o₁.tk⟩ (.list ((hP.kp g₁.kp).fresh (Zau _)) ⟨0,Heap.get?_push_size _ rfl⟩ (r.kp (.of kk)) hl)
theorem Znm(G:Gr base mg mb Gd){xs:X}(h:SL prog w Gd Γ nm fn n xs):SE prog w Gd Γ nm fn n (.tuple xs):=by
 intro sc cp e env σ A P s E Q d hm x L o hP hv k
 refine Zac (show(evL Γ σ xs).bind _=_ from hv) λds hds hv=>?_
 revert k
 refine ifS hv λhl hv=>eqs hv λk=>Zjx (show Zrr _ e=true from hm) λes kk p hm=>Zbg hm λm1 m2=>?_
 refine wpAny_Tuple (h sc cp _ env σ A P s _ E _ ds m2 m1 x L o hP hds λvs s₁ g₁ o₁ r=>⟨by erw[rwl (r.length ..) ?_];exact hl,?_⟩)
 have kk:∀b ob,s₁.heap.get? b=some ob->(s₁.heap.push { cls:=.type "tuple",data:=.seq vs.toArray }).get? b=some ob:=λ_ _ e=>Heap.get?_push_of_some _ e
 exact k _ _ (g₁.trans (.of_keep (tk:=s₁.toks) kk)) ⟨G.keeps o₁.gd kk,o₁.tk⟩ (.tuple ((hP.kp g₁.kp).fresh (Zau _)) ⟨0,Heap.get?_push_size _ rfl⟩ (r.kp (.of kk)) hl)
theorem Zgv(a b:List Nat):(⟨a.toArray⟩:Str)++(⟨b.toArray⟩:Str)=⟨(a++b).toArray⟩:=congrArg Str.mk (List.append_toArray ..)
theorem Zq7{a b:List Nat}{y:X}(hy:SE prog w Gd Γ nm fn n y):SE prog w Gd Γ nm fn n (.fstr a y b):=by
 intro sc cp e env σ A P s E Q d hm x L o hP hv k
 refine Zac (show(ev Γ σ y).bind _=_ from hv) λd1 h1 hv=>?_
 revert h1 k
 refine ZbG hv λl hv=>Zq1 hv λhl k h1=>?_
 refine ZtZ (show qJs _ e=true from hm) λvs pos hm=>Zu0 hm λp q0 q hm=>Zd2 hm λm1 m2 hm=>Ztf hm λey cv sp pp hm=>Zd2 hm λn1 n2 m3=>eqb n1 ?_
 rw[Option.isNone_iff_eq_none.mp n2]
 have lb:(a++l).length<=(a++l++b).length:=List.length_append (as:=a++l)▸Nat.le_add_right _ _
 have la:a.length<=(a++l++b).length:=Nat.le_trans (List.length_append (as:=a)▸Nat.le_add_right _ _) lb
 have e0:(Str.empty++(⟨a.toArray⟩:Str))=⟨a.toArray⟩:=Zgv [] a
 refine wrap o.tk (wpAny_JoinedStr (Zbm m1 ⟨_,_,rfl,by rw[e0,str_len];exact Nat.le_trans la hl,?_⟩))
 have o1:Ok Gd ({ s with toks:=s.toks+1 }:Shared):=⟨o.gd,Nat.le_succ_of_le o.tk⟩
 refine wpAny_FormattedValue_plain (hy sc cp ey env σ A P _ E _ _ m3 x L o1 hP h1 λv s₁ g₁ o₁ r=>r.weak.Zba λt hl1=>?_)
 have fin:∀t' s₂,Gw s₁ s₂->Ok Gd s₂->∃y t,Value.str ⟨l.toArray⟩ t'=.str y t∧(Str.empty++(⟨a.toArray⟩:Str)++y).length<=sizeLine∧
   Joins (model prog w) A E [eval q env] (Str.empty++(⟨a.toArray⟩:Str)++y) (λout s₁=>out.length<=sizeLine∧(1<=({ s₁ with toks:=s₁.toks+1 }:Shared).toks->Q (.str out s₁.toks) { s₁ with toks:=s₁.toks+1 })) s₂:=by
  intro t' s₂ g₂ o₂
  refine⟨_,_,rfl,?_,Zbm m2 ⟨_,_,rfl,?_⟩⟩
  ·rw[e0,Zgv,str_len];exact Nat.le_trans lb hl
  ·rw[e0,Zgv,Zgv,str_len]
   exact⟨hl,hl,λhtk=>k _ _ (((Gw.tok s _).trans g₁).trans (g₂.trans (Gw.tok _ _))) ⟨o₂.gd,htk⟩ (show Rd P s₂.heap _ _ from .str _ _ hl)⟩
 exact wpAny_formatField_str (fin _ s₁ (.refl _) o₁) (fin _ _ (Gw.tok _ _) ⟨o₁.gd,Nat.le_succ_of_le o₁.tk⟩) (by rw[str_len];exact hl1)
end
end
section
theorem Zes(a b:Int):Builtin.Range.rangeSize a b 1=(((b - a).toNat:Nat):Int):=by
 erw[rwl (rangeSize_one ..) ?_];split<;>lia
theorem ZhE(a b:Int):Zcg a b 1=(List.range (b - a).toNat).map λ(k:Nat)=>D.int (a+(k:Int) * 1):=by
 unfold Zcg
 rw[if_pos (by decide)]
 congr 3
 lia
theorem Zim(a b:Int):Zcg a b (-1)=(List.range (a - b).toNat).map λ(k:Nat)=>D.int (a+(k:Int) * (-1)):=by
 unfold Zcg
 rw[if_neg (by decide),show(- -1:Int)=1 from by decide,Int.ediv_one]
 congr 3
 lia
theorem ZdA{i:Int}(h:Zcx i=true) : -1000000<=i∧i<=1000000:=of_decide_eq_true h
section
variable {prog:Program}{w:World}{base:Addr->Prop}{mg mb:Str->Option Value}{Gd:Heap->Prop}{Γ:ZaC}{nm:List Str}{fn:Nat->Str}{fa:Nat->Addr}{n:Nat}
noncomputable def Src(prog:Program)(w:World)(base:Addr->Prop)(Gd:Heap->Prop)(A:Around)(P:Addr->Prop)(fz:Bool)(e:Expr)(env:Env)(ds:List D)(s:Shared):Prop:=
 ∀(E:Value->Shared->Prop) (Q':Value->Shared->Prop),(∀I s₁,Gw s s₁->Ok Gd s₁->It (λa=>P a∧a≠I) (λb=>b≠I∧(∃ob,s₁.heap.get? b=some ob)∧(fz=true->P b)) s₁.heap I ds->s.heap.get? I=none->¬base I->Q' (.ref I) s₁)->
  wpAny (model prog w) A (eval e env) (λxv s₁=>wpAny (model prog w) A (pyIter xv) Q' E s₁) E s
theorem Zfc{A:Around}{P:Addr->Prop}{fz:Bool}{s s₁:Shared}{E:Value->Shared->Prop}{Q':Value->Shared->Prop}{v:Value}{ds:List D}(G:Gr base mg mb Gd)(g:Gw s s₁)(o:Ok Gd s₁)(r:RdX fz P s₁.heap v (.list ds))
  (k:∀I s₁,Gw s s₁->Ok Gd s₁->It (λa=>P a∧a≠I) (λb=>b≠I∧(∃ob,s₁.heap.get? b=some ob)∧(fz=true->P b)) s₁.heap I ds->s.heap.get? I=none->¬base I->Q' (.ref I) s₁) :
  wpAny (model prog w) A (pyIter v) Q' E s₁:=by
 obtain⟨l,vs,rfl,hl,rv,hz⟩:=r.weak.Zbq
 have hPl:fz=true->P l:=λhf=>by
  subst hf
  obtain⟨l',vs',e,p,_⟩:=(show Rd P s₁.heap (.ref l) (.list ds) from r).Zbq
  cases e;exact p
 refine wpAny_pyIter_list hl.isList ?_
 have hne:l≠s₁.heap.objs.size:=Nat.ne_of_lt (Heap.lt_size hl.choose_spec)
 have hI:=Zau s₁.heap
 generalize hIe:s₁.heap.objs.size=I at *
 have kk:∀b ob,s₁.heap.get? b=some ob->(s₁.heap.push { cls:=.type "list_iterator",data:=.fields #[.ref l,.int 0 0] }).get? b=some ob:=λ_ _ e=>Heap.get?_push_of_some _ e
 refine k I _ (g.trans (.of_keep (tk:=s₁.toks) kk)) ⟨G.keeps o.gd kk,o.tk⟩ (.list (vs:=vs) (i:=0) ⟨_,hIe▸Heap.get?_push_size _ rfl,rfl,rfl⟩ (Zbo hl (.of kk)) hne ⟨hne,⟨_,kk _ _ hl.choose_spec⟩,hPl⟩ ?_) (g.none hI) (G.fresh o.gd hI)
 erw[rwl (List.drop_zero ..) ?_]
 exact rv.mono λa ob _ e p=>⟨⟨p,λq=>by rw[q,hI] at e;cases e⟩,kk _ _ e⟩
theorem Zej{A:Around}{P:Addr->Prop}{fz:Bool}{s s₁:Shared}{E:Value->Shared->Prop}{Q':Value->Shared->Prop}{r:Addr}{a b c:Int}{t u v:Tok}{m:Nat}(G:Gr base mg mb Gd)(g:Gw s s₁)(o:Ok Gd s₁)(hr:IsRange s₁.heap r a b c t u v)(hs:Builtin.Range.small a b c=true)
  (hm:Builtin.Range.rangeSize a b c=(m:Int))
  (k:∀I s₁,Gw s s₁->Ok Gd s₁->It (λa=>P a∧a≠I) (λb=>b≠I∧(∃ob,s₁.heap.get? b=some ob)∧(fz=true->P b)) s₁.heap I ((List.range m).map λ(k:Nat)=>D.int (a+(k:Int) * c))->s.heap.get? I=none->¬base I->Q' (.ref I) s₁) :
  wpAny (model prog w) A (pyIter (.ref r)) Q' E s₁:=by
 refine wpAny_pyIter_range hr hs ?_
 have hI:=Zau s₁.heap
 erw[rwl (hm ..) ?_]
 generalize hIe:s₁.heap.objs.size=I at *
 have kk:∀b ob,s₁.heap.get? b=some ob->(s₁.heap.push { cls:=.type "range_iterator",data:=.fields #[rawInt a,rawInt m,rawInt c] }).get? b=some ob:=λ_ _ e=>Heap.get?_push_of_some _ e
 exact k I _ (g.trans (.of_keep (tk:=s₁.toks) kk)) ⟨G.keeps o.gd kk,o.tk⟩ (.range (hIe▸Heap.get?_push_size _ rfl)) (g.none hI) (G.fresh o.gd hI)
theorem Zfz:((("range" : Str),Value.type "range")∈([("len",.builtin "len"),("chr",.builtin "chr"),("sum",.builtin "sum"),("list",.type "list"),("range",.type "range"),("iter",.builtin "iter"),("object",.type "object"),("str",.type "str"),("isinstance",.builtin "isinstance")]:List (Str×Value))):=
 .tail _ (.tail _ (.tail _ (.tail _ (.head _))))
noncomputable def SI(prog:Program)(w:World)(base:Addr->Prop)(Gd:Heap->Prop)(Γ:ZaC)(nm:List Str)(fn:Nat->Str)(n:Nat)(it:X):Prop:=
 ∀(sc:Scope) (cp:Bool) (e:Expr) (env:Env) (σ:Sg) (A:Around) (P:Addr->Prop) (s:Shared) (ds:List D),
  mtI nm fn sc cp it e=true->ZaO env sc nm P σ s.heap->Lv A n->Ok Gd s->Pf P s.heap->(ev Γ σ it).bind itemsOf=some ds->ds.length<=sizeLine∧Src prog w base Gd A P it.fz e env ds s
theorem ZbF{d:D}{ds:List D}(h:itemsOf d=some ds):d=.list ds∧ds.length<=sizeLine:=by
 cases d with
 | list l=>exact ifS h λx e=>⟨congrArg D.list (Option.some.inj e),Option.some.inj e▸x⟩
 | _=>exact nn h
@[elab_as_elim] theorem ZkK{d:D}{ds:List D}{G:D->Prop}(h:itemsOf d=some ds)(k:ds.length<=sizeLine->G (.list ds)):G d:=(ZbF h).1▸k (ZbF h).2
@[elab_as_elim] theorem Zd5{d:D}{i:Int}{G:D->Prop}(h:intOf d=some i)(k:G (.int i)):G d:=by
 cases d with
 | int j=>exact Option.some.inj (show some j=some i from h)▸k
 | _=>exact nn h
theorem Zop(G:Gr base mg mb Gd){it:X}(hi:SE prog w Gd Γ nm fn n it){sc:Scope}{cp:Bool}{e:Expr}{env:Env}{σ:Sg}{A:Around}{P:Addr->Prop}{s:Shared}{ds:List D}
  (hm:mt nm fn sc cp it e=true) (x:ZaO env sc nm P σ s.heap) (L:Lv A n) (o:Ok Gd s) (hP:Pf P s.heap) (hv:(ev Γ σ it).bind itemsOf=some ds):ds.length<=sizeLine∧Src prog w base Gd A P it.fz e env ds s:=by
 refine Zac hv λd hd hds=>?_
 revert hd
 refine ZkK hds λhl hd=>⟨hl,λE Q' k=>?_⟩
 exact hi sc cp e env σ A P s E _ _ hm x L o hP hd λv s₁ g₁ o₁ r=>Zfc G g₁ o₁ r k
theorem Zfu{a c:Int}{m:Nat}(h:m<=2000000):((List.range m).map λ(k:Nat)=>D.int (a+(k:Int) * c)).length<=sizeLine:=by
 erw[rwl (List.length_map ..) (rwl (List.length_range ..) (rwl (szv ..) ?_))];lia
theorem ZjA{a b:Int}(ha:Zcx a=true)(hb:Zcx b=true):Builtin.Range.small a b 1=true∧(b - a).toNat<=2000000:=by
 have h1:=ZdA ha
 have h2:=ZdA hb
 exact⟨small_one (by lia) (by lia) (by lia) (by lia),by lia⟩
theorem Zkx(G:Gr base mg mb Gd){a:X}(ha:SE prog w Gd Γ nm fn n a):SI prog w base Gd Γ nm fn n (.range1 a):=by
 intro sc cp e env σ A P s ds hm x L o hP hv
 refine Zac hv λd hd hds=>Zac (show(ev Γ σ a).bind _=_ from hd) λda h1 hd=>Zac hd λia h2 hd=>ifS hd λhs hd=>?_
 revert h1
 refine Zd5 h2 λh1=>?_
 have ei:=(ZbF hds).1
 rw[←Option.some.inj hd,ZhE] at ei
 erw[rwr (D.list.inj ei ..) ?_]
 have sm:=ZjA (a:=0) rfl hs
 refine⟨Zfu sm.2,λE Q' k=>?_⟩
 refine or2 hm (λhm=>ZmI (show qFn _ _ _ e=true from hm) λp as pos m2 hm=>ZfN hm λea hm=>Zbg hm λm3 m4=>?_) λh=>nf h
 refine wpAny_Call_NameR (ZcZ G o.gd x m2 Zfz (by decide) ?_)
 erw[rwl (Zab m3 ..) (rwl (Zah ..) (rwl (Zam ..) (rwl (Zay ..) ?_)))]
 refine PySem.callWith_type rfl (Calls.evalArgs_plain (Calls.spliced_cons (ha sc cp ea env σ A P s E _ _ m4 x L o hP h1 λv s₁ g₁ o₁ r=>Calls.spliced_nil (r.weak.Za0 λt=>?_))))
 have kk:∀b ob,s₁.heap.get? b=some ob->(s₁.heap.push { cls:=.type "range",data:=.fields #[.int 0 s₁.toks,.int ia t,.int 1 (s₁.toks+1)] }).get? b=some ob:=λ_ _ e=>Heap.get?_push_of_some _ e
 exact call_range_1 (Zej (m:=(ia - 0).toNat) G (g₁.trans (.of_keep kk)) ⟨G.keeps o₁.gd kk,Nat.le_succ_of_le (Nat.le_succ_of_le o₁.tk)⟩ (IsRange.new _ _ _ _ _ _ _) sm.1 (Zes _ _) k)
theorem Zj3(G:Gr base mg mb Gd){a b:X}(ha:SE prog w Gd Γ nm fn n a)(hb:SE prog w Gd Γ nm fn n b):SI prog w base Gd Γ nm fn n (.range2 a b):=by
 intro sc cp e env σ A P s ds hm x L o hP hv
 refine Zac hv λd hd hds=>Zac (show(ev Γ σ a).bind _=_ from hd) λda h1 hd=>Zac hd λdb h2 hd=>Zac hd λia h3 hd=>Zac hd λib h4 hd=>ifS hd λhs hd=>?_
 revert h1 h2
 refine Zd5 h3 (Zd5 h4 λh1 h2=>?_)
 have ei:=(ZbF hds).1
 rw[←Option.some.inj hd,ZhE] at ei
 erw[rwr (D.list.inj ei ..) ?_]
 have sm:=Zbg hs ZjA
 refine⟨Zfu sm.2,λE Q' k=>?_⟩
 refine or2 hm (λhm=>ZmI (show qFn _ _ _ e=true from hm) λp as pos m2 hm=>Zl6 hm λea eb hm=>Zi6 hm λm3 m4 m5 m6=>?_) λh=>nf h
 refine wpAny_Call_NameR (ZcZ G o.gd x m2 Zfz (by decide) ?_)
 erw[rwl (Zab m3 ..) (rwl (Zab m4 ..) (rwl (Zah ..) (rwl (Zah ..) (rwl (Zam ..) (rwl (Zay ..) ?_)))))]
 refine PySem.callWith_type rfl (Calls.evalArgs_plain (Calls.spliced_cons (ha sc cp ea env σ A P s E _ _ m5 x L o hP h1 λv s₁ g₁ o₁ r=>Calls.spliced_cons ?_)))
 refine hb sc cp eb env σ A P s₁ E _ _ m6 (x.kp g₁.kp) L o₁ (hP.kp g₁.kp) h2 λv2 s₂ g₂ o₂ r2=>Calls.spliced_nil (r.weak.Za0 λt=>r2.weak.Za0 λu=>?_)
 have kk:∀b ob,s₂.heap.get? b=some ob->(s₂.heap.push { cls:=.type "range",data:=.fields #[.int ia t,.int ib u,.int 1 s₂.toks] }).get? b=some ob:=λ_ _ e=>Heap.get?_push_of_some _ e
 exact call_range_2 (Zej (m:=(ib - ia).toNat) G ((g₁.trans g₂).trans (.of_keep kk)) ⟨G.keeps o₂.gd kk,Nat.le_succ_of_le o₂.tk⟩ (IsRange.new _ _ _ _ _ _ _) sm.1 (Zes _ _) k)
theorem ZnR{a b:Int}(ha:Zcx a=true)(hb:Zcx b=true):Builtin.Range.small a b (-1)=true∧(a - b).toNat<=2000000:=by
 have h1:=ZdA ha
 have h2:=ZdA hb
 exact⟨small_down (by lia) (by lia) (by lia) (by lia),by lia⟩
theorem Zj5(G:Gr base mg mb Gd){a b c:X}(ha:SE prog w Gd Γ nm fn n a)(hb:SE prog w Gd Γ nm fn n b)(hc:SE prog w Gd Γ nm fn n c):SI prog w base Gd Γ nm fn n (.range3 a b c):=by
 intro sc cp e env σ A P s ds hm x L o hP hv
 refine Zac hv λd hd hds=>Zac (show(ev Γ σ a).bind _=_ from hd) λda h1 hd=>Zac hd λdb h2 hd=>Zac hd λdc h2c hd=>Zac hd λia h3 hd=>Zac hd λib h4 hd=>Zac hd λic h5 hd=>ifS hd λhs hd=>?_
 refine Zd2 hs λs1 s2 s3=>?_
 rw[eq_of_beq s3] at hd h5
 revert h1 h2 h2c
 refine Zd5 h3 (Zd5 h4 (Zd5 h5 λh1 h2 h2c=>?_))
 have ei:=(ZbF hds).1
 rw[←Option.some.inj hd,Zim] at ei
 erw[rwr (D.list.inj ei ..) ?_]
 have sm:=ZnR s1 s2
 refine⟨Zfu sm.2,λE Q' k=>?_⟩
 refine or2 hm (λhm=>ZmI (show qFn _ _ _ e=true from hm) λp as pos m2 hm=>Zu0 hm λea eb ec hm=>Zux hm λm3 m4 m5 m6 m7 m8=>?_) λh=>nf h
 refine wpAny_Call_NameR (ZcZ G o.gd x m2 Zfz (by decide) ?_)
 erw[rwl (Zab m3 ..) (rwl (Zab m4 ..) (rwl (Zab m5 ..) (rwl (Zah ..) (rwl (Zah ..) (rwl (Zah ..) (rwl (Zam ..) (rwl (Zay ..) ?_)))))))]
 refine PySem.callWith_type rfl (Calls.evalArgs_plain (Calls.spliced_cons (ha sc cp ea env σ A P s E _ _ m6 x L o hP h1 λv s₁ g₁ o₁ r=>Calls.spliced_cons ?_)))
 refine hb sc cp eb env σ A P s₁ E _ _ m7 (x.kp g₁.kp) L o₁ (hP.kp g₁.kp) h2 λv2 s₂ g₂ o₂ r2=>Calls.spliced_cons ?_
 have g:=g₁.trans g₂
 refine hc sc cp ec env σ A P s₂ E _ _ m8 (x.kp g.kp) L o₂ (hP.kp g.kp) h2c λv3 s₃ g₃ o₃ r3=>Calls.spliced_nil (r.weak.Za0 λt=>r2.weak.Za0 λu=>r3.weak.Za0 λu3=>?_)
 have kk:∀b ob,s₃.heap.get? b=some ob->(s₃.heap.push { cls:=.type "range",data:=.fields #[.int ia t,.int ib u,.int (-1) u3] }).get? b=some ob:=λ_ _ e=>Heap.get?_push_of_some _ e
 exact call_range_3 (by decide) (Zej (m:=(ia - ib).toNat) G ((g.trans g₃).trans (.of_keep kk)) ⟨G.keeps o₃.gd kk,o₃.tk⟩ (IsRange.new _ _ _ _ _ _ _) sm.1 (rangeSize_downNat _ _) k) (.inl (PyProof.noPylong_small (by decide)))
theorem Zgc{e c:X}(he:SE prog w Gd Γ nm fn n e)(hc:ST prog w Gd Γ nm fn n c)(hf:e.fz=true){sc':Scope}{elt:Expr}{ifs:List Expr}{A:Around}(L:Lv A n)(hm:mt nm fn sc' false e elt=true)
  (hi:(if c.Za8 then ifs.isEmpty else b1 (λi=>mtT nm fn sc' false c i) ifs)=true) {σ':D->Sg} :
  ∀d r cenv s₁ (P₁:Addr->Prop) E' Qs,((if c.Za8 then some true else tv Γ (σ' d) c).bind λb=>if b then(ev Γ (σ' d) e).map some else some none)=some r->ZaO cenv sc' nm P₁ (σ' d) s₁.heap->Ok Gd s₁->Pf P₁ s₁.heap->
   (r=none->∀s₂,Gw s₁ s₂->Ok Gd s₂->Qs none s₂)->(∀z,r=some z->∀vz s₂,Gw s₁ s₂->Ok Gd s₂->Rd P₁ s₂.heap vz z->Qs (some vz) s₂)->turnT (model prog w) A ifs elt cenv Qs E' s₁:=by
 intro d r cenv s₁ P₁ E' Qs hv x o hP hn hs
 refine Zac hv λb hb hv=>?_
 have elt_ok:((ev Γ (σ' d) e).map some=some r)->∀s₂,Gw s₁ s₂->Ok Gd s₂->wpAny (model prog w) A (eval elt cenv) (λy s₄=>Qs (some y) s₄) E' s₂:=λhv s₂ g₂ o₂=>ZdW hv λz hz e=>
  he sc' false elt cenv _ A P₁ s₂ E' _ z hm (x.kp g₂.kp) L o₂ (hP.kp g₂.kp) hz λv s' g' o' r'=>hs z e.symm v s' (g₂.trans g') o' (r'.str hf)
 unfold turnT
 cases hc1:c.Za8 with
 | true=>
  rw[hc1] at hb hi
  rw[←Option.some.inj (show some true=some b from hb)] at hv
  refine ZcD (show ifs.isEmpty=true from hi) ?_
  erw[rwl (List.forIn_nil ..) ?_]
  exact wpAny_pure (elt_ok hv s₁ (.refl _) o)
 | false=>
  rw[hc1] at hb hi
  refine ZfN (show b1 _ ifs=true from hi) λi hi=>?_
  erw[rwl (List.forIn_cons ..) ?_]
  refine wpAny_bind (wpAny_bind (hc sc' false i cenv _ A P₁ s₁ E' _ b hi x L o hP hb λs₂ g₂ o₂=>wpAny_pure ?_))
  show wpAny (model prog w) A (forIn [] b _) _ E' s₂
  erw[rwl (List.forIn_nil ..) ?_]
  refine wpAny_pure ?_
  cases b with
  | true=>exact elt_ok hv s₂ g₂ o₂
  | false=>exact hn (Option.some.inj (show some none=some r from hv)).symm s₂ g₂ o₂
theorem Zro(G:Gr base mg mb Gd){fr:List Nat}{t:Nat}{e it c:X}(he:SE prog w Gd Γ nm fn n e)(hi:SI prog w base Gd Γ nm fn n it)(hc:ST prog w Gd Γ nm fn n c):SE prog w Gd Γ nm fn n (.comp fr t e it c):=by
 intro sc cp ex env σ A P s E Q d hm x L o hP hv k
 refine Zac (show((ev Γ σ it).bind itemsOf).bind _=_ from hv) λds hds hv=>Zac hv λys hys hv=>?_
 revert k
 refine ZmO hv λhl k=>Zbg (show(cp&&Zkn _ ex)=true from hm) λm1 hm=>Zgm hm λelt gens scope pos hm=>ZfN hm λg hm=>?_
 obtain⟨tg,iter,ifs,asy⟩:=g
 refine Zu1 hm λm0 m2 m3 m4 m5 m6 m7 m8 m9=>eqb (show(asy==0)=true from m0) (Zbx (show Zcv _ tg=true from m3) λy py m3=>Zbg m3 λn1 n2=>?_)
 obtain⟨hlen,src⟩:=hi sc false iter env σ A P s ds m7 x L o hP hds
 exact Zkh G L.hd (f:=λd=>(if c.Za8 then some true else tv Γ ((mask fr σ).set t (.fz d)) c).bind λb=>if b then(ev Γ ((mask fr σ).set t (.fz d)) e).map some else some none) x o hP m2 (eq_of_beq n1) (eq_of_beq n2) (ZfK m4) (ZdM m6) hlen
  (λQ' kk=>src E Q' λI s₁ g₁ o₁ hit hI hb=>kk I s₁ _ g₁ o₁ hit hI hb λb hb=>hb.2.1)
  (Zgc (σ':=λd=>(mask fr σ).set t (.fz d)) he hc m5 L m8 m9) hys k
theorem Zbf{y:X}(h:∀sc cp e,mt nm fn sc cp y e=false):SE prog w Gd Γ nm fn n y:=by
 intro sc cp e env σ A P s E Q d hm x L o hP hv k
 exact nf ((h _ _ _).symm.trans hm)
theorem ZeR{y:X}(h:∀sc cp e,mtT nm fn sc cp y e=false):ST prog w Gd Γ nm fn n y:=by
 intro sc cp e env σ A P s E Q d hm x L o hP hv k
 exact nf ((h _ _ _).symm.trans hm)
theorem Zgk{y:X}(h:∀sc cp e,mtL nm fn sc cp y e=false):SL prog w Gd Γ nm fn n y:=by
 intro sc cp e env σ A P s pos E Q d hm hf x L o hP hv k
 exact nf ((h _ _ _).symm.trans hm)
theorem Zgq{op:BoolOp}{y:X}(h:∀sc cp e,mtL nm fn sc cp y e=false):SB prog w Gd Γ nm fn n op y:=by
 intro sc cp e env σ A P s pos E Q d hm hf x L o hP hv k
 exact nf ((h _ _ _).symm.trans hm)
theorem ZfD{op:BoolOp}{y:X}(h:∀sc cp e,Zpd nm fn sc cp y e=false):SBT prog w Gd Γ nm fn n op y:=by
 intro sc cp e env σ A P s E Q d hm x L o hP hv k
 exact nf ((h _ _ _).symm.trans hm)
noncomputable abbrev All(prog:Program)(w:World)(base:Addr->Prop)(Gd:Heap->Prop)(Γ:ZaC)(nm:List Str)(fn:Nat->Str)(n:Nat)(x:X):Prop:=(SE prog w Gd Γ nm fn n x)∧(SL prog w Gd Γ nm fn n x)∧(ST prog w Gd Γ nm fn n x)∧(∀op,SB prog w Gd Γ nm fn n op x)∧(∀op,SBT prog w Gd Γ nm fn n op x)∧(SI prog w base Gd Γ nm fn n x)
theorem All.e{prog:Program}{w:World}{base:Addr->Prop}{Gd:Heap->Prop}{Γ:ZaC}{nm:List Str}{fn:Nat->Str}{n:Nat}{x:X}(slf:All prog w base Gd Γ nm fn n x):SE prog w Gd Γ nm fn n x:=slf.1
theorem All.l{prog:Program}{w:World}{base:Addr->Prop}{Gd:Heap->Prop}{Γ:ZaC}{nm:List Str}{fn:Nat->Str}{n:Nat}{x:X}(slf:All prog w base Gd Γ nm fn n x):SL prog w Gd Γ nm fn n x:=slf.2.1
theorem All.t{prog:Program}{w:World}{base:Addr->Prop}{Gd:Heap->Prop}{Γ:ZaC}{nm:List Str}{fn:Nat->Str}{n:Nat}{x:X}(slf:All prog w base Gd Γ nm fn n x):ST prog w Gd Γ nm fn n x:=slf.2.2.1
theorem All.b{prog:Program}{w:World}{base:Addr->Prop}{Gd:Heap->Prop}{Γ:ZaC}{nm:List Str}{fn:Nat->Str}{n:Nat}{x:X}(slf:All prog w base Gd Γ nm fn n x):∀op,SB prog w Gd Γ nm fn n op x:=slf.2.2.2.1
theorem All.bt{prog:Program}{w:World}{base:Addr->Prop}{Gd:Heap->Prop}{Γ:ZaC}{nm:List Str}{fn:Nat->Str}{n:Nat}{x:X}(slf:All prog w base Gd Γ nm fn n x):∀op,SBT prog w Gd Γ nm fn n op x:=slf.2.2.2.2.1
theorem All.i{prog:Program}{w:World}{base:Addr->Prop}{Gd:Heap->Prop}{Γ:ZaC}{nm:List Str}{fn:Nat->Str}{n:Nat}{x:X}(slf:All prog w base Gd Γ nm fn n x):SI prog w base Gd Γ nm fn n x:=slf.2.2.2.2.2
theorem Zne(G:Gr base mg mb Gd){x:X}(h:SE prog w Gd Γ nm fn n x)(hr:∀sc cp e,mtR nm fn sc cp x e=false):SI prog w base Gd Γ nm fn n x:=λ_ _ _ _ _ _ _ _ _ hm xx L o hP hv=>
 or2 hm (λq=>nf ((hr _ _ _).symm.trans q)) λhm=>Zop G h hm xx L o hP hv
theorem All.of(G:Gr base mg mb Gd){x:X}(e:SE prog w Gd Γ nm fn n x)(l:∀sc cp e,mtL nm fn sc cp x e=false)(t:∀sc cp e,mtT nm fn sc cp x e=false)(tl:∀sc cp e,Zpd nm fn sc cp x e=false)(r:∀sc cp e,mtR nm fn sc cp x e=false):All prog w base Gd Γ nm fn n x:=
 ⟨e,Zgk l,ZeR t,λ_=>Zgq l,λ_=>ZfD tl,Zne G e r⟩
theorem All.oft(G:Gr base mg mb Gd){x:X}(t:ST prog w Gd Γ nm fn n x)(e:∀sc cp e,mt nm fn sc cp x e=false)(l:∀sc cp e,mtL nm fn sc cp x e=false)(tl:∀sc cp e,Zpd nm fn sc cp x e=false)(r:∀sc cp e,mtR nm fn sc cp x e=false):All prog w base Gd Γ nm fn n x:=
 ⟨Zbf e,Zgk l,t,λ_=>Zgq l,λ_=>ZfD tl,Zne G (Zbf e) r⟩
theorem All.ofr{x:X}(i:SI prog w base Gd Γ nm fn n x)(e:∀sc cp e,mt nm fn sc cp x e=false)(l:∀sc cp e,mtL nm fn sc cp x e=false)(t:∀sc cp e,mtT nm fn sc cp x e=false)(tl:∀sc cp e,Zpd nm fn sc cp x e=false):All prog w base Gd Γ nm fn n x:=
 ⟨Zbf e,Zgk l,ZeR t,λ_=>Zgq l,λ_=>ZfD tl,i⟩
theorem ZaI(G:Gr base mg mb Gd)(C:Zak prog w Gd mg Γ fn fa n)(x:X):All prog w base Gd Γ nm fn n x:=by
 induction x with
 | const d=>exact .of G (Zjd G d) (λ_ _ _=>rfl) (λ_ _ _=>rfl) (λ_ _ _=>rfl) (λ_ _ _=>rfl)
 | var i=>exact .of G (ZsA i) (λ_ _ _=>rfl) (λ_ _ _=>rfl) (λ_ _ _=>rfl) (λ_ _ _=>rfl)
 | tvar i=>exact .of G (Zpp i) (λ_ _ _=>rfl) (λ_ _ _=>rfl) (λ_ _ _=>rfl) (λ_ _ _=>rfl)
 | bin op l r hl hr=>exact .of G (ZsY G hl.e hr.e) (λ_ _ _=>rfl) (λ_ _ _=>rfl) (λ_ _ _=>rfl) (λ_ _ _=>rfl)
 | cmp op l r hl hr=>exact .of G (ZsN hl.e hr.e) (λ_ _ _=>rfl) (λ_ _ _=>rfl) (λ_ _ _=>rfl) (λ_ _ _=>rfl)
 | cmp2 o1 o2 a b c ha hb hc=>exact .of G (ZqK ha.e hb.e hc.e) (λ_ _ _=>rfl) (λ_ _ _=>rfl) (λ_ _ _=>rfl) (λ_ _ _=>rfl)
 | band xs h=>exact .of G (Zq8 (h.b _)) (λ_ _ _=>rfl) (λ_ _ _=>rfl) (λ_ _ _=>rfl) (λ_ _ _=>rfl)
 | bor xs h=>exact .of G (ZrZ (h.b _)) (λ_ _ _=>rfl) (λ_ _ _=>rfl) (λ_ _ _=>rfl) (λ_ _ _=>rfl)
 | not y h=>exact .of G (ZsV h.e) (λ_ _ _=>rfl) (λ_ _ _=>rfl) (λ_ _ _=>rfl) (λ_ _ _=>rfl)
 | ite t a b ht ha hb=>exact .of G (Ztx ht.t ha.e hb.e) (λ_ _ _=>rfl) (λ_ _ _=>rfl) (λ_ _ _=>rfl) (λ_ _ _=>rfl)
 | bfn f y h=>exact .of G (Zta G h.e) (λ_ _ _=>rfl) (λ_ _ _=>rfl) (λ_ _ _=>rfl) (λ_ _ _=>rfl)
 | range1 a ha=>exact .ofr (Zkx G ha.e) (λ_ _ _=>rfl) (λ_ _ _=>rfl) (λ_ _ _=>rfl) (λ_ _ _=>rfl)
 | range2 a b ha hb=>exact .ofr (Zj3 G ha.e hb.e) (λ_ _ _=>rfl) (λ_ _ _=>rfl) (λ_ _ _=>rfl) (λ_ _ _=>rfl)
 | range3 a b c ha hb hc=>exact .ofr (Zj5 G ha.e hb.e hc.e) (λ_ _ _=>rfl) (λ_ _ _=>rfl) (λ_ _ _=>rfl) (λ_ _ _=>rfl)
 | call f xs h=>exact .of G (ZqF G C h.l) (λ_ _ _=>rfl) (λ_ _ _=>rfl) (λ_ _ _=>rfl) (λ_ _ _=>rfl)
 | nil=>exact⟨Zbf λ_ _ _=>rfl,Zsa,ZeR λ_ _ _=>rfl,λ_=>Zr5,λ_=>Zri,Zne G (Zbf λ_ _ _=>rfl) λ_ _ _=>rfl⟩
 | cons y ys hy hys=>exact⟨Zbf λ_ _ _=>rfl,Zrh hy.e hys.l,ZeR λ_ _ _=>rfl,λop=>ZqQ hy.e (hys.b op),λop=>Zoh hy.t (hys.bt op),Zne G (Zbf λ_ _ _=>rfl) λ_ _ _=>rfl⟩
 | find2 b y a hb hy ha=>exact .of G (Znu hb.e hy.e ha.e) (λ_ _ _=>rfl) (λ_ _ _=>rfl) (λ_ _ _=>rfl) (λ_ _ _=>rfl)
 | find3 b y a z hb hy ha hz=>exact .of G (Zm4 hb.e hy.e ha.e hz.e) (λ_ _ _=>rfl) (λ_ _ _=>rfl) (λ_ _ _=>rfl) (λ_ _ _=>rfl)
 | repl b c z zs hb=>exact .of G (Zqs hb.e) (λ_ _ _=>rfl) (λ_ _ _=>rfl) (λ_ _ _=>rfl) (λ_ _ _=>rfl)
 | join b y hb hy=>exact .of G (ZqL hb.e hy.e) (λ_ _ _=>rfl) (λ_ _ _=>rfl) (λ_ _ _=>rfl) (λ_ _ _=>rfl)
 | joing=>exact .of G (Zbf λ_ _ _=>rfl) (λ_ _ _=>rfl) (λ_ _ _=>rfl) (λ_ _ _=>rfl) (λ_ _ _=>rfl)
 | transl=>exact .of G (Zbf λ_ _ _=>rfl) (λ_ _ _=>rfl) (λ_ _ _=>rfl) (λ_ _ _=>rfl) (λ_ _ _=>rfl)
 | resub=>exact .of G (Zbf λ_ _ _=>rfl) (λ_ _ _=>rfl) (λ_ _ _=>rfl) (λ_ _ _=>rfl) (λ_ _ _=>rfl)
 | idx a b ha hb=>exact .of G (Zth ha.e hb.e) (λ_ _ _=>rfl) (λ_ _ _=>rfl) (λ_ _ _=>rfl) (λ_ _ _=>rfl)
 | slc a lo hi ha hlo hhi=>exact .of G (ZsL G ha.e hlo.e hhi.e) (λ_ _ _=>rfl) (λ_ _ _=>rfl) (λ_ _ _=>rfl) (λ_ _ _=>rfl)
 | list xs h=>exact .of G (ZpA G h.l) (λ_ _ _=>rfl) (λ_ _ _=>rfl) (λ_ _ _=>rfl) (λ_ _ _=>rfl)
 | tuple xs h=>exact .of G (Znm G h.l) (λ_ _ _=>rfl) (λ_ _ _=>rfl) (λ_ _ _=>rfl) (λ_ _ _=>rfl)
 | comp fr t e it c he hi hc=>exact .of G (Zro G he.e hi.i hc.t) (λ_ _ _=>rfl) (λ_ _ _=>rfl) (λ_ _ _=>rfl) (λ_ _ _=>rfl)
 | compu=>exact .of G (Zbf λ_ _ _=>rfl) (λ_ _ _=>rfl) (λ_ _ _=>rfl) (λ_ _ _=>rfl) (λ_ _ _=>rfl)
 | fstr a y b h=>exact .of G (Zq7 h.e) (λ_ _ _=>rfl) (λ_ _ _=>rfl) (λ_ _ _=>rfl) (λ_ _ _=>rfl)
 | newobj=>exact .of G (Zbf λ_ _ _=>rfl) (λ_ _ _=>rfl) (λ_ _ _=>rfl) (λ_ _ _=>rfl) (λ_ _ _=>rfl)
 | tval y h=>exact .oft G (Zs4 h.e) (λ_ _ _=>rfl) (λ_ _ _=>rfl) (λ_ _ _=>rfl) (λ_ _ _=>rfl)
 | tcmp op l r hl hr=>exact .oft G (Ztg hl.e hr.e) (λ_ _ _=>rfl) (λ_ _ _=>rfl) (λ_ _ _=>rfl) (λ_ _ _=>rfl)
 | tnot y h=>exact .oft G (Ztm h.t) (λ_ _ _=>rfl) (λ_ _ _=>rfl) (λ_ _ _=>rfl) (λ_ _ _=>rfl)
 | tand xs h=>exact .oft G (ZrW (h.bt _)) (λ_ _ _=>rfl) (λ_ _ _=>rfl) (λ_ _ _=>rfl) (λ_ _ _=>rfl)
 | tor xs h=>exact .oft G (ZuV (h.bt _)) (λ_ _ _=>rfl) (λ_ _ _=>rfl) (λ_ _ _=>rfl) (λ_ _ _=>rfl)
end
end
section
set_option backward.match.sparseCases false
set_option genSizeOf false in
set_option genSizeOfSpec false in
set_option genInjectivity false in
set_option genCtorIdx false in
inductive S where
 | skip
 | seq (a b:S)
 | asg (i:Nat) (x:X)
 | asgC (i:Nat) (x:X)
 | asgJ (i:Nat) (sep:List Nat) (t:Nat) (e it:X) (gl gc:Nat)
 | asgR (i:Nat) (x:X) (gl gc:Nat)
 | asgO (i:Nat) (xs:X)
 | asgO2 (i:Nat)
 | bnd (j i:Nat)
 | unp (is:List Nat) (x:X)
 | unpS (is:List Nat) (xs:X)
 | aug (i:Nat) (op:Bop) (x:X)
 | app (i:Nat) (x:X)
 | add (j i:Nat) (x:X)
 | new2 (i:Nat)
 | lst2 (i:Nat) (x:X)
 | ext (i:Nat) (xs:X)
 | setI (i:Nat) (k v:X)
 | delI (i:Nat) (k:X)
 | augL (i:Nat) (c:Nat)
 | ifs (t:X) (a b:S)
 | whl (t:X) (b:S)
 | fors (i:Nat) (it:X) (b:S)
 | ret (x:X)
 | brk
 | asr (t:X)
inductive Fl where
 | next
 | brk
 | ret (d:D)
noncomputable def Slot.frz:Slot->Slot
 | .own ds=>.fz (.list ds)
 | .own2 dss=>.fz (.list (dss.map .list))
 | s=>s
noncomputable def frz(σ:Sg):Sg:=σ.map Slot.frz
noncomputable def Slot.isApp(i:Nat):Slot->Bool
 | .app j=>j==i
 | _=>false
noncomputable def Zgn(i:Nat)(σ:Sg):Bool:=σ.all λs=>!s.isApp i
noncomputable def ZfZ:Sg->List Nat->List D->Sg
 | σ,i::is,d::ds=>ZfZ (σ.set i (.fz d)) is ds
 | σ,_,_=>σ
noncomputable def ZoB(op:Bop)(a b:D):Option D:=match op with
 | .add=>(match a with
  | .int a=>intD (λb=>some (.int (a+b))) b
  | .str a=>Zd4 (λb=>okS (a++b)) b
  | _=>none)
 | .sub=>intD (λa=>intD (λb=>some (.int (a - b))) b) a
 | _=>none
noncomputable def Zbk(t:Sg->Option Bool)(b:Sg->Option (Fl×Sg)):Nat->Sg->Option (Fl×Sg)
 | 0,_=>none
 | n+1,σ=>(t σ).bind λc=>if c then(b σ).bind λr=>match r.1 with
   | .next=>Zbk t b n r.2
   | .brk=>some (.next,r.2)
   | .ret d=>some (.ret d,r.2)
  else some (.next,σ)
noncomputable def forL(i:Nat)(b:Sg->Option (Fl×Sg)):List D->Sg->Option (Fl×Sg)
 | [],σ=>some (.next,σ)
 | d::ds,σ=>(b (σ.set i (.fz d))).bind λr=>match r.1 with
   | .next=>forL i b ds r.2
   | .brk=>some (.next,r.2)
   | .ret d=>some (.ret d,r.2)
theorem ZvB(i:Nat)(b:Sg->Option (Fl×Sg))(σ:Sg):forL i b [] σ=some (.next,σ):=rfl
noncomputable def ownOf(σ:Sg)(i:Nat):Option (List D):=match σ[i]? with
 | some (.own ds)=>some ds
 | _=>none
noncomputable def Zdl(σ:Sg)(i:Nat):Option (List (List D)):=match σ[i]? with
 | some (.own2 ds)=>some ds
 | _=>none
noncomputable def ZiT(σ:Sg)(j i:Nat):Bool:=match σ[j]? with
 | some (.app k)=>k==i
 | _=>false
noncomputable def Zo7(σ:Sg)(i:Nat)(ds:List D):Option (Fl×Sg):=if ds.length<=16777216 then some (.next,σ.set i (.own ds)) else none
noncomputable def Ztz(σ:Sg)(i:Nat)(ds:List (List D)):Option (Fl×Sg):=if ds.length<=16777216∧(ds.getLast?.getD []).length<=16777216 then some (.next,σ.set i (.own2 ds)) else none
noncomputable def Zuh(n:Nat)(d:D):Option (List D):=Zrx (λds=>if ds.length=n then some ds else none) d
noncomputable def Zm6(n:Nat)(d:D):Option Nat:=intD (λz=>if 0<=z∧z < n then some z.toNat else none) d
section
variable (Γ:ZaC) (N:Nat)
noncomputable def ex:S->Sg->Option (Fl×Sg)
 | .skip,σ=>some (.next,σ)
 | .seq a b,σ=>(ex a σ).bind λr=>match r.1 with
   | .next=>ex b r.2
   | f=>some (f,r.2)
 | .asg i x,σ=>(ev Γ σ x).map λd=>(.next,σ.set i (.fz d))
 | .asgC i x,σ=>(ev Γ σ x).map λd=>(.next,σ.set i (.fz d))
 | .asgJ i sep t e it _ _,σ=>(ev Γ σ (.joing (.const (.str sep)) t e it)).map λd=>(.next,σ.set i (.fz d))
 | .asgR i x _ _,σ=>(ev Γ σ (.resub x)).map λd=>(.next,σ.set i (.fz d))
 | .asgO i xs,σ=>if Zgn i σ then(evL Γ σ xs).bind λds=>Zo7 σ i ds else none
 | .asgO2 i,σ=>if Zgn i σ then some (.next,σ.set i (.own2 [[]])) else none
 | .bnd j i,σ=>(ownOf σ i).map λ_=>(.next,σ.set j (.app i))
 | .unp is x,σ=>(ev Γ σ x).bind λd=>(Zuh is.length d).map λds=>(.next,ZfZ σ is ds)
 | .unpS is xs,σ=>(evL Γ σ xs).bind λds=>if ds.length=is.length then some (.next,ZfZ σ is.reverse ds.reverse) else none
 | .aug i op x,σ=>(rd σ i).bind λa=>(ev Γ σ x).bind λb=>(ZoB op a b).map λd=>(.next,σ.set i (.fz d))
 | .app i x,σ=>(ownOf σ i).bind λds=>(ev Γ σ x).bind λd=>Zo7 σ i (ds++[d])
 | .add j i x,σ=>if ZiT σ j i then(ownOf σ i).bind λds=>(ev Γ σ x).bind λd=>Zo7 σ i (ds++[d]) else none
 | .new2 i,σ=>(Zdl σ i).bind λdss=>Ztz σ i (dss++[[]])
 | .lst2 i x,σ=>(Zdl σ i).bind λdss=>(ev Γ σ x).bind λd=>dss.getLast?.bind λl=>Ztz σ i (dss.dropLast++[l++[d]])
 | .ext i xs,σ=>(ownOf σ i).bind λds=>(evL Γ σ xs).bind λes=>Zo7 σ i (ds++es)
 | .setI i k v,σ=>(ownOf σ i).bind λds=>(ev Γ σ v).bind λd=>(ev Γ σ k).bind λz=>(Zm6 ds.length z).bind λz=>Zo7 σ i (ds.set z d)
 | .delI i k,σ=>(ownOf σ i).bind λds=>(ev Γ σ k).bind λz=>(Zm6 ds.length z).bind λz=>Zo7 σ i (ds.eraseIdx z)
 | .augL i c,σ=>(ownOf σ i).bind λds=>ds.getLast?.bind λd=>(ZoB .add d (.str [c])).bind λd'=>Zo7 σ i (ds.set (ds.length - 1) d')
 | .ifs t a b,σ=>(tv Γ σ t).bind λc=>if c then ex a σ else ex b σ
 | .whl t b,σ=>Zbk (λσ=>tv Γ σ t) (ex b) N σ
 | .fors i it b,σ=>((ev Γ σ it).bind itemsOf).bind λds=>forL i (ex b) ds σ
 | .ret x,σ=>(ev Γ (frz σ) x).map λd=>(.ret d,frz σ)
 | .brk,σ=>some (.brk,σ)
 | .asr t,σ=>(tv Γ σ t).bind λc=>if c then some (.next,σ) else none
end
noncomputable def Zt5(f:Option Expr->Pos->Bool)(e:Stmt):Bool:=if h:e.ctorIdx=3 then Stmt.Return.elim (motive_2:=λ_=>Bool) e h f else false
@[elab_as_elim] theorem Zsj{f:Option Expr->Pos->Bool}{e:Stmt}{G:Stmt->Prop}(h:Zt5 f e=true)(k:∀x0 x1,f x0 x1=true->G (.Return x0 x1)):G e:=
 Zbv h λi=>Stmt.Return.elim (motive_2:=λe=>∀i:e.ctorIdx=3,Stmt.Return.elim (motive_2:=λ_=>Bool) e i f=true->G e) e i (λx0 x1 _=>k x0 x1) i
noncomputable def Zuu(f:List Expr->Pos->Bool)(e:Stmt):Bool:=if h:e.ctorIdx=4 then Stmt.Delete.elim (motive_2:=λ_=>Bool) e h f else false
@[elab_as_elim] theorem ZsG{f:List Expr->Pos->Bool}{e:Stmt}{G:Stmt->Prop}(h:Zuu f e=true)(k:∀x0 x1,f x0 x1=true->G (.Delete x0 x1)):G e:=
 Zbv h λi=>Stmt.Delete.elim (motive_2:=λe=>∀i:e.ctorIdx=4,Stmt.Delete.elim (motive_2:=λ_=>Bool) e i f=true->G e) e i (λx0 x1 _=>k x0 x1) i
noncomputable def Zmp(f:List Expr->Expr->Pos->Bool)(e:Stmt):Bool:=if h:e.ctorIdx=5 then Stmt.Assign.elim (motive_2:=λ_=>Bool) e h f else false
@[elab_as_elim] theorem ZkM{f:List Expr->Expr->Pos->Bool}{e:Stmt}{G:Stmt->Prop}(h:Zmp f e=true)(k:∀x0 x1 x2,f x0 x1 x2=true->G (.Assign x0 x1 x2)):G e:=
 Zbv h λi=>Stmt.Assign.elim (motive_2:=λe=>∀i:e.ctorIdx=5,Stmt.Assign.elim (motive_2:=λ_=>Bool) e i f=true->G e) e i (λx0 x1 x2 _=>k x0 x1 x2) i
noncomputable def Zss(f:Expr->Operator->Expr->Pos->Bool)(e:Stmt):Bool:=if h:e.ctorIdx=7 then Stmt.AugAssign.elim (motive_2:=λ_=>Bool) e h f else false
@[elab_as_elim] theorem ZoI{f:Expr->Operator->Expr->Pos->Bool}{e:Stmt}{G:Stmt->Prop}(h:Zss f e=true)(k:∀x0 x1 x2 x3,f x0 x1 x2 x3=true->G (.AugAssign x0 x1 x2 x3)):G e:=
 Zbv h λi=>Stmt.AugAssign.elim (motive_2:=λe=>∀i:e.ctorIdx=7,Stmt.AugAssign.elim (motive_2:=λ_=>Bool) e i f=true->G e) e i (λx0 x1 x2 x3 _=>k x0 x1 x2 x3) i
noncomputable def Zt2(f:Expr->Expr->List Stmt->List Stmt->Pos->Bool)(e:Stmt):Bool:=if h:e.ctorIdx=9 then Stmt.For.elim (motive_2:=λ_=>Bool) e h f else false
@[elab_as_elim] theorem Zsu{f:Expr->Expr->List Stmt->List Stmt->Pos->Bool}{e:Stmt}{G:Stmt->Prop}(h:Zt2 f e=true)(k:∀x0 x1 x2 x3 x4,f x0 x1 x2 x3 x4=true->G (.For x0 x1 x2 x3 x4)):G e:=
 Zbv h λi=>Stmt.For.elim (motive_2:=λe=>∀i:e.ctorIdx=9,Stmt.For.elim (motive_2:=λ_=>Bool) e i f=true->G e) e i (λx0 x1 x2 x3 x4 _=>k x0 x1 x2 x3 x4) i
noncomputable def Zlp(f:Expr->List Stmt->List Stmt->Pos->Bool)(e:Stmt):Bool:=if h:e.ctorIdx=11 then Stmt.While.elim (motive_2:=λ_=>Bool) e h f else false
@[elab_as_elim] theorem Zox{f:Expr->List Stmt->List Stmt->Pos->Bool}{e:Stmt}{G:Stmt->Prop}(h:Zlp f e=true)(k:∀x0 x1 x2 x3,f x0 x1 x2 x3=true->G (.While x0 x1 x2 x3)):G e:=
 Zbv h λi=>Stmt.While.elim (motive_2:=λe=>∀i:e.ctorIdx=11,Stmt.While.elim (motive_2:=λ_=>Bool) e i f=true->G e) e i (λx0 x1 x2 x3 _=>k x0 x1 x2 x3) i
noncomputable def Zuq(f:Expr->List Stmt->List Stmt->Pos->Bool)(e:Stmt):Bool:=if h:e.ctorIdx=12 then Stmt.If.elim (motive_2:=λ_=>Bool) e h f else false
@[elab_as_elim] theorem Zsy{f:Expr->List Stmt->List Stmt->Pos->Bool}{e:Stmt}{G:Stmt->Prop}(h:Zuq f e=true)(k:∀x0 x1 x2 x3,f x0 x1 x2 x3=true->G (.If x0 x1 x2 x3)):G e:=
 Zbv h λi=>Stmt.If.elim (motive_2:=λe=>∀i:e.ctorIdx=12,Stmt.If.elim (motive_2:=λ_=>Bool) e i f=true->G e) e i (λx0 x1 x2 x3 _=>k x0 x1 x2 x3) i
noncomputable def ZuP(f:Expr->Option Expr->Pos->Bool)(e:Stmt):Bool:=if h:e.ctorIdx=19 then Stmt.Assert.elim (motive_2:=λ_=>Bool) e h f else false
@[elab_as_elim] theorem Zs5{f:Expr->Option Expr->Pos->Bool}{e:Stmt}{G:Stmt->Prop}(h:ZuP f e=true)(k:∀x0 x1 x2,f x0 x1 x2=true->G (.Assert x0 x1 x2)):G e:=
 Zbv h λi=>Stmt.Assert.elim (motive_2:=λe=>∀i:e.ctorIdx=19,Stmt.Assert.elim (motive_2:=λ_=>Bool) e i f=true->G e) e i (λx0 x1 x2 _=>k x0 x1 x2) i
noncomputable def qES(f:Expr->Pos->Bool)(e:Stmt):Bool:=if h:e.ctorIdx=24 then Stmt.Expr.elim (motive_2:=λ_=>Bool) e h f else false
@[elab_as_elim] theorem Zlq{f:Expr->Pos->Bool}{e:Stmt}{G:Stmt->Prop}(h:qES f e=true)(k:∀x0 x1,f x0 x1=true->G (.Expr x0 x1)):G e:=
 Zbv h λi=>Stmt.Expr.elim (motive_2:=λe=>∀i:e.ctorIdx=24,Stmt.Expr.elim (motive_2:=λ_=>Bool) e i f=true->G e) e i (λx0 x1 _=>k x0 x1) i
noncomputable def ZuS(f:Pos->Bool)(e:Stmt):Bool:=if h:e.ctorIdx=26 then Stmt.Break.elim (motive_2:=λ_=>Bool) e h f else false
@[elab_as_elim] theorem ZsK{f:Pos->Bool}{e:Stmt}{G:Stmt->Prop}(h:ZuS f e=true)(k:∀x0,f x0=true->G (.Break x0)):G e:=
 Zbv h λi=>Stmt.Break.elim (motive_2:=λe=>∀i:e.ctorIdx=26,Stmt.Break.elim (motive_2:=λ_=>Bool) e i f=true->G e) e i (λx0 _=>k x0) i
noncomputable def qX(v t:Nat->Bool)(r:X->Nat->Nat->List Nat->Bool):X->Bool
 | .var i=>v i
 | .tvar i=>t i
 | .repl a b c d=>r a b c d
 | _=>false
theorem Zus{v t:Nat->Bool}{r:X->Nat->Nat->List Nat->Bool}{G:X->Prop}(kv:∀i,v i=true->G (.var i))(kt:∀i,t i=true->G (.tvar i))(kr:∀a b c d,r a b c d=true->G (.repl a b c d))(e:X):qX v t r e=true->G e:=by
 cases e<;>first | exact kv _ | exact kt _ | exact kr _ _ _ _ | exact nf
noncomputable def qTv(f:Nat->Bool):X->Bool:=qX (λ_=>false) f λ_ _ _ _=>false
@[elab_as_elim] theorem Zt4{f:Nat->Bool}{e:X}{G:X->Prop}(h:qTv f e=true)(k:∀x0,f x0=true->G (.tvar x0)):G e:=Zus (λ_=>nf) k (λ_ _ _ _=>nf) e h
noncomputable def Zl1(f:X->Nat->Nat->List Nat->Bool):X->Bool:=qX (λ_=>false) (λ_=>false) f
@[elab_as_elim] theorem Zlt{f:X->Nat->Nat->List Nat->Bool}{e:X}{G:X->Prop}(h:Zl1 f e=true)(k:∀x0 x1 x2 x3,f x0 x1 x2 x3=true->G (.repl x0 x1 x2 x3)):G e:=Zus (λ_=>nf) (λ_=>nf) k e h
noncomputable def ZuR(f:Nat->Bool):X->Bool:=qX f (λ_=>false) λ_ _ _ _=>false
@[elab_as_elim] theorem Ztu{f:Nat->Bool}{e:X}{G:X->Prop}(h:ZuR f e=true)(k:∀x0,f x0=true->G (.var x0)):G e:=Zus k (λ_=>nf) (λ_ _ _ _=>nf) e h
noncomputable def ZbZ(f:Expr->Expr->Bool)(e:Stmt):Bool:=Zmp (λts v _=>b1 (λt=>f t v) ts) e
@[elab_as_elim] theorem ZbU{f:Expr->Expr->Bool}{e:Stmt}{G:Stmt->Prop}(h:ZbZ f e=true)(k:∀t v p,f t v=true->G (.Assign [t] v p)):G e:=ZkM h λ_ v p h=>ZfN h λt h=>k t v p h
noncomputable def tgt(sc:Scope)(nm:List Str)(i:Nat)(e:Expr):Bool:=Zcv (λn _=>nm[i]?==some n&&(sc.names.lookup n==some .local||sc.names.lookup n==some .cell)) e
noncomputable def isNm(nm:List Str)(i:Nat)(e:Expr):Bool:=mtv nm i e
noncomputable def ZrD(sc:Scope)(nm:List Str):List Nat->List Expr->Bool
 | [],es=>es.isEmpty
 | i::is,es=>bc (λe r=>tgt sc nm i e&&ZrD sc nm is r) es
noncomputable def Zo9(e:Expr):Bool:=!(e.ctorIdx==25)
noncomputable def ZtO(e:Expr):Bool:=Zl3 .USub (λa=>qC (.int 1) a) e
noncomputable def Zvw(sc:Scope)(v:Expr)(t:Expr):Bool:=Zgj v||Zcv (λn _=>sc.names.lookup n==some .cell) t
noncomputable def Zmj(sc:Scope)(v:Expr)(t:Expr):Bool:=Zcv (λn p=>Zkn (λ_ _ s q=>sc.names.lookup n==some .local&&p.line==q.line&&!(s.names.any λ(m,k)=>m==n&&(k==.local||k==.cell))) v) t
noncomputable def ZtD(sc:Scope)(ts es:List Expr):Bool:=b2 (λt u=>b2 (λx y=>Zcv (λa p=>Zcv (λb q=>sc.names.lookup a==some .local&&sc.names.lookup b==some .local&&p.line==q.line&&a != b&&!([x,y].all (foldedForSure 8))&&!([x,y].all (constantsAlone 8))&&Zai x&&Zai y) u) t) es) ts
noncomputable def ZjF(scope:Scope)(x:Str):Bool:=
 scope.names.all (λy=>y.2 != .cell&&y.2 != .free)&&scope.names.lookup (".0" : Str)==some .local&&scope.names.lookup x==some .local&&scope.kind==.function&&!scope.isCoroutine
noncomputable def Zsd(params:Arguments)(scope:Scope)(m:Str):Bool:=
 params.posonlyargs.isEmpty&&b1 (λy=>y.arg==m&&y.annotation.isNone) params.args&&params.vararg.isNone&&params.kwonlyargs.isEmpty&&params.kw_defaults.isEmpty&&params.kwarg.isNone&&params.defaults.isEmpty&&scope.names.all (λy=>y.2 != .cell&&y.2 != .free)&&(scope.names.lookup m==some .local&&scope.kind==.function&&!scope.isCoroutine&&!scope.isGenerator&&m != ("__debug__" : Str))
noncomputable def ZtS(params:Arguments)(scope:Scope)(body:Expr):Bool:=Zrv (λl op r _=>op==.Add&&mtc (.str [92]) l&&Zm1 .Or (b2 λc emp=>mtc (.str []) emp&&ZcY "group" (λm=>b1 λone=>mtc (.int 1) one&&Zcv (λm _=>Zsd params scope m) m) c) r) body
noncomputable def S.Zcw(xs:List (Nat×Nat×Bool)):S->Bool
 | .asgJ _ _ _ _ _ gl gc=>xs.contains (gl,gc,true)
 | .asgR _ _ gl gc=>xs.contains (gl,gc,false)
 | .seq a b=>a.Zcw xs&&b.Zcw xs
 | .ifs _ a b=>a.Zcw xs&&b.Zcw xs
 | .whl _ b=>b.Zcw xs
 | .fors _ _ b=>b.Zcw xs
 | _=>true
section
variable (nm:List Str) (fn:Nat->Str) (sc:Scope)
mutual
noncomputable def ms1:S->Stmt->Bool
 | .skip,_=>false
 | .seq _ _,_=>false
 | .asg i x,e=>ZbZ (λt v=>tgt sc nm i t&&x.fz&&mt nm fn sc true x v&&Zvw sc v t) e
 | .asgC i x,e=>ZbZ (λt v=>tgt sc nm i t&&mt nm fn sc true x v&&Zmj sc v t) e
 | .asgJ i sep t e it gl gc,st=>ZbZ (λt' v=>tgt sc nm i t'&&ZcY "join" (λso=>b1 λg=>mtc (.str sep) so&&decide (sep.length<=4)&&Zvs (λelt gens scope gpos=>gpos.line==gl&&gpos.col==gc&&mt nm fn scope false e elt&&
   b1 (λc=>c.is_async==0&&c.ifs.isEmpty&&qTv (λj=>isNm nm j c.iter) it&&Zl1 (λb _ _ _=>Zl1 (λb _ _ _=>ZuR (λu=>u==t) b) b) e&&Zcv (λx _=>nm[t]?==some x&&ZjF scope x) c.target) gens) g) v) st
 | .asgR i x gl gc,st=>ZbZ (λt' v=>tgt sc nm i t'&&x.fz&&ZcY "sub" (λo=>b2 λl a=>Zcv (λn _=>n==("_twin_re_1" : Str)&&Zcz sc n) o&&Zai a&&mt nm fn sc true x a&&Zvr (λparams body scope lpos=>lpos.line==gl&&lpos.col==gc&&ZtS params scope body) l) v) st
 | .asgO i xs,e=>ZbZ (λt v=>tgt sc nm i t&&Zhy (λes _=>ZdT xs&&mtL nm fn sc true xs es) v) e
 | .asgO2 i,e=>ZbZ (λt v=>tgt sc nm i t&&Zhy (λes _=>b1 (Zhy λzs _=>zs.isEmpty) es) v) e
 | .bnd j i,e=>ZbZ (λt v=>tgt sc nm j t&&ZpO (λo n _=>n==("append" : Str)&&isNm nm i o) v) e
 | .unp is x,e=>ZbZ (λtt v=>Zrr (λts _ _=>ZrD sc nm is ts&&Zo9 v&&Zgj v&&x.fz&&mt nm fn sc true x v) tt) e
 | .unpS is xs,e=>ZbZ (λtt v=>Zrr (λts _ _=>Zrr (λes _ _=>ZrD sc nm is ts&&ZtD sc ts es&&ZdT xs&&mtL nm fn sc true xs es) v) tt) e
 | .aug i op x,e=>Zss (λt o v _=>o==op.op&&tgt sc nm i t&&isNm nm i t&&x.fz&&mt nm fn sc true x v) e
 | .app i x,e=>qES (λv _=>ZcY "append" (λo=>b1 λa=>isNm nm i o&&Zai a&&x.fz&&mt nm fn sc true x a) v) e
 | .add j _ x,e=>qES (λv _=>ZlA (λg as kw _=>kw.isEmpty&&isNm nm j g&&b1 (λa=>Zai a&&x.fz&&mt nm fn sc true x a) as) v) e
 | .new2 i,e=>qES (λv _=>ZcY "append" (λo=>b1 λa=>isNm nm i o&&Zhy (λzs _=>zs.isEmpty) a) v) e
 | .lst2 i x,e=>qES (λv _=>ZcY "append" (λq=>b1 λa=>ZnZ (λo k _=>isNm nm i o&&ZtO k) q&&Zai a&&x.fz&&mt nm fn sc true x a) v) e
 | .ext i xs,e=>qES (λv _=>ZcY "extend" (λo=>b1 λa=>isNm nm i o&&Zhy (λes _=>ZdT xs&&mtL nm fn sc true xs es) a) v) e
 | .setI i k v,e=>ZbZ (λt ve=>ZnZ (λo ke _=>isNm nm i o&&Zgj ve&&Zai ke&&k.fz&&v.fz&&mt nm fn sc true k ke&&mt nm fn sc true v ve) t) e
 | .delI i k,e=>Zuu (λts _=>b1 (ZnZ λo ke _=>isNm nm i o&&Zai ke&&k.fz&&mt nm fn sc true k ke) ts) e
 | .augL i c,e=>Zss (λt op v _=>op==.Add&&mtc (.str [c]) v&&ZnZ (λo k _=>isNm nm i o&&ZtO k) t) e
 | .ifs t a b,e=>Zuq (λte ba bb _=>mtT nm fn sc true t te&&ms a ba&&ms b bb) e
 | .whl t b,e=>Zlp (λte ba el _=>el.isEmpty&&mtT nm fn sc true t te&&ms b ba) e
 | .fors i it b,e=>Zt2 (λtg iter ba el _=>el.isEmpty&&tgt sc nm i tg&&it.fz&&Zai iter&&mtI nm fn sc true it iter&&ms b ba) e
 | .ret x,e=>Zt5 (λv _=>opt false (λv=>x.fz&&mt nm fn sc true x v) v) e
 | .brk,e=>ZuS (λ_=>true) e
 | .asr t,e=>ZuP (λte _ _=>mtT nm fn sc true t te) e
termination_by structural x _=>x
noncomputable def ms:S->List Stmt->Bool
 | .skip,es=>es.isEmpty
 | .seq a b,es=>bc (λe r=>ms1 a e&&ms b r) es
 | _,_=>false
termination_by structural x _=>x
end
end
end
section
set_option backward.match.sparseCases false
noncomputable def Zb9(a:Addr):Obj:={ cls:=.type "builtin_function_or_method",data:=.fields #[.builtin "list.append",.ref a] }
noncomputable def Slot.has:Slot->Bool->Prop
 | .own _,b=>b=false
 | .own2 _,_=>True
 | _,_=>False
noncomputable def Ob(σ:Sg)(i:Nat)(b:Bool):Prop:=∃sl,σ[i]? = some sl∧sl.has b
inductive Za1 (P:Addr->Prop) (ad:Nat->Bool->Addr) (i:Nat) (h:Heap):Slot->Value->Prop
 | fz {v:Value} {d:D}:Rd P h v d->Za1 P ad i h (.fz d) v
 | own {vs:List Value} {ds:List D}:h.PlainList (ad i false) vs.toArray->Zad P h vs ds->ds.length<=sizeLine->Za1 P ad i h (.own ds) (Value.ref (ad i false))
 | own2 {vs ws:List Value} {dss pre:List (List D)} {l:List D}:dss=pre++[l]->h.PlainList (ad i false) (vs++[Value.ref (ad i true)]).toArray->Zad P h vs (pre.map .list)->h.PlainList (ad i true) ws.toArray->Zad P h ws l->
   pre.length+1<=sizeLine->l.length<=sizeLine->Za1 P ad i h (.own2 dss) (Value.ref (ad i false))
 | app {g:Addr} {j:Nat}:P g->h.get? g=some (Zb9 (ad j false))->Za1 P ad i h (.app j) (Value.ref g)
theorem Za1.mono{P P':Addr->Prop}{ad ad':Nat->Bool->Addr}{i:Nat}{h h':Heap}{sl:Slot}{v:Value}(x:Za1 P ad i h sl v)
  (hP:∀a o,NT o->h.get? a=some o->P a->P' a∧h'.get? a=some o) (hO:∀b,sl.has b->ad' i b=ad i b∧∀its,h.PlainList (ad i b) its->h'.PlainList (ad i b) its) (hA:∀j,sl=.app j->ad' j false=ad j false):Za1 P' ad' i h' sl v:=by
 cases x with
 | fz r=>exact .fz (r.mono hP)
 | own e r l=>
  obtain⟨e1,e2⟩:=hO false rfl
  have:=Za1.own (P:=P') (ad:=ad') (i:=i) (by erw[rwl (e1 ..) ?_];exact e2 _ e) (r.mono hP) l
  rwa [e1] at this
 | own2 d e r e' r' l l'=>
  obtain⟨e1,e2⟩:=hO false trivial
  obtain⟨e3,e4⟩:=hO true trivial
  have:=Za1.own2 (P:=P') (ad:=ad') (i:=i) d (by erw[rwl (e1 ..) (rwl (e3 ..) ?_)];exact e2 _ e) (r.mono hP) (by erw[rwl (e3 ..) ?_];exact e4 _ e') (r'.mono hP) l l'
  rwa [e1] at this
 | app p e=>
  have:=hP _ _ (.ZaD rfl) e p
  exact .app this.1 (by erw[rwl (hA _ rfl ..) ?_];exact this.2)
structure Fp where
 base:Addr->Prop
 Gd:Heap->Prop
 env:Env
 sc:Scope
 nm:List Str
 P0:Addr->Prop
 s0:Shared
noncomputable def Pv(F:Fp)(ad:Nat->Bool->Addr)(σ:Sg)(a:Addr):Prop:=a=F.env.locals∨(∃n,F.env.cells.lookup n=some a)∨∃i b,Ob σ i b∧a=ad i b
noncomputable def Pq(F:Fp)(K:Addr->Prop)(ad:Nat->Bool->Addr)(σ:Sg)(a:Addr):Prop:=F.P0 a∧¬Pv F ad σ a∧¬K a
noncomputable abbrev Fs(F:Fp):Prop:=(F.env.scope=F.sc)∧(F.sc.kind=.function)∧(F.env.globals=mainGlobals)∧(F.env.builtins=builtinsNs)∧(Pf F.P0 F.s0.heap)∧(∀n,F.sc.names.lookup n=some .cell->∃c,F.env.cells.lookup n=some c)∧(∀(i j:Nat) n,F.nm[i]? = some n->F.nm[j]? = some n->i=j)∧(∀n n' c,F.env.cells.lookup n=some c->F.env.cells.lookup n'=some c->n=n')∧(F.s0.heap.get? F.env.locals=none∧¬F.base F.env.locals)∧(∀n c,F.env.cells.lookup n=some c->F.s0.heap.get? c=none∧¬F.base c)
theorem Fs.scp{F:Fp}(slf:Fs F):F.env.scope=F.sc:=slf.1
theorem Fs.kf{F:Fp}(slf:Fs F):F.sc.kind=.function:=slf.2.1
theorem Fs.gl{F:Fp}(slf:Fs F):F.env.globals=mainGlobals:=slf.2.2.1
theorem Fs.bi{F:Fp}(slf:Fs F):F.env.builtins=builtinsNs:=slf.2.2.2.1
theorem Fs.pf{F:Fp}(slf:Fs F):Pf F.P0 F.s0.heap:=slf.2.2.2.2.1
theorem Fs.lk{F:Fp}(slf:Fs F):∀n,F.sc.names.lookup n=some .cell->∃c,F.env.cells.lookup n=some c:=slf.2.2.2.2.2.1
theorem Fs.nd{F:Fp}(slf:Fs F):∀(i j:Nat) n,F.nm[i]? = some n->F.nm[j]? = some n->i=j:=slf.2.2.2.2.2.2.1
theorem Fs.inj{F:Fp}(slf:Fs F):∀n n' c,F.env.cells.lookup n=some c->F.env.cells.lookup n'=some c->n=n':=slf.2.2.2.2.2.2.2.1
theorem Fs.fl{F:Fp}(slf:Fs F):F.s0.heap.get? F.env.locals=none∧¬F.base F.env.locals:=slf.2.2.2.2.2.2.2.2.1
theorem Fs.fc{F:Fp}(slf:Fs F):∀n c,F.env.cells.lookup n=some c->F.s0.heap.get? c=none∧¬F.base c:=slf.2.2.2.2.2.2.2.2.2
noncomputable abbrev Fm(F:Fp)(K:Addr->Prop)(ad:Nat->Bool->Addr)(σ:Sg)(s:Shared):Prop:=(Gw F.s0 s)∧(Ok F.Gd s)∧(∃m,s.heap.Ns F.env.locals m)∧(∀n c,F.env.cells.lookup n=some c->∃v,s.heap.IsCell c v)∧(∀i b,Ob σ i b->F.s0.heap.get? (ad i b)=none∧¬F.base (ad i b)∧¬K (ad i b)∧∃its,s.heap.PlainList (ad i b) its)∧(∀i b j c,Ob σ i b->Ob σ j c->ad i b=ad j c->i=j∧b=c)∧(∀b,K b->b≠F.env.locals∧(∀n c,F.env.cells.lookup n=some c->b≠c)∧F.s0.heap.get? b=none∧¬F.base b∧∃o,Mut o∧NT o∧s.heap.get? b=some o)∧(∀i sl,σ[i]? = some sl->sl≠.un->∃n v,F.nm[i]? = some n∧Zb0 F.env s.heap n v∧Za1 (Pq F K ad σ) ad i s.heap sl v)
theorem Fm.gw{F:Fp}{K:Addr->Prop}{ad:Nat->Bool->Addr}{σ:Sg}{s:Shared}(slf:Fm F K ad σ s):Gw F.s0 s:=slf.1
theorem Fm.ok{F:Fp}{K:Addr->Prop}{ad:Nat->Bool->Addr}{σ:Sg}{s:Shared}(slf:Fm F K ad σ s):Ok F.Gd s:=slf.2.1
theorem Fm.loc{F:Fp}{K:Addr->Prop}{ad:Nat->Bool->Addr}{σ:Sg}{s:Shared}(slf:Fm F K ad σ s):∃m,s.heap.Ns F.env.locals m:=slf.2.2.1
theorem Fm.cel{F:Fp}{K:Addr->Prop}{ad:Nat->Bool->Addr}{σ:Sg}{s:Shared}(slf:Fm F K ad σ s):∀n c,F.env.cells.lookup n=some c->∃v,s.heap.IsCell c v:=slf.2.2.2.1
theorem Fm.own{F:Fp}{K:Addr->Prop}{ad:Nat->Bool->Addr}{σ:Sg}{s:Shared}(slf:Fm F K ad σ s):∀i b,Ob σ i b->F.s0.heap.get? (ad i b)=none∧¬F.base (ad i b)∧¬K (ad i b)∧∃its,s.heap.PlainList (ad i b) its:=slf.2.2.2.2.1
theorem Fm.inj{F:Fp}{K:Addr->Prop}{ad:Nat->Bool->Addr}{σ:Sg}{s:Shared}(slf:Fm F K ad σ s):∀i b j c,Ob σ i b->Ob σ j c->ad i b=ad j c->i=j∧b=c:=slf.2.2.2.2.2.1
theorem Fm.kx{F:Fp}{K:Addr->Prop}{ad:Nat->Bool->Addr}{σ:Sg}{s:Shared}(slf:Fm F K ad σ s):∀b,K b->b≠F.env.locals∧(∀n c,F.env.cells.lookup n=some c->b≠c)∧F.s0.heap.get? b=none∧¬F.base b∧∃o,Mut o∧NT o∧s.heap.get? b=some o:=slf.2.2.2.2.2.2.1
theorem Fm.vs{F:Fp}{K:Addr->Prop}{ad:Nat->Bool->Addr}{σ:Sg}{s:Shared}(slf:Fm F K ad σ s):∀i sl,σ[i]? = some sl->sl≠.un->∃n v,F.nm[i]? = some n∧Zb0 F.env s.heap n v∧Za1 (Pq F K ad σ) ad i s.heap sl v:=slf.2.2.2.2.2.2.2
theorem ZtC{h:Heap}{a:Addr}{m m':Str->Option Value}(x:h.Ns a m)(y:h.Ns a m'):m=m':=by
 obtain⟨o,es,ep,e,d,_,f⟩:=x
 obtain⟨o',es',ep',e',d',_,f'⟩:=y
 rw[e] at e';cases e'
 rw[d] at d';cases d'
 funext n
 erw[rwr (f ..) (rwr (f' ..) ?_)]
theorem Zc7{h:Heap}{a c:Addr}{m:Str->Option Value}{v:Option Value}(x:h.Ns a m)(y:h.IsCell c v):a≠c:=λq=>by
 subst q
 obtain⟨o,es,ep,e,d,_⟩:=x
 obtain⟨o',e',d'⟩:=y
 rw[e] at e';cases e'
 rw[d] at d';cases d'
theorem Zbz{h:Heap}{a c:Addr}{m:Str->Option Value}{its:Array Value}(x:h.Ns a m)(y:h.PlainList c its):a≠c:=λq=>by
 subst q
 obtain⟨o,es,ep,e,d,_⟩:=x
 obtain⟨n,e'⟩:=y
 rw[e] at e';cases e'
 cases d
theorem Zbn{h:Heap}{a c:Addr}{v:Option Value}{its:Array Value}(x:h.IsCell a v)(y:h.PlainList c its):a≠c:=λq=>by
 subst q
 obtain⟨o,e,d⟩:=x
 obtain⟨n,e'⟩:=y
 rw[e] at e';cases e'
 cases d
theorem ZaG{h h':Heap}{a b:Addr}{its:Array Value}(x:h.PlainList b its)(hs:Heap.ExtBut a h h')(q:b≠a):h'.PlainList b its:=let ⟨n,e⟩:=x;⟨n,hs b _ q e⟩
theorem Zb3{h h':Heap}{a b:Addr}{v:Option Value}(x:h.IsCell b v)(hs:Heap.ExtBut a h h')(q:b≠a):h'.IsCell b v:=let ⟨o,e,d⟩:=x;⟨o,hs b _ q e,d⟩
theorem Zgd{h h':Heap}{a b:Addr}{m:Str->Option Value}(x:h.Ns b m)(hs:Heap.ExtBut a h h')(q:b≠a):h'.Ns b m:=let ⟨o,es,ep,e,r⟩:=x;⟨o,es,ep,hs b _ q e,r⟩
theorem get_set{σ:Sg}{i j:Nat}{sl t:Slot}(h:(σ.set i sl)[j]? = some t):(j=i∧t=sl)∨(j≠i∧σ[j]? = some t):=by
 by_cases q:j=i
 ·subst q
  by_cases hl:j < σ.length
  ·rw[List.getElem?_set_self hl] at h;cases h;exact .inl ⟨rfl,rfl⟩
  ·rw[List.getElem?_eq_none (by simp;lia)] at h;cases h
 ·rw[List.getElem?_set_ne (Ne.symm q)] at h;exact .inr ⟨q,h⟩
theorem ZbH{σ:Sg}{i j:Nat}{sl:Slot}{b:Bool}(h:Ob (σ.set i sl) j b):(j=i∧sl.has b)∨(j≠i∧Ob σ j b):=by
 obtain⟨t,e,hb⟩:=h
 rcases get_set e with⟨q,rfl⟩ | ⟨q,e⟩
 ·exact .inl ⟨q,hb⟩
 ·exact .inr ⟨q,t,e,hb⟩
noncomputable abbrev Stp(Z Z':Addr->Prop)(h h':Heap):Prop:=(KpB Z h h')∧(∀b o,h.get? b=some o->∃o',h'.get? b=some o')∧(∀b o,h.get? b=some o->Z' b->Z b)
theorem Stp.kp{Z Z':Addr->Prop}{h h':Heap}(slf:Stp Z Z' h h'):KpB Z h h':=slf.1
theorem Stp.ex{Z Z':Addr->Prop}{h h':Heap}(slf:Stp Z Z' h h'):∀b o,h.get? b=some o->∃o',h'.get? b=some o':=slf.2.1
theorem Stp.pv{Z Z':Addr->Prop}{h h':Heap}(slf:Stp Z Z' h h'):∀b o,h.get? b=some o->Z' b->Z b:=slf.2.2
theorem Stp.refl(Z:Addr->Prop)(h:Heap):Stp Z Z h h:=⟨.refl _ _,λ_ o e=>⟨o,e⟩,λ_ _ _ z=>z⟩
theorem Stp.trans{Z Z' Z'':Addr->Prop}{h h' h'':Heap}(x:Stp Z Z' h h')(y:Stp Z' Z'' h' h''):Stp Z Z'' h h'':=⟨(λb o n z e=>y.kp b o n (λz'=>z (x.pv b o e z')) (x.kp b o n z e)),
(λb o e=>let ⟨o',e'⟩:=x.ex b o e;y.ex b o' e'),
(λb o e z=>let ⟨o',e'⟩:=x.ex b o e;x.pv b o e (y.pv b o' e' z))⟩
theorem Gw.stp{Z:Addr->Prop}{s s':Shared}(g:Gw s s'):Stp Z Z s.heap s'.heap:=⟨g.kp.toB,g.ex,λ_ _ _ z=>z⟩
theorem Stp.sub{Z Z' Z'':Addr->Prop}{h h':Heap}(x:Stp Z Z' h h')(hz:∀b o,h.get? b=some o->Z'' b->Z b):Stp Z Z'' h h':=⟨x.kp,x.ex,hz⟩
section
variable {F:Fp}{K:Addr->Prop}{ad:Nat->Bool->Addr}{σ:Sg}{s:Shared}{mg mb:Str->Option Value}
theorem Fm.pvx(x:Fm F K ad σ s){a:Addr}(h:Pv F ad σ a):∃o,Mut o∧NT o∧s.heap.get? a=some o:=by
 rcases h with rfl | ⟨n,hc⟩ | ⟨i,b,ob,rfl⟩
 ·obtain⟨m,hm⟩:=x.loc;obtain⟨o,e,m1,n1⟩:=Mut.ns hm;exact⟨o,m1,n1,e⟩
 ·obtain⟨v,hv⟩:=x.cel n a hc;obtain⟨o,e,m1,n1⟩:=Mut.cell hv;exact⟨o,m1,n1,e⟩
 ·obtain⟨_,_,_,its,hv⟩:=x.own i b ob;obtain⟨o,e,m1,n1⟩:=Mut.plain hv;exact⟨o,m1,n1,e⟩
theorem Fm.pvf(H:Fs F)(x:Fm F K ad σ s){a:Addr}(h:Pv F ad σ a):F.s0.heap.get? a=none∧¬F.base a:=by
 rcases h with rfl | ⟨n,hc⟩ | ⟨i,b,ob,rfl⟩
 ·exact H.fl
 ·exact H.fc n a hc
 ·exact⟨(x.own i b ob).1,(x.own i b ob).2.1⟩
theorem Fm.pf(H:Fs F)(x:Fm F K ad σ s):Pf (Pq F K ad σ) s.heap:=λa na=>by
 by_cases hp:F.P0 a
 ·by_cases hv:Pv F ad σ a
  ·obtain⟨o,_,n,e⟩:=x.pvx hv;exact⟨o,n,e⟩
  ·by_cases hk:K a
   ·obtain⟨_,_,_,_,o,_,n,e⟩:=x.kx a hk;exact⟨o,n,e⟩
   ·exact absurd ⟨hp,hv,hk⟩ na
 ·obtain⟨o,n,e⟩:=H.pf a hp
  exact⟨o,n,x.gw.kp _ _ n e⟩
set_option tactic.hygienic true in
theorem Fm.ZcE(H:Fs F)(x:Fm F K ad σ s):ZaO F.env F.sc F.nm (Pq F K ad σ) σ s.heap:=⟨H.scp,
H.kf,
H.gl,
H.bi,
H.lk,
(λi d e=>by
  unfold rd at e
  split at e
  ·rename_i d' he
   cases e
   obtain⟨n,v,hn,hv,hr⟩:=x.vs i _ he (by intro h;cases h)
   cases hr with
   | fz r=>exact⟨n,v,hn,hv,r⟩
  ·cases e),
(λi d e=>by
  unfold rdt at e
  split at e
  ·rename_i d' he
   cases e
   obtain⟨n,v,hn,hv,hr⟩:=x.vs i _ he (by intro h;cases h)
   cases hr with
   | fz r=>exact⟨n,v,hn,hv,.of r⟩
  ·rename_i d' he
   cases e
   obtain⟨n,v,hn,hv,hr⟩:=x.vs i _ he (by intro h;cases h)
   cases hr with
   | own e r l=>exact⟨n,_,hn,hv,.own e r l⟩
  ·cases e)⟩
theorem Fm.grow(x:Fm F K ad σ s){s':Shared}(g:Gw s s')(o:Ok F.Gd s'):Fm F K ad σ s':=⟨x.gw.trans g,
o,
(let ⟨m,h⟩:=x.loc;⟨m,Zj1 h g.kp⟩),
(λn c h=>let ⟨v,h⟩:=x.cel n c h;⟨v,ZiD h g.kp⟩),
(λi b h=>let ⟨h1,h2,h3,its,h4⟩:=x.own i b h;⟨h1,h2,h3,its,Zbo h4 g.kp⟩),
x.inj,
(λb h=>let ⟨h1,h2,h3,h4,o,m,n,e⟩:=x.kx b h;⟨h1,h2,h3,h4,o,m,n,g.kp b o n e⟩),
(λi sl e h=>let ⟨n,v,h1,h2,h3⟩:=x.vs i sl e h;⟨n,v,h1,h2.kp g.kp,h3.mono (λa o n e p=>⟨p,g.kp a o n e⟩) (λb _=>⟨rfl,λits h=>Zbo h g.kp⟩) λ_ _=>rfl⟩)⟩
theorem Fm.ZrA(G:Gr F.base mg mb F.Gd)(H:Fs F)(x:Fm F K ad σ s){a:Addr}(ha:Pv F ad σ a∨K a){h':Heap}{tk:Tok}(hs:Heap.ExtBut a s.heap h')(ht:1<=tk):Gw F.s0 { s with heap:=h',toks:=tk }∧Ok F.Gd { s with heap:=h',toks:=tk }:=by
 have f:F.s0.heap.get? a=none∧¬F.base a:=by
  rcases ha with h | h
  ·exact x.pvf H h
  ·exact⟨(x.kx a h).2.2.1,(x.kx a h).2.2.2.1⟩
 obtain⟨o,m,n,e⟩:∃o,Mut o∧NT o∧s.heap.get? a=some o:=by
  rcases ha with h | h
  ·exact x.pvx h
  ·exact(x.kx a h).2.2.2.2
 refine⟨⟨λb o n e=>hs b o (λq=>by rw[q,f.1] at e;cases e) (x.gw.kp b o n e),λb o e=>?_,x.gw.os,x.gw.gens⟩,G.same x.ok.gd f.2 e m hs,ht⟩
 obtain⟨o',e'⟩:=x.gw.ex b o e
 exact⟨o',hs b o' (λq=>by rw[q,f.1] at e;cases e) e'⟩
end
end
section
section
variable {F:Fp}{K:Addr->Prop}{ad:Nat->Bool->Addr}{σ:Sg}{s:Shared}{mg mb:Str->Option Value}
theorem Fm.prep(x:Fm F K ad σ s){i:Nat}{ad':Nat->Bool->Addr}(ha:∀j b,j≠i->ad' j b=ad j b)(hn:Zgn i σ=true∨ad'=ad):Fm F K ad' (σ.set i .un) s:=by
 have ob:∀j b,Ob (σ.set i .un) j b->j≠i∧Ob σ j b:=λj b h=>by
  rcases ZbH h with⟨_,h⟩ | h
  ·cases h
  ·exact h
 have pv:∀a,Pv F ad' (σ.set i .un) a->Pv F ad σ a:=λa h=>by
  rcases h with h | h | ⟨j,b,h,e⟩
  ·exact .inl h
  ·exact .inr (.inl h)
  ·have:=ob j b h;exact .inr (.inr ⟨j,b,this.2,by erw[rwl (e ..) (rwl (ha j b this.1 ..) ?_)]⟩)
 exact⟨x.gw,
  x.ok,
  x.loc,
  x.cel,
  (λj b h=>by have:=ob j b h;erw[rwl (ha j b this.1 ..) ?_];exact x.own j b this.2),
  (λj b k c h1 h2 e=>by have h1:=ob j b h1;have h2:=ob k c h2;rw[ha j b h1.1,ha k c h2.1] at e;exact x.inj j b k c h1.2 h2.2 e),
  x.kx,
  (λj sl e hne=>by
   rcases get_set e with⟨_,rfl⟩ | ⟨q,e⟩
   ·exact absurd rfl hne
   ·obtain⟨n,v,h1,h2,h3⟩:=x.vs j sl e hne
    refine⟨n,v,h1,h2,h3.mono (λa o _ e p=>⟨⟨p.1,λz=>p.2.1 (pv a z),p.2.2⟩,e⟩) (λb _=>⟨ha j b q,λ_ h=>h⟩) λk hk=>?_⟩
    subst hk
    rcases hn with hn | rfl
    ·refine ha k false λq=>?_
     have:=List.all_eq_true.mp hn _ (List.mem_of_getElem? e)
     simp[Slot.isApp,q] at this
    ·rfl)⟩
theorem Fm.Zpj(x:Fm F K ad σ s){s':Shared}(g:Gw s s')(o:Ok F.Gd s'){I:Addr}(hI:s.heap.get? I=none)(hb : ¬F.base I)(hx:∃o,Mut o∧NT o∧s'.heap.get? I=some o):Fm F (λa=>K a∨a=I) ad σ s':=⟨x.gw.trans g,
o,
(let ⟨m,h⟩:=x.loc;⟨m,Zj1 h g.kp⟩),
(λn c h=>let ⟨v,h⟩:=x.cel n c h;⟨v,ZiD h g.kp⟩),
(λi b h=>by
  obtain⟨h1,h2,h3,its,h4⟩:=x.own i b h
  exact⟨h1,h2,λz=>z.elim h3 λq=>(by obtain⟨_,e⟩:=h4;rw[q,hI] at e;cases e),its,Zbo h4 g.kp⟩),
x.inj,
(λb h=>by
  rcases h with h | rfl
  ·obtain⟨h1,h2,h3,h4,o,m,n,e⟩:=x.kx b h;exact⟨h1,h2,h3,h4,o,m,n,g.kp b o n e⟩
  ·refine⟨λq=>?_,λn c hc q=>?_,x.gw.none hI,hb,hx⟩
   ·obtain⟨m,o,es,ep,e,_⟩:=x.loc;rw[←q,hI] at e;cases e
   ·obtain⟨v,o,e,_⟩:=x.cel n c hc;rw[←q,hI] at e;cases e),
(λi sl e h=>let ⟨n,v,h1,h2,h3⟩:=x.vs i sl e h;⟨n,v,h1,h2.kp g.kp,h3.mono (λa o n e p=>⟨⟨p.1,p.2.1,λz=>z.elim p.2.2 λq=>(by rw[q,hI] at e;cases e)⟩,g.kp a o n e⟩) (λb _=>⟨rfl,λits h=>Zbo h g.kp⟩) λ_ _=>rfl⟩)⟩
theorem Fm.Zu7(x:Fm F K ad σ s){K':Addr->Prop}(h:∀a,K' a->K a):Fm F K' ad σ s:=⟨x.gw,
x.ok,
x.loc,
x.cel,
(λi b ob=>let ⟨h1,h2,h3,h4⟩:=x.own i b ob;⟨h1,h2,λz=>h3 (h _ z),h4⟩),
x.inj,
(λb hb=>x.kx b (h b hb)),
(λi sl e hne=>let ⟨n,v,h1,h2,h3⟩:=x.vs i sl e hne;⟨n,v,h1,h2,h3.mono (λa o _ e p=>⟨⟨p.1,p.2.1,λz=>p.2.2 (h a z)⟩,e⟩) (λb _=>⟨rfl,λ_ h=>h⟩) λ_ _=>rfl⟩)⟩
theorem Zb0.but{env:Env}{h h':Heap}{a:Addr}{n:Str}{v:Value}(x:Zb0 env h n v)(hs:Heap.ExtBut a h h')(h1:env.locals≠a)(h2:∀n c,env.cells.lookup n=some c->c≠a):Zb0 env h' n v:=by
 rcases x with⟨hk,m,hn,e⟩ | ⟨hk,c,e,hc⟩
 ·exact .inl ⟨hk,m,Zgd hn hs h1,e⟩
 ·exact .inr ⟨hk,c,e,Zb3 hc hs (h2 n c e)⟩
theorem Fm.Zu2(G:Gr F.base mg mb F.Gd)(H:Fs F)(x:Fm F K ad σ s){I:Addr}(hI:K I){h':Heap}{tk:Tok}(hs:Heap.ExtBut I s.heap h')(hx:∃o,Mut o∧NT o∧h'.get? I=some o)(ht:1<=tk):Fm F K ad σ { s with heap:=h',toks:=tk }:=⟨(x.ZrA G H (.inr hI) hs ht).1,
(x.ZrA G H (.inr hI) hs ht).2,
(let ⟨m,h⟩:=x.loc;⟨m,Zgd h hs (Ne.symm (x.kx I hI).1)⟩),
(λn c h=>let ⟨v,h'⟩:=x.cel n c h;⟨v,Zb3 h' hs (Ne.symm ((x.kx I hI).2.1 n c h))⟩),
(λi b h=>let ⟨h1,h2,h3,its,h4⟩:=x.own i b h;⟨h1,h2,h3,its,ZaG h4 hs λq=>h3 (q▸hI)⟩),
x.inj,
(λb h=>by
  obtain⟨h1,h2,h3,h4,o,m,n,e⟩:=x.kx b h
  by_cases q:b=I
  ·subst q;exact⟨h1,h2,h3,h4,hx⟩
  ·exact⟨h1,h2,h3,h4,o,m,n,hs b o q e⟩),
(λi sl e h=>let ⟨n,v,h1,h2,h3⟩:=x.vs i sl e h
  ⟨n,v,h1,h2.but hs (Ne.symm (x.kx I hI).1) λn c hc=>Ne.symm ((x.kx I hI).2.1 n c hc),h3.mono (λa o _ e p=>⟨p,hs a o (λq=>p.2.2 (q▸hI)) e⟩) (λb hb=>⟨rfl,λits h=>ZaG h hs λq=>(x.own i b ⟨sl,e,hb⟩).2.2.1 (q▸hI)⟩) λ_ _=>rfl⟩)⟩
theorem Fm.store{prog:Program}{w:World}{A:Around}{E:Value->Shared->Prop}{Q:Unit->Shared->Prop}(G:Gr F.base mg mb F.Gd)(H:Fs F){K1:Addr->Prop}{i:Nat}{sl:Slot}{n:Str}{v:Value}(x:Fm F K1 ad σ s)
  (hK:∀a,K1 a↔(K a∨∃b,sl.has b∧a=ad i b)) (hKn:∀b,sl.has b->¬K (ad i b)∧∃its,s.heap.PlainList (ad i b) its) (hinj:sl.has true->ad i true≠ad i false)
  (hn:F.nm[i]? = some n) (hk:F.sc.names.lookup n=some .local∨F.sc.names.lookup n=some .cell) (hnew:Za1 (Pq F K ad (σ.set i sl)) ad i s.heap sl v)
  (k:∀h' tk,Fm F K ad (σ.set i sl) { s with heap:=h',toks:=tk }->(∀a,a≠F.env.locals->(∀n c,F.env.cells.lookup n=some c->a≠c)->∀o,s.heap.get? a=some o->h'.get? a=some o)->(∀a o,s.heap.get? a=some o->∃o',h'.get? a=some o')->Q () { s with heap:=h',toks:=tk }) :
  wpAny (model prog w) A (storeName F.env n v) Q E s:=by
 have k1:∀b,sl.has b->K1 (ad i b):=λb hb=>(hK _).mpr (.inr ⟨b,hb,rfl⟩)
 have pv:∀a,Pv F ad (σ.set i sl) a->Pv F ad σ a∨K1 a:=λa h=>by
  rcases h with h | h | ⟨j,b,h,e⟩
  ·exact .inl (.inl h)
  ·exact .inl (.inr (.inl h))
  ·rcases ZbH h with⟨rfl,g⟩ | h
   ·exact .inr (e▸k1 b g)
   ·exact .inl (.inr (.inr ⟨j,b,h.2,e⟩))
 have pq:∀a,Pq F K1 ad σ a->Pq F K ad (σ.set i sl) a:=λa p=>⟨p.1,λz=>(pv a z).elim p.2.1 p.2.2,λz=>p.2.2 ((hK a).mpr (.inl z))⟩
 have main:∀(a:Addr) (h':Heap) (tk:Tok),Pv F ad σ a->(∀j b,Ob σ j b->ad j b≠a)->Heap.ExtBut a s.heap h'->1<=tk->(∃o,NT o∧h'.get? a=some o)->(∃m,h'.Ns F.env.locals m)->(∀n c,F.env.cells.lookup n=some c->∃v,h'.IsCell c v)->Zb0 F.env h' n v->
   (∀j n' v',j≠i->F.nm[j]? = some n'->Zb0 F.env s.heap n' v'->Zb0 F.env h' n' v')->(∀b its,sl.has b->s.heap.PlainList (ad i b) its->ad i b≠a)->a=F.env.locals∨(∃n,F.env.cells.lookup n=some a)->Q () { s with heap:=h',toks:=tk }:=by
  intro a h' tk ha hao hs ht hx hl hc hv hvs hio hal
  have gk:=x.ZrA G H (.inl ha) hs ht
  refine k h' tk ?_ (λb hb1 hb2 o e=>hs b o (λq=>?_) e) (λb o e=>?_)
  ·exact⟨gk.1,
    gk.2,
    hl,
    hc,
    (λj b h=>by
     rcases ZbH h with⟨rfl,g⟩ | ⟨q,h⟩
     ·obtain⟨_,_,h3,h4,_⟩:=x.kx _ (k1 b g)
      obtain⟨its,hp⟩:=(hKn b g).2
      exact⟨h3,h4,(hKn b g).1,its,ZaG hp hs (hio b its g hp)⟩
     ·obtain⟨h1,h2,h3,its,h4⟩:=x.own j b h
      exact⟨h1,h2,λz=>h3 ((hK _).mpr (.inl z)),its,ZaG h4 hs (hao j b h)⟩),
    (λj b l c h1 h2 e=>by
     rcases ZbH h1 with⟨rfl,g1⟩ | ⟨q1,g1⟩
     ·rcases ZbH h2 with⟨rfl,g2⟩ | ⟨q2,g2⟩
      ·refine⟨rfl,?_⟩
       cases b<;>cases c
       ·rfl
       ·exact absurd e.symm (hinj g2)
       ·exact absurd e (hinj g1)
       ·rfl
      ·exact absurd (e▸k1 b g1) (x.own l c g2).2.2.1
     ·rcases ZbH h2 with⟨rfl,g2⟩ | ⟨q2,g2⟩
      ·exact absurd (e▸k1 c g2) (x.own j b g1).2.2.1
      ·exact x.inj j b l c g1 g2 e),
    (λb hb=>by
     obtain⟨h1,h2,h3,h4,o,m,n,e⟩:=x.kx b ((hK b).mpr (.inl hb))
     refine⟨h1,h2,h3,h4,o,m,n,hs b o (λq=>?_) e⟩
     subst q
     rcases hal with q | ⟨n,q⟩
     ·exact h1 q
     ·exact h2 n b q rfl),
    (λj sl' e hne=>by
     rcases get_set e with⟨rfl,rfl⟩ | ⟨q,e⟩
     ·exact⟨n,v,hn,hv,hnew.mono (λb o _ e p=>⟨p,hs b o (λq=>by
       subst q
       refine p.2.1 ?_
       rcases hal with q | q
       ·exact .inl q
       ·exact .inr (.inl q)) e⟩) (λb hb=>⟨rfl,λits h=>ZaG h hs (hio b its hb h)⟩) λ_ _=>rfl⟩
     ·obtain⟨n',v',h1,h2,h3⟩:=x.vs j sl' e hne
      exact⟨n',v',h1,hvs j n' v' q h1 h2,h3.mono (λb o _ e p=>⟨pq b p,hs b o (λq=>p.2.1 (q▸ha)) e⟩) (λb hb=>⟨rfl,λits h=>ZaG h hs (hao j b ⟨sl',e,hb⟩)⟩) λ_ _=>rfl⟩)⟩
  ·subst q
   rcases hal with q | ⟨n,q⟩
   ·exact hb1 q
   ·exact hb2 n b q rfl
  ·by_cases q:b=a
   ·subst q;obtain⟨o',_,e'⟩:=hx;exact⟨o',e'⟩
   ·exact⟨o,hs b o q e⟩
 obtain⟨m,hm⟩:=x.loc
 rcases hk with hk | hk
 ·have hk':F.env.kindOf n=some .local:=by rw[Env.kindOf,H.scp];exact hk
  refine wpAny_storeName_local hk' hm (λh' hn' hs=>?_) (by rw[H.scp,H.kf];rfl)
  refine main F.env.locals h' _ (.inl rfl) (λj b h q=>?_) hs.extBut (Nat.le_succ_of_le x.ok.tk) ?_ ⟨_,hn'⟩ (λn c hc=>?_) (.inl ⟨hk',_,hn',if_pos rfl⟩) (λj n' v' q hj hv=>?_) (λb its _ h q=>?_) (.inl rfl)
  ·obtain⟨_,_,_,its,h4⟩:=x.own j b h
   exact Zbz hm h4 q.symm
  ·obtain⟨o,e,_,n1⟩:=Mut.ns hn';exact⟨o,n1,e⟩
  ·obtain⟨v,hv⟩:=x.cel n c hc
   exact⟨v,Zb3 hv hs.extBut (Ne.symm (Zc7 hm hv))⟩
  ·rcases hv with⟨hl,m',hm',e⟩ | ⟨hl,c,e,hc⟩
   ·have:=ZtC hm' hm;subst this
    refine .inl ⟨hl,_,hn',?_⟩
    rw[if_neg]
    ·exact e
    ·intro q2;subst q2;exact q (H.nd _ _ _ hj hn)
   ·exact .inr ⟨hl,c,e,Zb3 hc hs.extBut (Ne.symm (Zc7 hm hc))⟩
  ·exact Zbz hm h q.symm
 ·have hk':F.env.kindOf n=some .cell:=by rw[Env.kindOf,H.scp];exact hk
  obtain⟨c,hc⟩:=H.lk n hk
  obtain⟨v0,hv0⟩:=x.cel n c hc
  refine wpAny_storeName_cell (by rw[H.scp,H.kf]) hk' hc hv0 (λh' hn' hs=>?_)
  refine main c h' s.toks (.inr (.inl ⟨n,hc⟩)) (λj b h q=>?_) hs.extBut x.ok.tk ?_ ⟨m,Zgd hm hs.extBut (Zc7 hm hv0)⟩ (λn' c' hc'=>?_) (.inr ⟨.inl hk',c,hc,hn'⟩) (λj n' v' q hj hv=>?_) (λb its _ h q=>?_) (.inr ⟨n,hc⟩)
  ·obtain⟨_,_,_,its,h4⟩:=x.own j b h
   exact Zbn hv0 h4 q.symm
  ·obtain⟨o,e,_,n1⟩:=Mut.cell hn';exact⟨o,n1,e⟩
  ·by_cases q:c'=c
   ·subst q;exact⟨_,hn'⟩
   ·obtain⟨v,hv⟩:=x.cel n' c' hc'
    exact⟨v,Zb3 hv hs.extBut q⟩
  ·rcases hv with⟨hl,m',hm',e⟩ | ⟨hl,c',e,hc'⟩
   ·exact .inl ⟨hl,m',Zgd hm' hs.extBut (Zc7 hm' hv0),e⟩
   ·refine .inr ⟨hl,c',e,Zb3 hc' hs.extBut λq2=>?_⟩
    subst q2
    have:=H.inj _ _ _ e hc
    subst this
    exact q (H.nd _ _ _ hj hn)
  ·exact Zbn hv0 h q.symm
end
end
section
section
variable {F:Fp}{K:Addr->Prop}{ad:Nat->Bool->Addr}{σ:Sg}{s:Shared}{mg mb:Str->Option Value}
theorem Fm.re(G:Gr F.base mg mb F.Gd)(H:Fs F){K1:Addr->Prop}(x:Fm F K1 ad σ s){i:Nat}{sl sl0:Slot}{b0:Bool}{ad':Nat->Bool->Addr}{h':Heap}{tk:Tok}(e:σ[i]? = some sl0)(hb0:sl0.has b0)(hs:Heap.ExtBut (ad i b0) s.heap h')(ht:1<=tk)
  (ha:∀j b,j≠i->ad' j b=ad j b) (haf:ad' i false=ad i false) (hK:∀a,K a->K1 a)
  (hown:∀b,sl.has b->F.s0.heap.get? (ad' i b)=none∧¬F.base (ad' i b)∧¬K (ad' i b)∧(∃its,h'.PlainList (ad' i b) its)∧(Pv F ad σ (ad' i b)∨K1 (ad' i b))∧∀j c,j≠i->Ob σ j c->ad j c≠ad' i b)
  (hinj:sl.has true->ad' i true≠ad' i false)
  (hv:∀v,Za1 (Pq F K1 ad σ) ad i s.heap sl0 v->(∀a,Pq F K1 ad σ a->Pq F K ad' (σ.set i sl) a)->Za1 (Pq F K ad' (σ.set i sl)) ad' i h' sl v) :
  Fm F K ad' (σ.set i sl) { s with heap:=h',toks:=tk }:=by
 have ob0:Ob σ i b0:=⟨sl0,e,hb0⟩
 have hpa:Pv F ad σ (ad i b0):=.inr (.inr ⟨i,b0,ob0,rfl⟩)
 obtain⟨_,_,hk0,its0,hp0⟩:=x.own i b0 ob0
 obtain⟨m,hm⟩:=x.loc
 have hl:F.env.locals≠ad i b0:=Zbz hm hp0
 have hc:∀n c,F.env.cells.lookup n=some c->c≠ad i b0:=λn c h=>let ⟨v,h⟩:=x.cel n c h;Zbn h hp0
 have hao:∀j c,j≠i->Ob σ j c->ad j c≠ad i b0:=λj c q o h=>q (x.inj j c i b0 o ob0 h).1
 have pv:∀a,Pv F ad' (σ.set i sl) a->Pv F ad σ a∨K1 a:=λa h=>by
  rcases h with h | h | ⟨j,b,h,e1⟩
  ·exact .inl (.inl h)
  ·exact .inl (.inr (.inl h))
  ·rcases ZbH h with⟨q,g⟩ | ⟨q,g⟩
   ·subst q;subst e1;exact(hown b g).2.2.2.2.1
   ·exact .inl (.inr (.inr ⟨j,b,g,by erw[rwl (e1 ..) (rwl (ha j b q ..) ?_)]⟩))
 have pq:∀a,Pq F K1 ad σ a->Pq F K ad' (σ.set i sl) a:=λa p=>⟨p.1,λz=>(pv a z).elim p.2.1 p.2.2,λz=>p.2.2 (hK a z)⟩
 have gk:=x.ZrA G H (.inl hpa) hs ht
 exact⟨gk.1,
  gk.2,
  ⟨m,Zgd hm hs hl⟩,
  (λn c h=>let ⟨v,h'⟩:=x.cel n c h;⟨v,Zb3 h' hs (hc n c h)⟩),
  (λj b h=>by
   rcases ZbH h with⟨rfl,g⟩ | ⟨q,g⟩
   ·obtain⟨h1,h2,h3,h4,_⟩:=hown b g;exact⟨h1,h2,h3,h4⟩
   ·obtain⟨h1,h2,h3,its,h4⟩:=x.own j b g
    erw[rwl (ha j b q ..) ?_]
    exact⟨h1,h2,λz=>h3 (hK _ z),its,ZaG h4 hs (hao j b q g)⟩),
  (λj b l c h1 h2 e3=>by
   rcases ZbH h1 with⟨q1,g1⟩ | ⟨q1,g1⟩
   ·rcases ZbH h2 with⟨q2,g2⟩ | ⟨q2,g2⟩
    ·rw[q1,q2] at e3 ⊢
     refine⟨rfl,?_⟩
     cases b<;>cases c
     ·rfl
     ·exact absurd e3.symm (hinj g2)
     ·exact absurd e3 (hinj g1)
     ·rfl
    ·rw[ha l c q2,q1] at e3
     exact absurd e3.symm ((hown b g1).2.2.2.2.2 l c q2 g2)
   ·rcases ZbH h2 with⟨q2,g2⟩ | ⟨q2,g2⟩
    ·rw[ha j b q1,q2] at e3
     exact absurd e3 ((hown c g2).2.2.2.2.2 j b q1 g1)
    ·rw[ha j b q1,ha l c q2] at e3
     exact x.inj j b l c g1 g2 e3),
  (λb hb=>by
   obtain⟨h1,h2,h3,h4,o,m,n,e⟩:=x.kx b (hK b hb)
   exact⟨h1,h2,h3,h4,o,m,n,hs b o (λq=>hk0 (q▸hK b hb)) e⟩),
  (λj sl' e' hne=>by
   rcases get_set e' with⟨rfl,rfl⟩ | ⟨q,e'⟩
   ·obtain⟨n,v,h1,h2,h3⟩:=x.vs j sl0 e (by rintro rfl;cases hb0)
    exact⟨n,v,h1,h2.but hs hl hc,hv v h3 pq⟩
   ·obtain⟨n,v,h1,h2,h3⟩:=x.vs j sl' e' hne
    refine⟨n,v,h1,h2.but hs hl hc,h3.mono (λb o _ e p=>⟨pq b p,hs b o (λq=>p.2.1 (q▸hpa)) e⟩) (λb hb=>⟨ha j b q,λits h=>ZaG h hs (hao j b q ⟨sl',e',hb⟩)⟩) λk _=>?_⟩
    by_cases q2:k=i
    ·subst q2;exact haf
    ·exact ha k false q2)⟩
theorem Fm.Zv3(G:Gr F.base mg mb F.Gd)(H:Fs F)(x:Fm F K ad σ s){i:Nat}{ds ds':List D}{vs':List Value}{h':Heap}{tk:Tok}(e:σ[i]? = some (.own ds))(hs:Heap.ExtBut (ad i false) s.heap h')(ht:1<=tk)(hp:h'.PlainList (ad i false) vs'.toArray)
  (hr:Zad (Pq F K ad σ) s.heap vs' ds') (hl:ds'.length<=sizeLine):Fm F K ad (σ.set i (.own ds')) { s with heap:=h',toks:=tk }:=by
 have ob:Ob σ i false:=⟨_,e,rfl⟩
 have hpa:Pv F ad σ (ad i false):=.inr (.inr ⟨i,false,ob,rfl⟩)
 refine x.re (sl:=.own ds') G H e (b0:=false) rfl hs ht (λ_ _ _=>rfl) rfl (λ_ h=>h) (λb hb=>?_) (λh=>nomatch h) λv h pq=>?_
 ·cases hb
  obtain⟨h1,h2,h3,_⟩:=x.own i false ob
  exact⟨h1,h2,h3,⟨_,hp⟩,.inl hpa,λj c q o h=>q (x.inj j c i false o ob h).1⟩
 ·cases h with
  | own _ _ _=>exact .own hp (hr.mono λa o _ e p=>⟨pq a p,hs a o (λq=>p.2.1 (q▸hpa)) e⟩) hl
theorem Fm.Zv2(G:Gr F.base mg mb F.Gd)(H:Fs F)(x:Fm F K ad σ s){i:Nat}{pre:List (List D)}{l l':List D}{ws':List Value}{h':Heap}{tk:Tok}(e:σ[i]? = some (.own2 (pre++[l])))(hs:Heap.ExtBut (ad i true) s.heap h')(ht:1<=tk)(hp:h'.PlainList (ad i true) ws'.toArray)
  (hr:Zad (Pq F K ad σ) s.heap ws' l') (hl:l'.length<=sizeLine):Fm F K ad (σ.set i (.own2 (pre++[l']))) { s with heap:=h',toks:=tk }:=by
 have ob:∀b,Ob σ i b:=λb=>⟨_,e,trivial⟩
 have hpa:∀b,Pv F ad σ (ad i b):=λb=>.inr (.inr ⟨i,b,ob b,rfl⟩)
 have hne:ad i true≠ad i false:=λq=>nomatch (x.inj i true i false (ob _) (ob _) q).2
 refine x.re (sl:=.own2 (pre++[l'])) G H e (b0:=true) trivial hs ht (λ_ _ _=>rfl) rfl (λ_ h=>h) (λb _=>?_) (λ_=>hne) λv h pq=>?_
 ·obtain⟨h1,h2,h3,its,h4⟩:=x.own i b (ob b)
  refine⟨h1,h2,h3,?_,.inl (hpa b),λj c q o h=>q (x.inj j c i b o (ob b) h).1⟩
  cases b with
  | true=>exact⟨_,hp⟩
  | false=>exact⟨_,ZaG h4 hs (Ne.symm hne)⟩
 ·have mm:∀a o,NT o->s.heap.get? a=some o->Pq F K ad σ a->Pq F K ad (σ.set i (.own2 (pre++[l']))) a∧h'.get? a=some o:=λa o _ e p=>⟨pq a p,hs a o (λq=>p.2.1 (q▸hpa true)) e⟩
  cases h with
  | own2 d h1 h2 h3 h4 h5 h6=>
   obtain⟨rfl,d2⟩:=List.append_inj' d rfl
   exact .own2 rfl (ZaG h1 hs (Ne.symm hne)) (h2.mono mm) hp (hr.mono mm) h5 hl
set_option tactic.hygienic true in
theorem Fm.Zv0(G:Gr F.base mg mb F.Gd)(H:Fs F){a:Addr}(x:Fm F (λb=>K b∨b=a) ad σ s)(hKa : ¬K a){i:Nat}{dss:List (List D)}{vs:List Value}{h':Heap}{tk:Tok}(e:σ[i]? = some (.own2 dss))(ha:s.heap.PlainList a ([]:List Value).toArray)(hs:Heap.ExtBut (ad i false) s.heap h')(ht:1<=tk)
  (h0:s.heap.PlainList (ad i false) vs.toArray) (hp:h'.PlainList (ad i false) (vs++[Value.ref a]).toArray) (hl:dss.length+1<=sizeLine) :
  Fm F K (λj b=>if j=i∧b=true then a else ad j b) (σ.set i (.own2 (dss++[[]]))) { s with heap:=h',toks:=tk }:=by
 have ob:∀b,Ob σ i b:=λb=>⟨_,e,trivial⟩
 have hpa:∀b,Pv F ad σ (ad i b):=λb=>.inr (.inr ⟨i,b,ob b,rfl⟩)
 have hne:ad i true≠ad i false:=λq=>nomatch (x.inj i true i false (ob _) (ob _) q).2
 have hao:∀j c,Ob σ j c->ad j c≠a:=λj c o q=>(x.own j c o).2.2.1 (.inr q)
 have hk:=x.kx a (.inr rfl)
 have fr:∀b,F.s0.heap.get? b=none->F.P0 b:=λb h=>H.pf.fresh h
 refine x.re (K:=K) (ad':=λj b=>if j=i∧b=true then a else ad j b) (sl:=.own2 (dss++[[]])) G H e (b0:=false) trivial hs ht (λj b q=>by simp[q]) (by simp) (λ_ h=>.inl h) (λb _=>?_) (λ_=>by simpa using Ne.symm (hao i false (ob _))) λv h pq=>?_
 ·cases b with
  | true=>
   simp only[and_self,if_true]
   exact⟨hk.2.2.1,hk.2.2.2.1,hKa,⟨_,ZaG ha hs (Ne.symm (hao i false (ob _)))⟩,Or.inr (by simp),λj c _ o=>hao j c o⟩
  | false=>
   simp only[Bool.false_eq_true,and_false,if_false]
   obtain⟨h1,h2,h3,its,h4⟩:=x.own i false (ob _)
   exact⟨h1,h2,λz=>h3 (.inl z),⟨_,hp⟩,.inl (hpa _),λj c q o h=>q (x.inj j c i false o (ob _) h).1⟩
 ·have mm:∀b o,NT o->s.heap.get? b=some o->Pq F (λb=>K b∨b=a) ad σ b->Pq F K (λj b=>if j=i∧b=true then a else ad j b) (σ.set i (.own2 (dss++[[]]))) b∧h'.get? b=some o:=λb o _ e p=>⟨pq b p,hs b o (λq=>p.2.1 (q▸hpa false)) e⟩
  cases h with
  | own2 d h1 h2 h3 h4 h5 h6=>
   rename_i us ws pre l
   have e1:vs=us++[Value.ref (ad i true)]:=by
    obtain⟨n1,e1⟩:=h0
    obtain⟨n2,e2⟩:=h1
    rw[e1] at e2
    simp only[Option.some.injEq,Obj.mk.injEq] at e2
    have e3:vs.toArray=(us++[Value.ref (ad i true)]).toArray:=by
     have:=e2.2.2.1
     injection this
    simpa using congrArg Array.toList e3
   subst e1
   have old:Pq F K (λj b=>if j=i∧b=true then a else ad j b) (σ.set i (.own2 (dss++[[]]))) (ad i true):=by
    refine⟨fr _ (x.own i true (ob _)).1,λz=>?_,λz=>(x.own i true (ob _)).2.2.1 (.inl z)⟩
    rcases z with z | ⟨n,z⟩ | ⟨j,b,o,z⟩
    ·obtain⟨m,hm⟩:=x.loc
     exact Zbz hm h3 z.symm
    ·obtain⟨v,hv⟩:=x.cel n _ z
     exact Zbn hv h3 rfl
    ·rcases ZbH o with⟨rfl,_⟩ | ⟨q,o⟩
     ·cases b with
      | true=>simp only[and_self,if_true] at z;exact hao _ _ (ob true) z
      | false=>simp only[Bool.false_eq_true,and_false,if_false] at z;exact hne z
     ·simp only[q,false_and,if_false] at z
      exact q (x.inj j b i true o (ob _) z.symm).1
   have e5:dss.map D.list=pre.map D.list++[D.list l]:=by erw[rwl (d ..) (rwl (List.map_append ..) ?_)];rfl
   have:=Za1.own2 (P:=Pq F K (λj b=>if j=i∧b=true then a else ad j b) (σ.set i (.own2 (dss++[[]])))) (ad:=λj b=>if j=i∧b=true then a else ad j b) (i:=i) (h:=h') (dss:=dss++[[]]) (pre:=dss) (l:=[]) (vs:=us++[Value.ref (ad i true)]) (ws:=[]) rfl
    (by simpa using hp) (by erw[rwl (e5 ..) ?_];exact(h2.mono mm).snoc (.list old (ZaG h3 hs hne) (h4.mono mm) h6)) (by simpa using ZaG ha hs (Ne.symm (hao i false (ob _)))) .nil hl (by simp)
   simpa using this
theorem Fm.freeze(H:Fs F)(x:Fm F K ad σ s):Fm F K ad (frz σ) s:=by
 have nob:∀j b,¬Ob (frz σ) j b:=λj b ⟨sl,e,hb⟩=>by
  unfold frz at e
  rw[List.getElem?_map] at e
  cases e2:σ[j]? with
  | none=>rw[e2] at e;cases e
  | some t=>rw[e2] at e;cases e;cases t<;>cases hb
 have pv:∀a,Pv F ad (frz σ) a->Pv F ad σ a:=λa h=>by
  rcases h with h | h | ⟨j,b,h,_⟩
  ·exact .inl h
  ·exact .inr (.inl h)
  ·exact absurd h (nob j b)
 have pq:∀a,Pq F K ad σ a->Pq F K ad (frz σ) a:=λa p=>⟨p.1,λz=>p.2.1 (pv a z),p.2.2⟩
 have po:∀j b,Ob σ j b->Pq F K ad (frz σ) (ad j b):=λj b o=>by
  obtain⟨h1,h2,h3,its,h4⟩:=x.own j b o
  refine⟨H.pf.fresh h1,λz=>?_,h3⟩
  rcases z with z | ⟨n,z⟩ | ⟨j',b',o',_⟩
  ·obtain⟨m,hm⟩:=x.loc
   exact Zbz hm h4 z.symm
  ·obtain⟨v,hv⟩:=x.cel n _ z
   exact Zbn hv h4 rfl
  ·exact nob _ _ o'
 exact⟨x.gw,
  x.ok,
  x.loc,
  x.cel,
  (λj b h=>absurd h (nob j b)),
  (λj b _ _ h=>absurd h (nob j b)),
  x.kx,
  (λj sl e hne=>by
   unfold frz at e
   rw[List.getElem?_map] at e
   cases e2:σ[j]? with
   | none=>rw[e2] at e;cases e
   | some t=>
    rw[e2] at e
    simp only[Option.map_some,Option.some.injEq] at e
    subst e
    have mm:∀b o,NT o->s.heap.get? b=some o->Pq F K ad σ b->Pq F K ad (frz σ) b∧s.heap.get? b=some o:=λb o _ e p=>⟨pq b p,e⟩
    obtain⟨n,v,h1,h2,h3⟩:=x.vs j t e2 (by rintro rfl;exact hne rfl)
    refine⟨n,v,h1,h2,?_⟩
    cases h3 with
    | fz r=>exact .fz (r.mono mm)
    | own e r l=>exact .fz (.list (po j false ⟨_,e2,rfl⟩) e (r.mono mm) l)
    | own2 d e r e' r' l l'=>
     refine .fz (.list (po j false ⟨_,e2,trivial⟩) e ?_ ?_)
     ·erw[rwl (d ..) (rwl (List.map_append ..) ?_)]
      exact(r.mono mm).snoc (.list (po j true ⟨_,e2,trivial⟩) e' (r'.mono mm) l')
     ·erw[rwl (d ..) ?_];simpa using l
    | app p e=>exact .app (pq _ p) e)⟩
end
end
section
noncomputable def ZoH(F:Fp)(K:Addr->Prop)(ad:Nat->Bool->Addr)(σ:Sg)(s:Shared)(fl:Fl)(σ':Sg)(Q:Flow->Shared->Prop):Prop:=
 match fl with
 | .next=>∀ad' s',Fm F K ad' σ' s'->Stp (Pv F ad σ) (Pv F ad' σ') s.heap s'.heap->Q .next s'
 | .brk=>∀ad' s',Fm F K ad' σ' s'->Stp (Pv F ad σ) (Pv F ad' σ') s.heap s'.heap->Q .brk s'
 | .ret d=>∀v s',Gw F.s0 s'->Ok F.Gd s'->Rd F.P0 s'.heap v d->Q (.ret v) s'
noncomputable def S1(prog:Program)(w:World)(F:Fp)(Γ:ZaC)(fn:Nat->Str)(n N:Nat)(st:S):Prop:=
 ∀(e:Stmt) (K:Addr->Prop) (ad:Nat->Bool->Addr) (σ:Sg) (A:Around) (s:Shared) (E:Value->Shared->Prop) (Q:Flow->Shared->Prop) (fl:Fl) (σ':Sg),
  ms1 F.nm fn F.sc st e=true->Lv A n->Fm F K ad σ s->ex Γ N st σ=some (fl,σ')->ZoH F K ad σ s fl σ' Q->wpAny (model prog w) A (exec e F.env) Q E s
noncomputable def SS(prog:Program)(w:World)(F:Fp)(Γ:ZaC)(fn:Nat->Str)(n N:Nat)(st:S):Prop:=
 ∀(es:List Stmt) (K:Addr->Prop) (ad:Nat->Bool->Addr) (σ:Sg) (A:Around) (s:Shared) (E:Value->Shared->Prop) (Q:Flow->Shared->Prop) (fl:Fl) (σ':Sg),
  ms F.nm fn F.sc st es=true->Lv A n->Fm F K ad σ s->ex Γ N st σ=some (fl,σ')->ZoH F K ad σ s fl σ' Q->wpAny (model prog w) A (execs es F.env) Q E s
section
variable {prog:Program}{w:World}{F:Fp}{K:Addr->Prop}{ad:Nat->Bool->Addr}{σ:Sg}{s:Shared}{mg mb:Str->Option Value}{Γ:ZaC}{fn:Nat->Str}{fa:Nat->Addr}{n N:Nat}{A:Around}{E:Value->Shared->Prop}
theorem ZoH.stp{s₁:Shared}{ad₁:Nat->Bool->Addr}{σ₁:Sg}{fl:Fl}{σ':Sg}{Q:Flow->Shared->Prop}(k:ZoH F K ad σ s fl σ' Q)(t:Stp (Pv F ad σ) (Pv F ad₁ σ₁) s.heap s₁.heap):ZoH F K ad₁ σ₁ s₁ fl σ' Q:=by
 cases fl with
 | next=>exact λad' s' x t'=>k ad' s' x (t.trans t')
 | brk=>exact λad' s' x t'=>k ad' s' x (t.trans t')
 | ret d=>exact k
theorem ZdV(H:Fs F){x:X}(a:All prog w F.base F.Gd Γ F.nm fn n x){e:Expr}{d:D}{Q:Value->Shared->Prop}(hm:mt F.nm fn F.sc true x e=true)(hf:x.fz=true)(L:Lv A n)(f:Fm F K ad σ s)(hv:ev Γ σ x=some d)
  (k:∀v s',Fm F K ad σ s'->Gw s s'->Rd (Pq F K ad σ) s'.heap v d->Q v s'):wpAny (model prog w) A (eval e F.env) Q E s:=
 a.e F.sc true e F.env σ A _ s E Q d hm (f.ZcE H) L f.ok (f.pf H) hv λv s' g o r=>k v s' (f.grow g o) g (r.str hf)
theorem Zns(H:Fs F){x:X}(a:All prog w F.base F.Gd Γ F.nm fn n x){e:Expr}{b:Bool}{Q:Bool->Shared->Prop}(hm:mtT F.nm fn F.sc true x e=true)(L:Lv A n)(f:Fm F K ad σ s)(hv:tv Γ σ x=some b)
  (k:∀s',Fm F K ad σ s'->Gw s s'->Q b s'):wpAny (model prog w) A (isTrue e F.env (eval e F.env)) Q E s:=
 a.t F.sc true e F.env σ A _ s E Q b hm (f.ZcE H) L f.ok (f.pf H) hv λs' g o=>k s' (f.grow g o) g
theorem Zgt(H:Fs F){xs:X}(a:All prog w F.base F.Gd Γ F.nm fn n xs){es:List Expr}{ds:List D}{pos:Pos}{Q:List Value->Shared->Prop}(hm:mtL F.nm fn F.sc true xs es=true)(hf:ZdT xs=true)(L:Lv A n)(f:Fm F K ad σ s)(hv:evL Γ σ xs=some ds)
  (k:∀vs s',Fm F K ad σ s'->Gw s s'->Zad (Pq F K ad σ) s'.heap vs ds->Q vs s'):wpAny (model prog w) A (spliced (backTo pos (starEach es F.env))) Q E s:=
 a.l F.sc true es F.env σ A _ s pos E Q ds hm hf (f.ZcE H) L f.ok (f.pf H) hv λvs s' g o r=>k vs s' (f.grow g o) g r
@[elab_as_elim] theorem Zpb{α:Type}{a:Option α}{f:α->Fl×Sg}{fl:Fl}{σ':Sg}{G:Fl->Sg->Prop}(h:a.map f=some (fl,σ'))(k:∀d,a=some d->G (f d).1 (f d).2):G fl σ':=
 ZdW h λd e q=>(congrArg (λp=>G p.1 p.2) q).mp (k d e)
@[elab_as_elim] theorem ZbI{p:Fl×Sg}{fl:Fl}{σ':Sg}{G:Fl->Sg->Prop}(h:some p=some (fl,σ'))(k:G p.1 p.2):G fl σ':=(congrArg (λp=>G p.1 p.2) (Option.some.inj h)).mp k
@[elab_as_elim] theorem ZfI{i:Nat}{e:Expr}{G:Expr->Prop}(h:tgt F.sc F.nm i e=true)(k:∀y p,F.nm[i]? = some y->(F.sc.names.lookup y=some .local∨F.sc.names.lookup y=some .cell)->G (.Name y p)):G e:=
 Zbx (show Zcv _ e=true from h) λy p h=>Zbg h λh1 h2=>k y p (eq_of_beq h1) (or2 h2 (λh=>.inl (eq_of_beq h)) λh=>.inr (eq_of_beq h))
theorem ZqM{i:Nat}{sl:Slot}(hsl:∀b,¬sl.has b){a:Addr}(h:Pv F ad (σ.set i sl) a):Pv F ad σ a:=by
 rcases h with h | h | ⟨j,b,h,e⟩
 ·exact .inl h
 ·exact .inr (.inl h)
 ·rcases ZbH h with⟨_,g⟩ | ⟨_,g⟩
  ·exact absurd g (hsl b)
  ·exact .inr (.inr ⟨j,b,g,e⟩)
theorem Fm.Zh2{Q:Unit->Shared->Prop}(G:Gr F.base mg mb F.Gd)(H:Fs F){i:Nat}{y:Str}{v:Value}{sl:Slot}(hsl:∀b,¬sl.has b)(f:Fm F K ad σ s)(hn:F.nm[i]? = some y)(hk:F.sc.names.lookup y=some .local∨F.sc.names.lookup y=some .cell)
  (hr:Za1 (Pq F K ad (σ.set i sl)) ad i s.heap sl v) (k:∀h' tk,Fm F K ad (σ.set i sl) { s with heap:=h',toks:=tk }->Stp (Pv F ad σ) (Pv F ad (σ.set i sl)) s.heap h'->(∀a,a≠F.env.locals->(∀n c,F.env.cells.lookup n=some c->a≠c)->∀o,s.heap.get? a=some o->h'.get? a=some o)->Q () { s with heap:=h',toks:=tk }) :
  wpAny (model prog w) A (storeName F.env y v) Q E s:=by
 refine Fm.store (K:=K) (sl:=sl) G H f (λa=>⟨.inl,λh=>h.elim id λ⟨b,hb,_⟩=>absurd hb (hsl b)⟩) (λb hb=>absurd hb (hsl b)) (λhb=>absurd hb (hsl _)) hn hk hr λh' tk f' h1 h2=>?_
 refine k h' tk f' ⟨λb o n hz e=>h1 b (λq=>hz (.inl q)) (λn c hc q=>hz (.inr (.inl ⟨n,q▸hc⟩))) o e,h2,λb o e z=>ZqM hsl z⟩ h1
theorem Fm.Zc0{Q:Unit->Shared->Prop}(G:Gr F.base mg mb F.Gd)(H:Fs F){i:Nat}{y:Str}{v:Value}{d:D}(f:Fm F K ad σ s)(hn:F.nm[i]? = some y)(hk:F.sc.names.lookup y=some .local∨F.sc.names.lookup y=some .cell)
  (hr:Rd (Pq F K ad σ) s.heap v d) (k:∀s',Fm F K ad (σ.set i (.fz d)) s'->Stp (Pv F ad σ) (Pv F ad (σ.set i (.fz d))) s.heap s'.heap->Q () s') :
  wpAny (model prog w) A (storeName F.env y v) Q E s:=
 Fm.Zh2 (sl:=.fz d) G H (λ_ h=>h) f hn hk (.fz (hr.mono λ_ _ _ e p=>⟨⟨p.1,λz=>p.2.1 (ZqM (sl:=.fz d) (λ_ h=>h) z),p.2.2⟩,e⟩)) λ_ _ f' t _=>k _ f' t
theorem Zp0{v:Expr}{y:Str}{p:Pos}{line:Nat}(H:Fs F)(h:Zvw F.sc v (.Name y p)=true):swapsWith v (some (.Name y p)) line F.env=pure false:=by
 refine or2 h (λh=>?_) λh=>?_
 ·cases v<;>first | rfl | exact nf h
 ·have hk:F.env.kindOf y=some .cell:=by rw[Env.kindOf,H.scp];exact eq_of_beq (show(F.sc.names.lookup y==some .cell)=true from h)
  have e:(F.env.kindOf y==some NameKind.local)=false:=by rw[hk];rfl
  cases v with
  | ListComp=>show pure _=_;rw[e,Bool.and_false,Bool.false_and,Bool.false_and]
  | SetComp=>show pure _=_;rw[e,Bool.and_false,Bool.false_and,Bool.false_and]
  | DictComp=>show pure _=_;rw[e,Bool.and_false,Bool.false_and,Bool.false_and]
  | _=>rfl
theorem ZsI(G:Gr F.base mg mb F.Gd)(H:Fs F){i:Nat}{x:X}(a:All prog w F.base F.Gd Γ F.nm fn n x):S1 prog w F Γ fn n N (.asg i x):=by
 intro e K ad σ A s E Q fl σ' hm L f hv k
 revert k
 refine Zpb (show(ev Γ σ x).map _=_ from hv) λd hd k=>?_
 refine ZbU (show ZbZ _ e=true from hm) λt v p hm=>Zi6 hm λm1 m2 m3 m4=>?_
 revert m4
 refine ZfI m1 λy p hy hk m4=>?_
 refine wpAny_Assign_Name (ZdV H a m3 m2 L f hd λv s₁ f₁ g₁ r=>?_) (Zp0 H m4)
 exact f₁.Zc0 G H hy hk r λs₂ f₂ t=>k ad s₂ f₂ (g₁.stp.trans t)
theorem ZtI(H:Fs F){t:X}{a b:S}(at':All prog w F.base F.Gd Γ F.nm fn n t)(ha:SS prog w F Γ fn n N a)(hb:SS prog w F Γ fn n N b):S1 prog w F Γ fn n N (.ifs t a b):=by
 intro e K ad σ A s E Q fl σ' hm L f hv k
 refine Zac (show(tv Γ σ t).bind _=_ from hv) λc hc hv=>?_
 refine Zsy (show Zuq _ e=true from hm) λte ba bb p hm=>Zd2 hm λm1 m2 m3=>?_
 refine wpAny_If (Zns H at' m1 L f hc λs₁ f₁ g₁=>?_)
 cases c with
 | true=>exact ha _ K ad σ A s₁ E Q fl σ' m2 L f₁ hv (k.stp g₁.stp)
 | false=>exact hb _ K ad σ A s₁ E Q fl σ' m3 L f₁ hv (k.stp g₁.stp)
theorem ZsZ:S1 prog w F Γ fn n N .brk:=by
 intro e K ad σ A s E Q fl σ' hm L f hv k
 revert k
 exact ZbI hv λk=>ZsK (show ZuS _ e=true from hm) λ_ _=>wpAny_Break (k ad s f (.refl _ _))
theorem ZtG(H:Fs F){t:X}(a:All prog w F.base F.Gd Γ F.nm fn n t):S1 prog w F Γ fn n N (.asr t):=by
 intro e K ad σ A s E Q fl σ' hm L f hv k
 refine Zac (show(tv Γ σ t).bind _=_ from hv) λc hc hv=>?_
 cases c with
 | false=>exact nn hv
 | true=>
  revert k
  exact ZbI hv λk=>Zs5 (show ZuP _ e=true from hm) λ_ _ _ hm=>wpAny_Assert_holds (Zns H a hm L f hc λs₁ f₁ g₁=>⟨rfl,k ad s₁ f₁ g₁.stp⟩)
theorem Ztr(H:Fs F){x:X}(a:All prog w F.base F.Gd Γ F.nm fn n x):S1 prog w F Γ fn n N (.ret x):=by
 intro e K ad σ A s E Q fl σ' hm L f hv k
 revert k
 refine Zpb (show(ev Γ (frz σ) x).map _=_ from hv) λd hd k=>Zsj (show Zt5 _ e=true from hm) λv p hm=>?_
 cases v with
 | none=>exact nf hm
 | some v=>exact Zbg hm λm1 m2=>wpAny_Return_some (ZdV H a m2 m1 L (f.freeze H) hd λv s₁ f₁ g₁ r=>k v s₁ f₁.gw f₁.ok (r.mono λ_ _ _ e p=>⟨p.1,e⟩))
theorem ZpT:SS prog w F Γ fn n N .skip:=by
 intro es K ad σ A s E Q fl σ' hm L f hv k
 revert k
 exact ZbI hv λk=>ZcD (show es.isEmpty=true from hm) (wpAny_execs_nil (k ad s f (.refl _ _)))
theorem ZrK{a b:S}(ha:S1 prog w F Γ fn n N a)(hb:SS prog w F Γ fn n N b):SS prog w F Γ fn n N (.seq a b):=by
 intro es K ad σ A s E Q fl σ' hm L f hv k
 refine Zac (show(ex Γ N a σ).bind _=_ from hv) λr h1 hv=>?_
 obtain⟨f1,σ1⟩:=r
 refine Zry (show bc _ es=true from hm) λe r hm=>Zbg hm λm1 m2=>wpAny_execs_cons (ha _ K ad σ A s E _ f1 σ1 m1 L f h1 ?_)
 revert k
 cases f1 with
 | next=>exact λk ad₁ s₁ f₁ t=>hb _ K ad₁ σ1 A s₁ E Q fl σ' m2 L f₁ hv (k.stp t)
 | brk=>exact ZbI hv λk=>k
 | ret d=>exact ZbI hv λk=>k
theorem Zsz(H:Fs F){t:X}{b:S}(at':All prog w F.base F.Gd Γ F.nm fn n t)(hb:SS prog w F Γ fn n N b):S1 prog w F Γ fn n N (.whl t b):=by
 intro e K ad σ A s E Q fl σ' hm L f hv k
 refine Zox (show Zlp _ e=true from hm) λte ba el p hm=>Zd2 hm λm0 m1 m2=>ZcD m0 ?_
 refine wpAny_While (codeAny_whileLoop (λm s₁=>∃ad₁ σ₁,Fm F K ad₁ σ₁ s₁∧Zbk (λσ=>tv Γ σ t) (ex Γ N b) m σ₁=some (fl,σ')∧ZoH F K ad₁ σ₁ s₁ fl σ' Q) (λm s₁ h=>?_) N ⟨ad,σ,f,hv,k⟩)
 obtain⟨ad₁,σ₁,f₁,hv₁,k₁⟩:=h
 cases m with
 | zero=>exact nn hv₁
 | succ m=>
  refine Zac (show(tv Γ σ₁ t).bind _=_ from hv₁) λc hc hv₁=>?_
  refine Zns H at' m1 L f₁ hc λs₂ f₂ g₂=>?_
  have k₂:=k₁.stp g₂.stp
  cases c with
  | false=>
   revert k₂
   exact ZbI hv₁ λk₂=>wpAny_execs_nil (k₂ ad₁ s₂ f₂ (.refl _ _))
  | true=>
   refine Zac (show(ex Γ N b σ₁).bind _=_ from hv₁) λr h1 hv₁=>?_
   obtain⟨f1,σ1⟩:=r
   refine hb _ K ad₁ σ₁ A s₂ _ _ f1 σ1 m2 L f₂ h1 ?_
   revert k₂
   cases f1 with
   | next=>exact λk₂ ad₃ s₃ f₃ t=>⟨m,Nat.lt_succ_self m,ad₃,σ1,f₃,hv₁,k₂.stp t⟩
   | brk=>exact ZbI hv₁ λk₂=>k₂
   | ret d=>exact ZbI hv₁ λk₂=>k₂
end
end
section
theorem It.go{P P' S:Addr->Prop}{h h':Heap}{I:Addr}{ds:List D}(x:It P S h I ds)(hP:∀a o,NT o->h.get? a=some o->P a->P' a∧h'.get? a=some o)(hS:∀a o,NT o->h.get? a=some o->S a->h'.get? a=some o)(hI:∀o,NT o->h.get? I=some o->h'.get? I=some o):It P' S h' I ds:=by
 cases x with
 | list hi hl hne hs hr=>
  obtain⟨o,e,hc,r⟩:=hi
  obtain⟨n,e2⟩:=hl
  exact .list ⟨o,hI _ (.ZaD hc) e,hc,r⟩ ⟨n,hS _ _ (.ZaD rfl) e2 hs⟩ hne hs (hr.mono hP)
 | range hi=>exact .range (hI _ (.ZaD rfl) hi)
section
variable {prog:Program}{w:World}{F:Fp}{K:Addr->Prop}{ad:Nat->Bool->Addr}{σ:Sg}{s:Shared}{mg mb:Str->Option Value}{Γ:ZaC}{fn:Nat->Str}{fa:Nat->Addr}{n N:Nat}{A:Around}{E:Value->Shared->Prop}
theorem Fm.Zu3(G:Gr F.base mg mb F.Gd)(H:Fs F){I:Addr}(x:Fm F (λb=>K b∨b=I) ad σ s)(hI : ¬K I){h':Heap}{tk:Tok}(hs:Heap.ExtBut I s.heap h')(ht:1<=tk):Fm F K ad σ { s with heap:=h',toks:=tk }:=⟨(x.ZrA G H (.inr (.inr rfl)) hs ht).1,
(x.ZrA G H (.inr (.inr rfl)) hs ht).2,
(let ⟨m,h⟩:=x.loc;⟨m,Zgd h hs (Ne.symm (x.kx I (.inr rfl)).1)⟩),
(λn c h=>let ⟨v,h'⟩:=x.cel n c h;⟨v,Zb3 h' hs (Ne.symm ((x.kx I (.inr rfl)).2.1 n c h))⟩),
(λi b h=>let ⟨h1,h2,h3,its,h4⟩:=x.own i b h;⟨h1,h2,λz=>h3 (.inl z),its,ZaG h4 hs λq=>h3 (.inr q)⟩),
x.inj,
(λb h=>by
  obtain⟨h1,h2,h3,h4,o,m,n,e⟩:=x.kx b (.inl h)
  exact⟨h1,h2,h3,h4,o,m,n,hs b o (λq=>hI (q▸h)) e⟩),
(λi sl e h=>let ⟨n,v,h1,h2,h3⟩:=x.vs i sl e h
  ⟨n,v,h1,h2.but hs (Ne.symm (x.kx I (.inr rfl)).1) λn c hc=>Ne.symm ((x.kx I (.inr rfl)).2.1 n c hc),h3.mono (λa o _ e p=>⟨⟨p.1,p.2.1,λz=>p.2.2 (.inl z)⟩,hs a o (λq=>p.2.2 (.inr q)) e⟩)
   (λb hb=>⟨rfl,λits h=>ZaG h hs λq=>(x.own i b ⟨sl,e,hb⟩).2.2.1 (.inr q)⟩) λ_ _=>rfl⟩)⟩
theorem Stp.Zu4{Z Z':Addr->Prop}{h h' h'':Heap}{I:Addr}(x:Stp Z Z' h h')(hI:h.get? I=none)(hs:Heap.ExtBut I h' h''):Stp Z Z' h h'':=
 ⟨λb o n z e=>hs b o (λq=>by rw[q,hI] at e;cases e) (x.kp b o n z e),λb o e=>let ⟨o',e'⟩:=x.ex b o e;⟨o',hs b o' (λq=>by rw[q,hI] at e;cases e) e'⟩,x.pv⟩
noncomputable abbrev ZmZ(F:Fp)(Γ:ZaC)(N:Nat)(K:Addr->Prop)(I:Addr)(W:Addr->Prop)(i:Nat)(b:S)(Z:Addr->Prop)(h₀:Heap)(r:Option (Fl×Sg))(ad:Nat->Bool->Addr)(σ:Sg)(rem:List D)(s:Shared):Prop:=(Fm F (λb=>K b∨b=I) ad σ s)∧(It (Pq F (λb=>K b∨b=I) ad σ) W s.heap I rem)∧(∀b,W b->b≠I∧¬Pv F ad σ b∧∃ob,s.heap.get? b=some ob)∧(forL i (ex Γ N b) rem σ=r)∧(Stp Z (Pv F ad σ) h₀ s.heap)
theorem ZmZ.f{F:Fp}{Γ:ZaC}{N:Nat}{K:Addr->Prop}{I:Addr}{W:Addr->Prop}{i:Nat}{b:S}{Z:Addr->Prop}{h₀:Heap}{r:Option (Fl×Sg)}{ad:Nat->Bool->Addr}{σ:Sg}{rem:List D}{s:Shared}(slf:ZmZ F Γ N K I W i b Z h₀ r ad σ rem s):Fm F (λb=>K b∨b=I) ad σ s:=slf.1
theorem ZmZ.it{F:Fp}{Γ:ZaC}{N:Nat}{K:Addr->Prop}{I:Addr}{W:Addr->Prop}{i:Nat}{b:S}{Z:Addr->Prop}{h₀:Heap}{r:Option (Fl×Sg)}{ad:Nat->Bool->Addr}{σ:Sg}{rem:List D}{s:Shared}(slf:ZmZ F Γ N K I W i b Z h₀ r ad σ rem s):It (Pq F (λb=>K b∨b=I) ad σ) W s.heap I rem:=slf.2.1
theorem ZmZ.hS{F:Fp}{Γ:ZaC}{N:Nat}{K:Addr->Prop}{I:Addr}{W:Addr->Prop}{i:Nat}{b:S}{Z:Addr->Prop}{h₀:Heap}{r:Option (Fl×Sg)}{ad:Nat->Bool->Addr}{σ:Sg}{rem:List D}{s:Shared}(slf:ZmZ F Γ N K I W i b Z h₀ r ad σ rem s):∀b,W b->b≠I∧¬Pv F ad σ b∧∃ob,s.heap.get? b=some ob:=slf.2.2.1
theorem ZmZ.hv{F:Fp}{Γ:ZaC}{N:Nat}{K:Addr->Prop}{I:Addr}{W:Addr->Prop}{i:Nat}{b:S}{Z:Addr->Prop}{h₀:Heap}{r:Option (Fl×Sg)}{ad:Nat->Bool->Addr}{σ:Sg}{rem:List D}{s:Shared}(slf:ZmZ F Γ N K I W i b Z h₀ r ad σ rem s):forL i (ex Γ N b) rem σ=r:=slf.2.2.2.1
theorem ZmZ.t{F:Fp}{Γ:ZaC}{N:Nat}{K:Addr->Prop}{I:Addr}{W:Addr->Prop}{i:Nat}{b:S}{Z:Addr->Prop}{h₀:Heap}{r:Option (Fl×Sg)}{ad:Nat->Bool->Addr}{σ:Sg}{rem:List D}{s:Shared}(slf:ZmZ F Γ N K I W i b Z h₀ r ad σ rem s):Stp Z (Pv F ad σ) h₀ s.heap:=slf.2.2.2.2
theorem ZpD(G:Gr F.base mg mb F.Gd)(H:Fs F){i:Nat}{it:X}{b:S}(ai:All prog w F.base F.Gd Γ F.nm fn n it)(hb:SS prog w F Γ fn n N b):S1 prog w F Γ fn n N (.fors i it b):=by
 intro e K ad σ A s E Q fl σ' hm L f hv k
 refine Zac (show((ev Γ σ it).bind itemsOf).bind _=_ from hv) λds hds hv=>?_
 refine Zsu (show Zt2 _ e=true from hm) λtg iter ba el pos hm=>Zux hm λm0 m1 m2 m3 m4 m5=>ZcD m0 (ZfI m1 λy p hy hk=>?_)
 obtain⟨_,src⟩:=ai.i F.sc true iter F.env σ A _ s ds m4 (f.ZcE H) L f.ok (f.pf H) hds
 refine wpAny_For (src E _ λI s₁ g₁ o₁ hit hI hbI=>?_) (ZdM m3)
 have nKI : ¬K I:=λz=>by obtain⟨_,_,_,_,o,_,_,e⟩:=f.kx I z;rw[hI] at e;cases e
 have f₁:Fm F (λb=>K b∨b=I) ad σ s₁:=f.Zpj g₁ o₁ hI hbI (let ⟨o,e,m,n⟩:=hit.mut;⟨o,m,n,e⟩)
 refine codeAny_forLoop_any (λm s₂=>∃ad₂ σ₂ rem,m=rem.length∧ZmZ F Γ N K I (λb=>b≠I∧(∃ob,s₁.heap.get? b=some ob)∧(it.fz=true->Pq F K ad σ b)) i b (Pv F ad σ) s.heap (some (fl,σ')) ad₂ σ₂ rem s₂) (λm s₂ h=>?_) ds.length
  ⟨ad,σ,ds,rfl,f₁,hit.excl λa o e p=>⟨p.1.1,p.1.2.1,λz=>z.elim p.1.2.2 p.2⟩,λb hb=>⟨hb.1,(hb.2.2 m2).2.1,hb.2.1⟩,hv,g₁.stp⟩
 obtain⟨ad₂,σ₂,rem,e0,V⟩:=h
 refine wrap V.f.ok.tk ?_
 have hv₂:=V.hv
 cases rem with
 | nil=>
  revert k
  exact ZbI hv₂ λk=>V.it.done L.hd λh' hs ht=>wpAny_execs_nil (k ad₂ _ (V.f.Zu3 (tk:=s₂.toks) G H nKI hs V.f.ok.tk) (V.t.Zu4 hI hs))
 | cons d rem=>
  refine Zac (show(ex Γ N b _).bind _=_ from hv₂) λr h1 hv₂=>?_
  obtain⟨f1,σ1⟩:=r
  refine V.it.next (λz=>z.2.2 (.inr rfl)) λv h' tk rv hit₃ hs ht=>?_
  have f₃:=V.f.Zu2 G H (I:=I) (.inr rfl) hs.extBut (let ⟨o,e,m,n⟩:=hit₃.mut;⟨o,m,n,e⟩) (show 1<=tk from ht)
  have t₃:=V.t.Zu4 hI hs.extBut
  refine wpAny_pure (wpAny_assign_Name (f₃.Zc0 G H hy hk (rv.mono λa o _ e p=>⟨p,hs.extBut a o (λq=>p.2.2 (.inr q)) e⟩) λs₄ f₄ t₄=>?_))
  refine hb _ _ ad₂ _ A s₄ _ _ f1 σ1 m5 L f₄ h1 ?_
  revert k
  cases f1 with
  | next=>
   refine λk ad₅ s₅ f₅ t₅=>⟨rem.length,e0▸Nat.lt_succ_self _,ad₅,σ1,rem,rfl,f₅,?_,λb hb=>?_,hv₂,t₃.trans (t₄.trans t₅)⟩
   ·have t6:=t₄.trans t₅
    refine hit₃.go (λa o n e p=>⟨⟨p.1,λz=>p.2.1 (t6.pv a o e z),p.2.2⟩,t6.kp a o n p.2.1 e⟩) (λa o n e z=>t6.kp a o n (V.hS a z).2.1 e) λo n e=>t6.kp I o n (λz=>?_) e
    rcases z with z | ⟨n',z⟩ | ⟨j,c,z,q⟩
    ·exact(V.f.kx I (.inr rfl)).1 z
    ·exact(V.f.kx I (.inr rfl)).2.1 n' I z rfl
    ·exact(V.f.own j c z).2.2.1 (.inr q.symm)
   ·have t6:=t₄.trans t₅
    obtain⟨h1,h2,ob,h3⟩:=V.hS b hb
    have h3:=hs.extBut b ob h1 h3
    obtain⟨ob',h4⟩:=t6.ex b ob h3
    exact⟨h1,λz=>h2 (t6.pv b ob h3 z),ob',h4⟩
  | brk=>exact ZbI hv₂ λk ad₅ s₅ f₅ t₅=>k ad₅ s₅ (f₅.Zu7 λa h=>.inl h) (t₃.trans (t₄.trans t₅))
  | ret d'=>exact ZbI hv₂ λk=>k
end
end
section
section
variable {prog:Program}{w:World}{F:Fp}{K:Addr->Prop}{ad:Nat->Bool->Addr}{σ:Sg}{s:Shared}{mg mb:Str->Option Value}{Γ:ZaC}{fn:Nat->Str}{fa:Nat->Addr}{n N:Nat}{A:Around}{E:Value->Shared->Prop}
theorem Zmh{i:Nat}{sl:Slot}(hsl:∀b,¬sl.has b){a:Addr}(h:Pq F K ad σ a):Pq F K ad (σ.set i sl) a:=⟨h.1,λz=>h.2.1 (ZqM hsl z),h.2.2⟩
noncomputable def Binds(prog:Program)(w:World)(A:Around)(E:Value->Shared->Prop)(F:Fp)(t:Value->Sem Unit)(i:Nat):Prop:=∃y,F.nm[i]? = some y∧(F.sc.names.lookup y=some .local∨F.sc.names.lookup y=some .cell)∧
 ∀(v:Value) (Q':Unit->Shared->Prop) s',wpAny (model prog w) A (storeName F.env y v) Q' E s'->wpAny (model prog w) A (t v) Q' E s'
inductive Zcr (prog:Program) (w:World) (A:Around) (E:Value->Shared->Prop) (F:Fp):List (Value->Sem Unit)->List Nat->Prop
 | nil:Zcr prog w A E F [] []
 | cons {t ts i is}:Binds prog w A E F t i->Zcr prog w A E F ts is->Zcr prog w A E F (t::ts) (i::is)
theorem ZhW(G:Gr F.base mg mb F.Gd)(H:Fs F){Q:Unit->Shared->Prop}{is:List Nat}{ts:List (Value->Sem Unit)}(B:Zcr prog w A E F ts is):∀(vs:List Value) (ds:List D) (σ:Sg) (s:Shared),Fm F K ad σ s->Zad (Pq F K ad σ) s.heap vs ds->is.length=ds.length->
  (∀s',Fm F K ad (ZfZ σ is ds) s'->Stp (Pv F ad σ) (Pv F ad (ZfZ σ is ds)) s.heap s'.heap->Q () s')->wpAny (model prog w) A (assignInOrder ts vs) Q E s:=by
 induction B with
 | nil=>
  intro vs ds σ s f r hl k
  have hd:ds=[]:=List.length_eq_zero_iff.mp hl.symm
  rw[hd] at r
  erw[rwl (r.nil_inv ..) ?_]
  exact wpAny_pure (k s f (.refl _ _))
 | @cons t ts i is b B ih=>
  intro vs ds σ s f r hl k
  cases ds with
  | nil=>exact absurd hl (Nat.succ_ne_zero _)
  | cons d ds=>
   refine r.Zd0 λv vs r rs=>?_
   obtain⟨y,hy,hk,hst⟩:=b
   show wpAny (model prog w) A (do holding vs (t v);assignInOrder ts vs) Q E s
   refine wpAny_bind (wpAny_holding (hst v _ s (Fm.Zh2 (sl:=.fz d) G H (λ_ h=>h) f hy hk (.fz (r.mono λa o _ e p=>⟨Zmh (sl:=.fz d) (λ_ h=>h) p,e⟩)) λh' tk f' t' keep=>?_)))
   exact ih vs ds _ _ f' (rs.mono λa o _ e p=>⟨Zmh (sl:=.fz d) (λ_ h=>h) p,keep a (λq=>p.2.1 (.inl q)) (λn c hc q=>p.2.1 (.inr (.inl ⟨n,q▸hc⟩))) o e⟩) (Nat.succ.inj hl) λs' f'' t''=>k s' f'' (t'.trans t'')
theorem ZgO:∀{is:List Nat} {ts:List Expr},ZrD F.sc F.nm is ts=true->(assignEach ts F.env).length=is.length∧(assignEach ts F.env).findIdx? (·.1)=none∧Zcr prog w A E F ((assignEach ts F.env).map (·.2)) is
 | [],_,h=>ZcD (G:=λts=>(assignEach ts F.env).length=0∧(assignEach ts F.env).findIdx? (·.1)=none∧Zcr prog w A E F ((assignEach ts F.env).map (·.2)) []) h ⟨rfl,rfl,.nil⟩
 | i::is,_,h=>by
  refine Zry (show bc _ _=true from h) λe es h=>Zbg h λm1 m2=>ZfI m1 λy p hy hk=>?_
  obtain⟨h1,h2,h3⟩:=ZgO m2
  have e1:assignEach (.Name y p::es) F.env=(false,assign (.Name y p) F.env)::assignEach es F.env:=rfl
  erw[rwl (e1 ..) ?_]
  exact⟨congrArg Nat.succ h1,by erw[rwl (List.findIdx?_cons ..) (rwl (h2 ..) ?_)];rfl,.cons ⟨y,hy,hk,λv Q' s' hq=>wpAny_assign_Name hq⟩ h3⟩
theorem ZkT{ts:List Expr}{v:Expr}{k:Nat}{tp:Pos}{env:Env}(h:Zo9 v=true):swappedStores [.Tuple ts k tp] v env=pure none:=by
 cases v<;>first | rfl | exact nf h
theorem Zgb{t v:Expr}{line:Nat}{env:Env}(h:Zgj v=true):swapsWith v (some t) line env=pure false:=by
 cases v<;>first | rfl | exact nf h
theorem ZrT(G:Gr F.base mg mb F.Gd)(H:Fs F){is:List Nat}{x:X}(a:All prog w F.base F.Gd Γ F.nm fn n x):S1 prog w F Γ fn n N (.unp is x):=by
 intro e K ad σ A s E Q fl σ' hm L f hv k
 refine Zac (show(ev Γ σ x).bind _=_ from hv) λd hd hv=>?_
 revert hd k
 refine Zpb hv λds hds=>Zph (show Zrx _ d=_ from hds) λl hds=>ifS hds λhl hds k hd=>?_
 rw[Option.some.inj hds] at hl hd
 refine ZbU (show ZbZ _ e=true from hm) λtt v p hm=>Zjx hm λts kk tp hm=>Zm2 hm λm1 m2 m3 m4 m5=>?_
 obtain⟨h1,h2,h3⟩:=ZgO (prog:=prog) (w:=w) (A:=A) (E:=E) m1
 refine PyProof.Rows.Assign_Tuple (ZdV H a m5 m4 L f hd λv s₁ f₁ g₁ r=>?_) (by show swapsWith v (some (.Tuple ts kk tp)) p.line F.env=pure false;exact Zgb m3) (ZkT m2)
 refine r.Zc1 λt vs _ ht rv _=>?_
 refine wpAny_assign_Tuple L.hd ht.isTuple (by erw[rwl (h1 ..) (rwl (List.size_toArray ..) (rwl (rv.length ..) (rwl (hl ..) ?_)))]) h2 λh' hs=>?_
 have kk:∀b o,s₁.heap.get? b=some o->h'.get? b=some o:=λb o e=>hs b o (Nat.ne_of_lt (Heap.lt_size e)) e
 have g₂:Gw s₁ { s₁ with heap:=h' }:=.of_keep (tk:=s₁.toks) kk
 exact ZhW G H h3 _ ds σ _ (f₁.grow g₂ ⟨G.keeps f₁.ok.gd kk,f₁.ok.tk⟩) (rv.kp g₂.kp) hl.symm λs₃ f₃ t₃=>k ad s₃ f₃ ((g₁.stp.trans g₂.stp).trans t₃)
theorem ZnH(H:Fs F):(F.env.blockKind != .function)=false:=by
 have:F.env.scope.kind=.function:=by erw[rwl (H.scp ..) ?_];exact H.kf
 unfold Env.blockKind
 erw[rwl (this ..) ?_];rfl
theorem Zfe{x:Expr}(h:Zai x=true):(match (generalizing:=false) x with | .Starred ..=>true | _=>false)=false:=by
 cases x<;>first | rfl | exact nf h
theorem Zog{a b:Str}(h:(a != b)=true):[a,b].eraseDups=[a,b]:=by
 have e:(b==a)=false:=beq_eq_false_iff_ne.mpr (Ne.symm (bne_iff_ne.mp h))
 erw[rwl (List.eraseDups_cons ..) (rwl (List.filter_cons ..) (rwl (e ..) (rwl (List.filter_nil ..) ?_)))]
 exact(congrArg (a::·) List.eraseDups_cons).trans rfl
theorem Zna(H:Fs F){ts es:List Expr}{G:List Expr->List Expr->Prop}(h:ZtD F.sc ts es=true)(kk:∀a p b q x y,(∀k tp k2 ep,swappedStores [.Tuple [.Name a p,.Name b q] k tp] (.Tuple [x,y] k2 ep) F.env=pure (some [a,b]))->G [.Name a p,.Name b q] [x,y]):G ts es:=by
 refine Zl6 (show b2 _ ts=true from h) λt u h=>Zl6 (G:=λes=>G [t,u] es) h λx y h=>Zbx (G:=λt=>G [t,u] [x,y]) h λa p h=>Zbx (G:=λu=>G [.Name a p,u] [x,y]) h λb q h=>?_
 refine Zvv h λh1 h2 h3 h4 h5 h6 h7 h8=>kk a p b q x y λk tp k2 ep=>?_
 have ka:F.env.kindOf a=some .local:=by rw[Env.kindOf,H.scp];exact eq_of_beq h1
 have kb:F.env.kindOf b=some .local:=by rw[Env.kindOf,H.scp];exact eq_of_beq h2
 clear h kk
 refine(if_neg (λh=>or2 h (λh=>nf h) λh=>nf ((ZnH H).symm.trans h))).trans ((if_neg ?_).trans ?_)
 ·exact λh=>or2 h (λh=>nf ((Zfe h7).symm.trans h)) λh=>or2 h (λh=>nf ((Zfe h8).symm.trans h)) λh=>nf h
 dsimp only
 generalize hn:List.filterMap (_:Expr->Option Str) _=nm
 have e:nm=[a,b]:=by
  refine hn.symm.trans ((List.filterMap_cons_some (b:=a) ?_).trans (congrArg (a::·) ((List.filterMap_cons_some (b:=b) ?_).trans rfl)))
  ·exact if_pos (by rw[ka];exact beq_self_eq_true p.line)
  ·exact if_pos (by rw[kb,←eq_of_beq h3];exact beq_self_eq_true p.line)
 rw[e]
 exact(if_neg (λh=>or2 h (λh=>nf h) λh=>nf ((by rw[Zog h4];rfl:([a,b].eraseDups.length != [a,b].length)=false).symm.trans h))).trans ((if_neg (ne_true_of_eq_false (ZfK h5))).trans (if_neg (ne_true_of_eq_false (ZfK h6))))
theorem Zad.reverse{P:Addr->Prop}{h:Heap}{vs:List Value}{ds:List D}(r:Zad P h vs ds):Zad P h vs.reverse ds.reverse:=
 r.ind (m:=λvs ds=>Zad P h vs.reverse ds.reverse) .nil λv vs d ds a _ ih=>by erw[rwl (List.reverse_cons ..) (rwl (List.reverse_cons ..) ?_)];exact ih.snoc a
theorem Zqg(G:Gr F.base mg mb F.Gd)(H:Fs F){is:List Nat}{xs:X}(a:All prog w F.base F.Gd Γ F.nm fn n xs):S1 prog w F Γ fn n N (.unpS is xs):=by
 intro e K ad σ A s E Q fl σ' hm L f hv k
 revert k
 refine Zac (show(evL Γ σ xs).bind _=_ from hv) λds hds hv=>ifS hv λhl hv=>ZbI hv λk=>?_
 refine ZbU (show ZbZ _ e=true from hm) λtt v p hm=>Zjx hm λts kk tp hm=>Zjx hm λes k2 ep hm=>Zi6 hm λm1 m2 m3 m4=>?_
 revert m1 m4
 refine Zna (G:=λts es=>ZrD F.sc F.nm is ts=true->mtL F.nm fn F.sc true xs es=true->wpAny (model prog w) A (exec (.Assign [.Tuple ts kk tp] (.Tuple es k2 ep) p) F.env) Q E s) H m2 λya pa yb pb ex ey hsw m1 m4=>?_
 obtain⟨_,_,B⟩:=ZgO (prog:=prog) (w:=w) (A:=A) (E:=E) m1
 have e1:assignEach [.Name ya pa,.Name yb pb] F.env=[(false,assign (.Name ya pa) F.env),(false,assign (.Name yb pb) F.env)]:=rfl
 cases is with
 | nil=>exact nf m1
 | cons i is=>
 cases is with
 | nil=>exact Zbg (show(tgt F.sc F.nm i (.Name ya pa)&&false)=true from m1) λ_ h=>nf h
 | cons j is=>
 cases is with
 | cons=>exact Zbg (show(tgt F.sc F.nm i (.Name ya pa)&&(tgt F.sc F.nm j (.Name yb pb)&&false))=true from m1) λ_ h=>Zbg h λ_ h=>nf h
 | nil=>
 have nmy:∀{y p i},tgt F.sc F.nm i (.Name y p)=true->Binds prog w A E F (λv=>bindName F.env y v) i:=λ{y p i} m=>Zbg (show(F.nm[i]?==some y&&_)=true from m) λh1 h2=>
  ⟨y,eq_of_beq h1,or2 h2 (λh=>.inl (eq_of_beq h)) (λh=>.inr (eq_of_beq h)),λv Q' s' hq=>wpAny_bindName hq⟩
 have B2:Zcr prog w A E F [λv=>bindName F.env yb v,λv=>bindName F.env ya v] [j,i]:=Zbg (show(tgt F.sc F.nm i (.Name ya pa)&&(tgt F.sc F.nm j (.Name yb pb)&&true))=true from m1) λha h=>Zbg h λhb _=>.cons (nmy hb) (.cons (nmy ha) .nil)
 refine PyProof.Rows.Assign_Tuple_swapped (names:=[ya,yb]) ?_ rfl (hsw _ _ _ _)
 refine PySem.wpAny_Tuple_spliced (Zgt H a m4 m3 L f hds λvs s₁ f₁ g₁ r=>⟨by erw[rwl (r.length ..) (rwl (hl ..) ?_)];exact Nat.le_of_ble_eq_true rfl,?_⟩)
 have kk:∀b ob,s₁.heap.get? b=some ob->(s₁.heap.push { cls:=.type "tuple",data:=.seq vs.toArray }).get? b=some ob:=λ_ _ e=>Heap.get?_push_of_some _ e
 have hT:(s₁.heap.push { cls:=.type "tuple",data:=.seq vs.toArray }).IsTuple s₁.heap.objs.size vs.toArray:=⟨_,Heap.get?_push_size _ rfl,rfl,0,rfl⟩
 have e3:([ya,yb]:List Str).length=vs.toArray.size:=by erw[rwl (List.size_toArray ..) (rwl (r.length ..) (rwl (hl ..) ?_))];rfl
 erw[rwl (e3 ..) ?_]
 refine wpAny_unpackItems_tuple L.hd hT λh' hs=>?_
 have k3:∀b ob,s₁.heap.get? b=some ob->h'.get? b=some ob:=λb ob e=>hs b ob (Nat.ne_of_lt (Heap.lt_size (kk b ob e))) (kk b ob e)
 have g₂:Gw s₁ { s₁ with heap:=h' }:=.of_keep (tk:=s₁.toks) k3
 exact ZhW G H B2 _ ds.reverse σ _ (f₁.grow g₂ ⟨G.keeps f₁.ok.gd k3,f₁.ok.tk⟩) (r.kp g₂.kp).reverse (by erw[rwl (List.length_reverse ..) (rwl (hl ..) ?_)];rfl) λs₃ f₃ t₃=>k ad s₃ f₃ ((g₁.stp.trans g₂.stp).trans t₃)
end
end
section
set_option backward.match.sparseCases false
theorem ZhJ{prog:Program}{w:World}{A:Around}{E:Value->Shared->Prop}{s:Shared}{Q:Value->Shared->Prop}{env:Env}{n:Str}{v:Value}(hk:env.scope.kind=.function)(x:Zb0 env s.heap n v)(hc:n≠("__classdict__" : Str))(h:Q v s):wpAny (model prog w) A (loadName env n) Q E s:=by
 rcases x with⟨hl,m,hn,e⟩ | ⟨hl,c,e,hcell⟩
 ·exact wpAny_loadName_local hk hl hn e h
 ·rcases hl with hl | hl
  ·exact wpAny_loadName_cell hk hl e hcell h
  ·exact wpAny_loadName_free hk hl e hcell h (beq_eq_false_iff_ne.mpr hc)
noncomputable def Za1.View(P:Addr->Prop)(ad:Nat->Bool->Addr)(i:Nat)(h:Heap)(v:Value):Slot->Prop
 | .fz d=>Rd P h v d
 | .own ds=>v=.ref (ad i false)∧∃vs:List Value,h.PlainList (ad i false) vs.toArray∧Zad P h vs ds∧ds.length<=sizeLine
 | .own2 dss=>v=.ref (ad i false)∧∃(vs ws:List Value) (pre:List (List D)) (l:List D),dss=pre++[l]∧h.PlainList (ad i false) (vs++[Value.ref (ad i true)]).toArray∧Zad P h vs (pre.map .list)∧h.PlainList (ad i true) ws.toArray∧Zad P h ws l∧pre.length+1<=sizeLine∧l.length<=sizeLine
 | .app j=>∃g,v=.ref g∧P g∧h.get? g=some (Zb9 (ad j false))
 | _=>True
theorem Za1.view{P:Addr->Prop}{ad:Nat->Bool->Addr}{i:Nat}{h:Heap}{sl:Slot}{v:Value}(x:Za1 P ad i h sl v):Za1.View P ad i h v sl:=by
 cases x with
 | fz r=>exact r
 | own a b c=>exact⟨rfl,_,a,b,c⟩
 | own2 d a b c e l m=>exact⟨rfl,_,_,_,_,d,a,b,c,e,l,m⟩
 | app p g=>exact⟨_,rfl,p,g⟩
section
variable {prog:Program}{w:World}{F:Fp}{K:Addr->Prop}{ad:Nat->Bool->Addr}{σ:Sg}{s:Shared}{mg mb:Str->Option Value}{Γ:ZaC}{fn:Nat->Str}{fa:Nat->Addr}{n N:Nat}{A:Around}{E:Value->Shared->Prop}
theorem ZfC(H:Fs F):F.env.scope.kind=.function:=by erw[rwl (H.scp ..) ?_];exact H.kf
theorem Fm.look(H:Fs F)(f:Fm F K ad σ s){i:Nat}{e:Expr}{sl:Slot}{Q:Value->Shared->Prop}(he:σ[i]? = some sl)(hne:sl≠.un)(hm:isNm F.nm i e=true)
  (k:∀v,Za1.View (Pq F K ad σ) ad i s.heap v sl->Q v s):wpAny (model prog w) A (eval e F.env) Q E s:=
 Zl5 hm λy p hy h1 h2=>by
  obtain⟨y',v,hy',hv,hr⟩:=f.vs i sl he hne
  rw[hy] at hy'
  rw[←Option.some.inj hy'] at hv
  exact Zcn (ZfC H) hv h1 h2 (k v hr.view)
theorem Zcd{i:Nat}{ds:List D}(h:ownOf σ i=some ds):σ[i]? = some (.own ds):=by
 unfold ownOf at h
 revert h
 cases σ[i]? with
 | none=>exact λh=>nn h
 | some sl=>
  cases sl with
  | own l=>exact λh=>congrArg (λl=>some (Slot.own l)) (Option.some.inj h)
  | _=>exact λh=>nn h
theorem Zfx{i:Nat}{ds:List (List D)}(h:Zdl σ i=some ds):σ[i]? = some (.own2 ds):=by
 unfold Zdl at h
 revert h
 cases σ[i]? with
 | none=>exact λh=>nn h
 | some sl=>
  cases sl with
  | own2 l=>exact λh=>congrArg (λl=>some (Slot.own2 l)) (Option.some.inj h)
  | _=>exact λh=>nn h
theorem Zj9{j i:Nat}(h:ZiT σ j i=true):σ[j]? = some (.app i):=by
 unfold ZiT at h
 revert h
 cases σ[j]? with
 | none=>exact λh=>nf h
 | some sl=>
  cases sl with
  | app l=>exact λh=>congrArg (λl=>some (Slot.app l)) (eq_of_beq h)
  | _=>exact λh=>nf h
theorem Fm.Zrz(f:Fm F K ad σ s){i:Nat}{ds:List D}(e:ownOf σ i=some ds):∃vs:List Value,s.heap.PlainList (ad i false) vs.toArray∧Zad (Pq F K ad σ) s.heap vs ds∧ds.length<=sizeLine:=
 let ⟨_,_,_,_,hr⟩:=f.vs i _ (Zcd e) Slot.noConfusion
 hr.view.2
theorem Fm.ZkB(H:Fs F)(f:Fm F K ad σ s){i:Nat}{ds:List D}{e:Expr}{Q:Value->Shared->Prop}(h:ownOf σ i=some ds)(hm:isNm F.nm i e=true)
  (k:∀vs:List Value,s.heap.PlainList (ad i false) vs.toArray->Zad (Pq F K ad σ) s.heap vs ds->ds.length<=sizeLine->Q (.ref (ad i false)) s):wpAny (model prog w) A (eval e F.env) Q E s:=
 f.look H (Zcd h) Slot.noConfusion hm λ_ r=>let ⟨x,vs,a,b,c⟩:=r;x▸k vs a b c
theorem Stp.own{a:Addr}{h h':Heap}{σ':Sg}(ha:Pv F ad σ a)(hs:Heap.ExtBut a h h')(hx:∃o,h'.get? a=some o)(hp:∀b,Pv F ad σ' b->Pv F ad σ b):Stp (Pv F ad σ) (Pv F ad σ') h h':=
 ⟨λb o _ z e=>hs b o (λq=>z (q▸ha)) e,λb o e=>(Decidable.em (b=a)).elim (λq=>q▸hx) λq=>⟨o,hs b o q e⟩,λb _ _ z=>hp b z⟩
theorem Zo5{i:Nat}{sl sl':Slot}(e:σ[i]? = some sl)(hs:∀b,sl'.has b->sl.has b){a:Addr}(h:Pv F ad (σ.set i sl') a):Pv F ad σ a:=by
 rcases h with h | h | ⟨j,b,h,q⟩
 ·exact .inl h
 ·exact .inr (.inl h)
 ·rcases ZbH h with⟨r,g⟩ | ⟨_,g⟩
  ·exact .inr (.inr ⟨i,b,⟨sl,e,hs b g⟩,r▸q⟩)
  ·exact .inr (.inr ⟨j,b,g,q⟩)
theorem Fm.Zgh(G:Gr F.base mg mb F.Gd)(H:Fs F)(f:Fm F K ad σ s){i:Nat}{ds ds':List D}{vs':List Value}{h':Heap}(e:ownOf σ i=some ds)(hs:Heap.ExtBut (ad i false) s.heap h')(hp:h'.PlainList (ad i false) vs'.toArray)
  (hr:Zad (Pq F K ad σ) s.heap vs' ds') (hl:ds'.length<=sizeLine):Fm F K ad (σ.set i (.own ds')) { s with heap:=h' }∧Stp (Pv F ad σ) (Pv F ad (σ.set i (.own ds'))) s.heap h':=
 ⟨f.Zv3 (tk:=s.toks) G H (Zcd e) hs f.ok.tk hp hr hl,.own (a:=ad i false) (.inr (.inr ⟨i,false,⟨_,Zcd e,rfl⟩,rfl⟩)) hs ⟨_,hp.choose_spec⟩ λb z=>Zo5 (sl':=.own ds') (Zcd e) (λ_ h=>h) z⟩
theorem ZoH.own{s₁ s₂:Shared}{i:Nat}{ds':List D}{Q:Flow->Shared->Prop}(k:ZoH F K ad σ s .next (σ.set i (.own ds')) Q)(t:Stp (Pv F ad σ) (Pv F ad σ) s.heap s₁.heap)(x:Fm F K ad (σ.set i (.own ds')) s₂∧Stp (Pv F ad σ) (Pv F ad (σ.set i (.own ds'))) s₁.heap s₂.heap):Q .next s₂:=k ad _ x.1 (t.trans x.2)
theorem Ze7(H:Fs F):interactive F.env=false:=by
 unfold interactive;erw[rwl (ZfC H ..) ?_];rfl
theorem Zdw (H : Fs F) {o a : Expr} {ap pos p : Pos} {Q : Flow → Shared → Prop} (m2 : ZeM o = true) (m3 : (ap.endLine == pos.line) = true) (m4 : Zai a = true) (h : wpAny (model prog w) A (eval o F.env) (fun ov s₁ => ∃ D its, ov = .ref D ∧ PlainL s₁.heap D its ∧
      wpAny (model prog w) A (eval a F.env) (λy s₂=>wpAny (model prog w) A (call (.builtin "list.append") [.ref D,y]) (λ_=>Q .next) E s₂) E s₁) E s):wpAny (model prog w) A (exec (.Expr (.Call (.Attribute o "append" ap) [a] [] pos) p) F.env) Q E s:=
  wpAny_Expr_any (wpAny_Call_append (ZaQ m2) (by erw[rwl (Zab m4 ..) ?_];rfl) m3 (by erw[rwl (Zab m4 ..) ?_];rfl) h) (Ze7 H) rfl
theorem ZmE{h:Heap}{a:Addr}{its:Array Value}(x:h.PlainList a its):PlainL h a its:=let ⟨n,e⟩:=x;⟨_,n,e,rfl,rfl,rfl⟩
theorem ZsD(G:Gr F.base mg mb F.Gd)(H:Fs F){i:Nat}{x:X}(a:All prog w F.base F.Gd Γ F.nm fn n x):S1 prog w F Γ fn n N (.app i x):=by
 intro e K ad σ A s E Q fl σ' hm L f hv k
 revert k
 refine Zac (show(ownOf σ i).bind _=_ from hv) λds hds hv=>Zac hv λd hd hv=>ifS hv λhl hv=>ZbI hv λk=>?_
 refine Zlq (show qES _ e=true from hm) λv p hm=>Zby hm λo ap as pos m2 m3 hm=>ZfN hm λa' hm=>Zi6 hm λm1 m4 m5 m6=>?_
 refine Zdw H m2 m3 m4 (f.ZkB H hds m1 λvs hp _ _=>⟨_,_,rfl,ZmE hp,ZdV H a m6 m5 L f hd λv s₁ f₁ g₁ r=>?_⟩)
 obtain⟨vs,hp₁,hr₁,hz₁⟩:=f₁.Zrz hds
 exact wpAny_list_append_plain hp₁ (λh' hp' hs=>k.own g₁.stp (f₁.Zgh G H (vs':=vs++[v]) hds hs.extBut (List.push_toArray ..▸hp') (hr₁.snoc r) hl)) (Nat.le_trans (Nat.le_of_eq hr₁.length) hz₁)
theorem Zlz{e:Expr}{s:Shared}{env:Env}{Q:Value->Shared->Prop}(h:ZtO e=true)(ht:1<=s.toks)(k:∀t tk,1<=tk->Q (.int (-1) t) { s with toks:=tk }):wpAny (model prog w) A (eval e env) Q E s:=
 Zfg (show Zl3 _ _ e=true from h) λ_ _ h=>Znw h λ_ _=>wpAny_UnaryOp (wpAny_Constant_int (PyProof.Rows.neg_int (k _ _ (Nat.le_succ_of_le (Nat.le_succ_of_le ht)))))
theorem Zkp{e:Expr}(h:ZtO e=true):Zai e=true:=Zfg (show Zl3 _ _ e=true from h) λ_ _ _=>rfl
@[elab_as_elim] theorem ZlS{m:Nat}{d:D}{j:Nat}{G:D->Nat->Prop}(h:Zm6 m d=some j)(k:∀z:Int,0<=z->z < m->G (.int z) z.toNat):G d j:=
 Za3 (G:=λd=>G d j) (show intD _ d=_ from h) λz h=>ifS h λc h=>eqs (G:=G (.int z)) h (k z c.1 c.2)
theorem ZmN{z:Int}{l m:Nat}(hm:m=l)(hl:l<=16777216)(h1:z < l):z < 2 ^ 63∧z < m:=⟨by lia,hm▸h1⟩
theorem ZrM{l:List Value}{i:Nat}{v:Value}:l.toArray.setIfInBounds i v=(l.set i v).toArray:=List.setIfInBounds_toArray ..
theorem Zpa{h:Heap}{a:Addr}{vs:List Value}{i:Nat}{v:Value}(x:h.PlainList a vs.toArray):(h.update a (Obj.mapSeq (·.setIfInBounds i v))).PlainList a (vs.set i v).toArray:=let ⟨_,e⟩:=x;⟨_,by rw[←ZrM];exact PySem.IsL.update e _⟩
theorem Zre(G:Gr F.base mg mb F.Gd)(H:Fs F){i:Nat}{kx vx:X}(ak:All prog w F.base F.Gd Γ F.nm fn n kx)(av:All prog w F.base F.Gd Γ F.nm fn n vx):S1 prog w F Γ fn n N (.setI i kx vx):=by
 intro e K ad σ A s E Q fl σ' hm L f hv k
 revert k
 refine Zac (show(ownOf σ i).bind _=_ from hv) λds hds hv=>Zac hv λd hd hv=>Zac hv λz hz hv=>Zac hv λj hj hv=>ifS hv λhl hv=>ZbI hv λk=>?_
 revert hz hl k
 refine ZlS hj λzi hz0 hz1 hz hl k=>?_
 refine ZbU (show ZbZ _ e=true from hm) λt ve p hm=>Zge hm λo ke sp hm=>ZuH hm λm1 m2 m3 m4 m5 m6 m7=>?_
 refine wpAny_Assign_Subscript (ZdV H av m7 m5 L f hd λv s₁ f₁ g₁ r=>f₁.ZkB H hds m1 λ_ _ _ _=>ZdV H ak m6 m4 L f₁ hz λkv s₂ f₂ g₂ rk=>rk.Za0 λt=>?_) (Zgb m2)
 obtain⟨vs,hp₁,hr₁,hz₁⟩:=f₂.Zrz hds
 have q:=ZmN hr₁.length hz₁ hz1
 exact ki_setAt hp₁.choose_spec hz0 q.1 q.2 (k.own (g₁.stp.trans g₂.stp) (f₂.Zgh G H hds (Heap.SameBut.update ..).extBut (Zpa hp₁) (hr₁.set _ (r.kp g₂.kp)) hl))
theorem ZnB{l:List Value}{i:Nat}:l.toArray.eraseIdxIfInBounds i=(l.eraseIdx i).toArray:=List.eraseIdxIfInBounds_toArray ..
theorem Zts{z:Int}{m:Nat}(h:0<=z)(h1:z < m):seqIndex? z m=some z.toNat:=by
 unfold seqIndex?
 show(if(decide (0<=(if z < 0 then z+m else z))&&decide ((if z < 0 then z+m else z) < m))=true then some ((if z < 0 then z+m else z).toNat) else none)=_
 erw[rwl (if_neg (Int.not_lt.mpr h) ..) (rwl (decide_eq_true h ..) (rwl (decide_eq_true h1 ..) ?_))]
 rfl
theorem Zq3(G:Gr F.base mg mb F.Gd)(H:Fs F){i:Nat}{kx:X}(ak:All prog w F.base F.Gd Γ F.nm fn n kx):S1 prog w F Γ fn n N (.delI i kx):=by
 intro e K ad σ A s E Q fl σ' hm L f hv k
 revert k
 refine Zac (show(ownOf σ i).bind _=_ from hv) λds hds hv=>Zac hv λz hz hv=>Zac hv λj hj hv=>ifS hv λhl hv=>ZbI hv λk=>?_
 revert hz hl k
 refine ZlS hj λzi hz0 hz1 hz hl k=>?_
 refine ZsG (show Zuu _ e=true from hm) λts p hm=>ZfN hm λt hm=>Zge hm λo ke sp hm=>Zi6 hm λm1 m2 m3 m4=>?_
 refine wpAny_Delete (wpAny_deleteEach_cons (wpAny_delete_Subscript (f.ZkB H hds m1 λ_ _ _ _=>ZdV H ak m4 m3 L f hz λkv s₂ f₂ g₂ rk=>rk.Za0 λt=>?_)))
 obtain⟨vs,hp₁,hr₁,hz₁⟩:=f₂.Zrz hds
 have q:=ZmN hr₁.length hz₁ hz1
 exact wpAny_delItem_plain (k:=zi.toNat) hp₁ (fitsIndex_of hz0 q.1) (Zts hz0 q.2) (λh' hp' hs=>wpAny_deleteEach_nil (k.own g₂.stp (f₂.Zgh G H hds hs.extBut (ZnB▸hp') (hr₁.eraseIdx _) hl))) (Nat.le_trans (Nat.le_of_eq hr₁.length) hz₁)
end
end
section
section
variable {prog:Program}{w:World}{F:Fp}{K:Addr->Prop}{ad:Nat->Bool->Addr}{σ:Sg}{s:Shared}{mg mb:Str->Option Value}{Γ:ZaC}{fn:Nat->Str}{fa:Nat->Addr}{n N:Nat}{A:Around}{E:Value->Shared->Prop}
theorem ZsW{op:Bop}{a b d:D}{va vb:Value}{P:Addr->Prop}{Gd:Heap->Prop}{Q:Value->Shared->Prop}(o:Ok Gd s)(ra:Rd P s.heap va a)(rb:Rd P s.heap vb b)(h:ZoB op a b=some d)(k:Kc Gd P d Q s) :
  wpAny (model prog w) A (inplaceOp op.op va vb) Q E s:=by
 cases op with
 | add=>
  cases a with
  | int a=>
   revert rb k
   exact Za3 (show intD _ b=_ from h) λb h=>eqs h λrb k=>ra.Za0 λ_=>rb.Za0 λ_=>PyProof.Rows.iadd_int (k.ZkI o (.int _ _))
  | str a=>
   revert rb k
   refine ZbG (show Zd4 _ b=_ from h) λb h=>Zq1 h λhl rb k=>ra.Zba λ_ la=>rb.Zba λ_ lb=>wrap o.tk ?_
   refine PyProof.Rows.iadd_str (λt' tk ht=>k.tok o ht (Zhx (ZcQ ..) hl)) ?_
   erw[rwl (str_len ..) (rwl (str_len ..) (rwr (List.length_append ..) ?_))];exact hl
  | _=>exact nn h
 | sub=>
  revert ra rb k
  exact Za3 (show intD _ a=_ from h) λa h=>Za3 h λb h=>eqs h λra rb k=>ra.Za0 λ_=>rb.Za0 λ_=>PyProof.Rows.isub_int (k.ZkI o (.int _ _))
 | _=>exact nn h
theorem Zpx{i:Nat}{d:D}(h:rd σ i=some d):σ[i]? = some (.fz d):=by
 unfold rd at h
 revert h
 cases σ[i]? with
 | none=>exact λh=>nn h
 | some sl=>
  cases sl with
  | fz l=>exact λh=>congrArg (λl=>some (Slot.fz l)) (Option.some.inj h)
  | _=>exact λh=>nn h
theorem Zr4(G:Gr F.base mg mb F.Gd)(H:Fs F){i:Nat}{op:Bop}{x:X}(a:All prog w F.base F.Gd Γ F.nm fn n x):S1 prog w F Γ fn n N (.aug i op x):=by
 intro e K ad σ A s E Q fl σ' hm L f hv k
 revert k
 refine Zac (show(rd σ i).bind _=_ from hv) λd0 hd0 hv=>Zac hv λd1 hd1 hv=>Zpb hv λd hd k=>?_
 refine ZoI (show Zss _ e=true from hm) λt o v p hm=>Zm2 hm λm3 m1 m2 m4 m5=>?_
 revert m2
 refine eqb m3 (ZfI m1 λy p hy hk m2=>?_)
 obtain⟨y2,v0,hy2,hv0,hr0⟩:=f.vs i _ (Zpx hd0) Slot.noConfusion
 rw[hy] at hy2
 rw[←Option.some.inj hy2] at hv0
 refine wpAny_AugAssign_Name (ZhJ (ZfC H) hv0 (bne_iff_ne.mp (Za6 (show(_&&(y != ("__classdict__" : Str)))=true from m2))) (ZdV H a m5 m4 L f hd1 λv s₁ f₁ g₁ r=>?_))
 refine ZsW f₁.ok (Rd.kp (show Rd _ _ _ _ from hr0.view) g₁.kp) r hd λv' s₂ g₂ o₂ r₂=>?_
 exact(f₁.grow g₂ o₂).Zc0 G H hy hk r₂ λs₃ f₃ t=>k ad s₃ f₃ ((g₁.stp.trans g₂.stp).trans t)
theorem Fm.ZtL(G:Gr F.base mg mb F.Gd)(H:Fs F)(f:Fm F K ad σ s){s₂:Shared}(g:Gw s s₂)(o:Ok F.Gd s₂){i:Nat}{y:Str}{a:Addr}{vs:List Value}{ds:List D}{Q:Unit->Shared->Prop}(hn:Zgn i σ=true)(ha:s.heap.get? a=none)(hp:s₂.heap.PlainList a vs.toArray)
  (hr:Zad (Pq F K ad σ) s.heap vs ds) (hl:ds.length<=sizeLine) (hy:F.nm[i]? = some y) (hk:F.sc.names.lookup y=some .local∨F.sc.names.lookup y=some .cell)
  (k:∀ad' s',Fm F K ad' (σ.set i (.own ds)) s'->Stp (Pv F ad σ) (Pv F ad' (σ.set i (.own ds))) s.heap s'.heap->Q () s'):wpAny (model prog w) A (storeName F.env y (.ref a)) Q E s₂:=by
 have hb : ¬F.base a:=G.fresh f.ok.gd ha
 have f₁:=f.Zpj g o ha hb (let ⟨o,e,m,n⟩:=Mut.plain hp;⟨o,m,n,e⟩)
 let ad':Nat->Bool->Addr:=λj b=>if j=i then a else ad j b
 have hne:∀j b,j≠i->ad' j b=ad j b:=λj b q=>if_neg q
 have hi:∀b,ad' i b=a:=λb=>if_pos rfl
 have f₂:=f₁.prep (i:=i) (ad':=ad') hne (.inl hn)
 have nK : ¬K a:=λz=>by obtain⟨_,_,_,_,o,_,_,e⟩:=f.kx a z;rw[ha] at e;cases e
 have pv:∀b o,s.heap.get? b=some o->Pv F ad' (σ.set i (.own ds)) b->Pv F ad σ b:=λb o e z=>by
  rcases z with z | z | ⟨j,c,z,q⟩
  ·exact .inl z
  ·exact .inr (.inl z)
  ·rcases ZbH z with⟨rfl,_⟩ | ⟨q2,z⟩
   ·rw[hi] at q;rw[q,ha] at e;cases e
   ·exact .inr (.inr ⟨j,c,z,by erw[rwl (q ..) (rwl (hne j c q2 ..) ?_)]⟩)
 refine Fm.store (K:=K) (sl:=.own ds) G H f₂ (i:=i) (λb=>?_) (λb _=>by erw[rwl (hi ..) ?_];exact⟨nK,_,hp⟩) (λh=>nomatch h) hy hk ?_ λh' tk f₃ h1 h2=>?_
 ·constructor
  ·rintro(h | rfl)
   ·exact .inl h
   ·exact .inr ⟨false,rfl,(hi _).symm⟩
  ·rintro(h | ⟨c,_,q⟩)
   ·exact .inl h
   ·exact .inr (q.trans (hi c))
 ·erw[rwl (List.set_set ..) ?_]
  have:=Za1.own (P:=Pq F K ad' (σ.set i (.own ds))) (ad:=ad') (i:=i) (h:=s₂.heap) (vs:=vs) (ds:=ds) (by erw[rwl (hi ..) ?_];exact hp) (hr.mono λb o n e p=>⟨⟨p.1,λz=>p.2.1 (pv b o e z),p.2.2⟩,g.kp b o n e⟩) hl
  rwa [hi] at this
 ·rw[List.set_set] at f₃
  refine k ad' _ f₃ ⟨λb o n z e=>h1 b (λq=>z (.inl q)) (λn c hc q=>z (.inr (.inl ⟨n,q▸hc⟩))) o (g.kp b o n e),λb o e=>let ⟨o',e'⟩:=g.ex b o e;h2 b o' e',pv⟩
theorem Zq5(G:Gr F.base mg mb F.Gd)(H:Fs F){i:Nat}{xs:X}(a:All prog w F.base F.Gd Γ F.nm fn n xs):S1 prog w F Γ fn n N (.asgO i xs):=by
 intro e K ad σ A s E Q fl σ' hm L f hv k
 revert k
 refine ifS (show(if Zgn i σ then _ else none)=_ from hv) λhn hv=>Zac hv λds hds hv=>ifS hv λhl hv=>ZbI hv λk=>?_
 refine ZbU (show ZbZ _ e=true from hm) λt v p hm=>Zbg hm λm1 hm=>Zd7 hm λes lp hm=>Zbg hm λm2 m3=>ZfI m1 λy p hy hk=>?_
 refine wpAny_Assign_Name (wpAny_List_spliced (Zgt H a m3 m2 L f hds λvs s₁ f₁ g₁ r=>⟨Nat.le_trans (Nat.le_of_eq r.length) hl,?_⟩)) rfl
 have kk:∀b ob,s₁.heap.get? b=some ob->(s₁.heap.push { cls:=.type "list",data:=.seq vs.toArray }).get? b=some ob:=λ_ _ e=>Heap.get?_push_of_some _ e
 exact f₁.ZtL G H (.of_keep (tk:=s₁.toks) kk) ⟨G.keeps f₁.ok.gd kk,f₁.ok.tk⟩ hn (Zau _) ⟨0,Heap.get?_push_size _ rfl⟩ r hl hy hk λad' s' f' t=>k ad' s' f' (g₁.stp.trans t)
theorem ZjI{v:Expr}{y:Str}{p:Pos}{line:Nat}(H:Fs F)(h:Zmj F.sc v (.Name y p)=true):swapsWith v (some (.Name y p)) line F.env=pure true:=by
 refine Zgm (show Zkn (λ_ _ s q=>F.sc.names.lookup y==some .local&&p.line==q.line&&!(s.names.any λ(m,k)=>m==y&&(k==.local||k==.cell))) v=true from h) λelt gens sc' q h=>Zd2 h λh1 h2 h3=>?_
 have hk:F.env.kindOf y=some .local:=by rw[Env.kindOf,H.scp];exact eq_of_beq h1
 have hb:F.env.blockKind=.function:=by
  unfold Env.blockKind;rw[ZfC H];rfl
 show pure (F.env.blockKind==.function&&F.env.kindOf y==some .local&&p.line==q.line&&!(sc'.names.any λ(m,k)=>m==y&&(k==.local||k==.cell)))=_
 rw[hb,hk,h3,h2]
 rfl
theorem ZqT(G:Gr F.base mg mb F.Gd)(H:Fs F){i:Nat}{fr:List Nat}{t:Nat}{ex it cx:X}(ae:All prog w F.base F.Gd Γ F.nm fn n ex)(ai:All prog w F.base F.Gd Γ F.nm fn n it)(ac:All prog w F.base F.Gd Γ F.nm fn n cx):S1 prog w F Γ fn n N (.asgC i (.comp fr t ex it cx)):=by
 intro e K ad σ A s E Q fl σ' hm L f hv k
 revert k
 refine Zpb (show(ev Γ σ (.comp fr t ex it cx)).map _=_ from hv) λd hd=>Zac (show((ev Γ σ it).bind itemsOf).bind _=_ from hd) λds hds hd=>Zac hd λys hys hd=>ZmO hd λhl k=>?_
 refine ZbU (show ZbZ _ e=true from hm) λt' v p hm=>Zd2 hm λm1 m2 m3=>?_
 revert m3
 refine ZfI m1 λy p hy hk m3=>?_
 erw[rwl (exec_Assign_Name_used _ _ _ _ (ZjI H m3) ..) ?_]
 refine Zbg (show(true&&Zkn _ v)=true from m2) λ_ m2=>Zgm m2 λelt gens scope pos hm=>ZfN hm λg hm=>?_
 obtain⟨tg,iter,ifs,asy⟩:=g
 refine Zu1 hm λm0 n2 n3 n4 n5 n6 n7 n8 n9=>eqb (show(asy==0)=true from m0) (Zbx (show Zcv _ tg=true from n3) λz pz n3=>Zbg n3 λz1 z2=>?_)
 obtain⟨hlen,src⟩:=ai.i F.sc false iter F.env σ A _ s ds n7 (f.ZcE H) L f.ok (f.pf H) hds
 refine wpAny_bind (wpAny_standAt (wpAny_bind ?_))
 refine wpAny_mono (Q:=λ_ s'=>Q .next s') (E:=E) ?_ (λ_ _ q=>wpAny_pure q) λ_ _ e=>e
 show wpAny _ A (do let _ ←comprehension (.ListComp elt [⟨.Name z pz,iter,ifs,0⟩] scope pos) scope F.env _ (newList []) false (eval iter F.env) (some (assign (.Name y p) F.env))) _ _ s
 refine wpAny_bind (wpAny_mono (Q:=λ_ s'=>Q .next s') (E:=E) ?_ (λ_ _ q=>wpAny_pure q) λ_ _ e=>e)
 refine Zg1 (use:=some (assign (.Name y p) F.env)) (Q:=λ_ s'=>Q .next s') G L.hd (f:=λd=>(if cx.Za8 then some true else tv Γ ((mask fr σ).set t (.fz d)) cx).bind λb=>if b then(ev Γ ((mask fr σ).set t (.fz d)) ex).map some else some none) (f.ZcE H) (f.pf H) n2 (eq_of_beq z1) (eq_of_beq z2) (ZfK n4) (ZdM n6) hlen
  (λQ' kk=>src E Q' λI s₁ g₁ o₁ hit hI hb=>kk I s₁ _ g₁ o₁ hit hI hb λb hb=>hb.2.1)
  (Zgc (σ':=λd=>(mask fr σ).set t (.fz d)) ae.e ac.t n5 L n8 n9) hys λDd C s₁ m g₁ o₁ rr hD hC hDC hCb hnC=>?_
 have f₁:Fm F (λb=>K b∨b=C) ad σ s₁:=f.Zpj g₁ o₁ hC hCb (let ⟨o,e,m,n⟩:=Mut.ns hnC;⟨o,m,n,e⟩)
 have nK : ¬K C:=λz=>by obtain⟨_,_,_,_,o,_,_,e⟩:=f.kx C z;rw[hC] at e;cases e
 refine wpAny_assign_Name (Fm.Zh2 (sl:=.fz (.list ys)) G H (λ_ h=>h) f₁ hy hk (.fz (rr.mono λa o _ e p=>⟨Zmh (sl:=.fz (.list ys)) (λ_ h=>h) ⟨p.1.1,p.1.2.1,λz=>z.elim p.1.2.2 p.2⟩,e⟩)) λh' tk f₂ t₂ keep=>?_)
 have hC2:=f₁.kx C (.inr rfl)
 refine⟨m,?_,λh'' hs=>?_⟩
 ·obtain⟨o,es,ep,e,r⟩:=hnC
  exact⟨o,es,ep,keep C hC2.1 hC2.2.1 o e,r⟩
 ·exact k ad _ (f₂.Zu3 (tk:=tk) G H nK hs.extBut f₂.ok.tk) ((g₁.stp.trans t₂).Zu4 hC hs.extBut)
end
end
section
section
variable {prog:Program}{w:World}{F:Fp}{K:Addr->Prop}{ad:Nat->Bool->Addr}{σ:Sg}{s:Shared}{mg mb:Str->Option Value}{Γ:ZaC}{fn:Nat->Str}{fa:Nat->Addr}{n N:Nat}{A:Around}{E:Value->Shared->Prop}
theorem ZpY{a b:Nat}{x:Bool}{ds es:List D}(h:(ds++es).length<=16777216)(h1:a=ds.length)(h2:b=es.length):a<=sizeLine∧a+b<=sizeLine+1∧¬(x&&Builtin.List.listTooLong (a+b))=true:=by
 rw[List.length_append,←h1,←h2] at h
 exact⟨Nat.le_trans (Nat.le_add_right _ _) h,Nat.le_succ_of_le h,λq=>absurd (of_decide_eq_true (Za6 q)) (Nat.not_lt.mpr h)⟩
theorem ZsH{h:Heap}{a:Addr}{us vs:List Value}(x:h.PlainList a us.toArray):(h.update a (Obj.mapSeq λxs=>xs++vs.toArray)).PlainList a (us++vs).toArray:=let ⟨_,e⟩:=x;⟨_,by rw[←List.append_toArray];exact PySem.IsL.update e _⟩
theorem Zsp(G:Gr F.base mg mb F.Gd)(H:Fs F){i:Nat}{xs:X}(a:All prog w F.base F.Gd Γ F.nm fn n xs):S1 prog w F Γ fn n N (.ext i xs):=by
 intro e K ad σ A s E Q fl σ' hm L f hv k
 revert k
 refine Zac (show(ownOf σ i).bind _=_ from hv) λds hds hv=>Zac hv λes hes hv=>ifS hv λhl hv=>ZbI hv λk=>?_
 refine Zlq (show qES _ e=true from hm) λv p hm=>Zby hm λo ap as pos m2 m3 hm=>ZfN hm λa' hm=>Zbg hm λm1 hm=>Zd7 hm λles lp hm=>Zbg hm λm4 m5=>?_
 refine wpAny_Expr_any (wpAny_Call_method (T := "list") (id := "list.extend") (ZaQ m2) (by rfl) m3 PySem.F.plainAttrs_list PySem.F.slot_list_extend PySem.F.type_list_extend (f.ZkB H hds m1 λus hp _ _=>?_)) (Ze7 H) rfl
 refine⟨⟨_,hp.choose_spec,rfl⟩,λa e=>⟨_,(congrArg s.heap.get? (Value.ref.inj e)).symm.trans hp.choose_spec,rfl⟩,P.extend_list (wpAny_List_spliced (Zgt H a m5 m4 L f hes λvs s₁ f₁ g₁ r=>⟨?_,?_⟩))⟩
 ·erw[rwl (r.length ..) ?_]
  exact Nat.le_trans (Nat.le_add_left es.length ds.length) (Nat.le_trans (Nat.le_of_eq List.length_append.symm) hl)
 have kk:∀b ob,s₁.heap.get? b=some ob->(s₁.heap.push { cls:=.type "list",data:=.seq vs.toArray }).get? b=some ob:=λ_ _ e=>Heap.get?_push_of_some _ e
 have g₂:Gw s₁ { s₁ with heap:=s₁.heap.push { cls:=.type "list",data:=.seq vs.toArray } }:=.of_keep (tk:=s₁.toks) kk
 have f₂:=f₁.grow g₂ ⟨G.keeps f₁.ok.gd kk,f₁.ok.tk⟩
 obtain⟨us,hp₁,hr₁,hz₁⟩:=f₂.Zrz hds
 have q:=ZpY (x:=!us.toArray.isEmpty) hl hr₁.length r.length
 exact⟨_,us.toArray,vs.toArray,_,0,q.1,q.2.1,q.2.2,rfl,hp₁.choose_spec,Heap.get?_push_size _ rfl,k.own (g₁.stp.trans g₂.stp) (f₂.Zgh G H hds (Heap.SameBut.update ..).extBut (ZsH hp₁) (hr₁.append (r.kp g₂.kp)) hl)⟩
theorem ZiP{α:Type}{l:List α}{x:α}(h:l.getLast? = some x):0 < l.length:=by
 cases l with
 | nil=>exact nn h
 | cons=>exact Nat.succ_pos _
theorem ZiH{n m:Nat}(h:0 < n)(e:m=n):(-1:Int)+(m:Int)=((n - 1:Nat):Int)∧-(m:Int)<=-1:=by lia
theorem Zi2{ds:List D}{d:D}(h:ds.getLast? = some d):ZmQ (.list ds) (.int (-1))=some d:=by
 have q:=(ZiH (ZiP h) rfl).1
 have e1:idxOf ds.length (-1)=some (ds.length - 1):=by
  unfold idxOf
  rw[if_neg (by decide),q,if_pos (Int.natCast_nonneg _)]
  rfl
 show(if ZdI (-1) then(idxOf ds.length (-1)).bind λk=>ds[k]? else none)=_
 rw[if_pos (by decide),e1,Option.bind_some,←List.getLast?_eq_getElem?]
 exact h
theorem Zra(G:Gr F.base mg mb F.Gd)(H:Fs F){i c:Nat}:S1 prog w F Γ fn n N (.augL i c):=by
 intro e K ad σ A s E Q fl σ' hm L f hv k
 revert k
 refine Zac (show(ownOf σ i).bind _=_ from hv) λds hds hv=>Zac hv λd hd hv=>Zac hv λd' hd' hv=>ifS hv λhl hv=>ZbI hv λk=>?_
 refine ZoI (show Zss _ e=true from hm) λt op v p hm=>Zd2 hm λm0 m3 hm=>eqb m0 (Zge hm λo ke tp hm=>Zbg hm λm1 m2=>?_)
 refine wpAny_AugAssign_SubscriptAny (f.ZkB H hds m1 λus hp hr hz=>Zlz m2 f.ok.tk λt tk ht=>?_) λov iv new=>Zfg (show Zl3 _ _ ke=true from m2) λ_ _ _=>rfl
 have g₁:Gw s { s with toks:=tk }:=.tok ..
 have f₁:=f.grow g₁ ⟨f.ok.gd,ht⟩
 refine Zs0 (s:={ s with toks:=tk }) f₁.ok (.own (P:=Pq F K ad σ) hp hr hz) (.of (.int (-1) t)) (Zi2 hd) λold s₂ g₂ o₂ r₂=>Zbm m3 ?_
 have f₂:=f₁.grow g₂ o₂
 have g₃:Gw s₂ { s₂ with toks:=s₂.toks+1 }:=.tok ..
 have f₃:=f₂.grow g₃ ⟨f₂.ok.gd,Nat.le_succ_of_le f₂.ok.tk⟩
 refine ZsW (op:=.add) (P:=Pq F K ad σ) f₃.ok r₂ (.str [c] _ (Nat.le_of_ble_eq_true rfl)) hd' λnew s₄ g₄ o₄ r₄=>?_
 obtain⟨us,hp₁,hr₁,hz₁⟩:=(f₃.grow g₄ o₄).Zrz hds
 have q:=ZiH (ZiP hd) hr₁.length
 refine ki_setBack hp₁.choose_spec (by decide) q.2 (by decide) ?_
 erw[rwl (show((-1:Int)+(us.toArray.size:Nat)).toNat=ds.length - 1 from congrArg Int.toNat q.1 ..) ?_]
 exact k.own (((g₁.stp.trans g₂.stp).trans g₃.stp).trans g₄.stp) ((f₃.grow g₄ o₄).Zgh G H hds (Heap.SameBut.update ..).extBut (Zpa hp₁) (hr₁.set _ r₄) hl)
theorem Zi9{lp:Pos}{env:Env}{Q:Value->Shared->Prop}(h:Q (.ref s.heap.objs.size) { s with heap:=s.heap.push { cls:=.type "list",data:=.seq #[] } }):wpAny (model prog w) A (eval (.List [] lp) env) Q E s:=
 wpAny_List_spliced (by erw[rwl (Zam ..) (rwl (Zay ..) ?_)];exact Calls.spliced_nil ⟨Nat.zero_le _,h⟩)
theorem ZqH{n:Nat}{dss:List (List D)}{pre:List (List D)}{l:List D}(d:dss=pre++[l])(h:n=(pre.map D.list).length)(hl:pre.length+1<=sizeLine):n+1<=sizeLine:=by erw[rwl (h ..) (rwl (List.length_map ..) ?_)];exact hl
theorem Fm.nK(f:Fm F K ad σ s){a:Addr}(h:s.heap.get? a=none) : ¬K a:=λz=>let ⟨_,_,_,_,_,_,_,e⟩:=f.kx a z;nn (h.symm.trans e)
theorem ZqU(G:Gr F.base mg mb F.Gd)(H:Fs F){i:Nat}:S1 prog w F Γ fn n N (.new2 i):=by
 intro e K ad σ A s E Q fl σ' hm L f hv k
 revert k
 refine Zac (show(Zdl σ i).bind _=_ from hv) λds hds hv=>ifS hv λhl hv=>ZbI hv λk=>?_
 have hds:=Zfx hds
 refine Zlq (show qES _ e=true from hm) λv p hm=>Zby hm λo ap as pos m2 m3 hm=>ZfN hm λa' hm=>Zbg hm λm1 hm=>Zd7 hm λes lp hm=>ZcD hm ?_
 refine Zdw H m2 m3 rfl (f.look H hds Slot.noConfusion m1 λv hv=>?_)
 obtain⟨ev,vs,ws,pre,l,d,e0,r0,_,_,l0,_⟩:=hv
 refine⟨_,_,ev,ZmE e0,Zi9 ?_⟩
 have hA:=Zau s.heap
 have kk:∀b ob,s.heap.get? b=some ob->(s.heap.push { cls:=.type "list",data:=.seq #[] }).get? b=some ob:=λ_ _ e=>Heap.get?_push_of_some _ e
 have hpa:(s.heap.push { cls:=.type "list",data:=.seq #[] }).PlainList s.heap.objs.size ([]:List Value).toArray:=⟨0,Heap.get?_push_size _ rfl⟩
 have f₁:=f.Zpj (s':={ s with heap:=s.heap.push { cls:=.type "list",data:=.seq #[] } }) (.of_keep (tk:=s.toks) kk) ⟨G.keeps f.ok.gd kk,f.ok.tk⟩ hA (G.fresh f.ok.gd hA) (let ⟨o,e,m,n⟩:=Mut.plain hpa;⟨o,m,n,e⟩)
 generalize s.heap.objs.size=a at *
 have e0k:=Zbo e0 (.of kk)
 have hn:=r0.length
 refine wpAny_list_append_plain e0k (λh' hp' hs=>?_) (by erw[rwl (List.size_toArray ..) (rwl (List.length_append ..) ?_)];exact ZqH d hn l0)
 have hs2:=hs.extBut
 rw[List.push_toArray] at hp'
 refine k _ _ (f₁.Zv0 (tk:=s.toks) G H (f.nK hA) hds hpa hs2 f.ok.tk e0k hp' (Nat.le_trans (Nat.le_of_eq (List.length_append (bs:=[[]])).symm) hl.1)) ⟨λb o n z e=>hs2 b o (λq=>z (.inr (.inr ⟨i,false,⟨_,hds,trivial⟩,q⟩))) (kk b o e),λb o e=>?_,λb o e z=>?_⟩
 ·by_cases q:b=ad i false
  ·erw[rwl (q ..) ?_];exact⟨_,hp'.choose_spec⟩
  ·exact⟨o,hs2 b o q (kk b o e)⟩
 ·rcases z with z | z | ⟨j,c,z,q⟩
  ·exact .inl z
  ·exact .inr (.inl z)
  ·replace q:b=(if j=i∧c=true then a else ad j c):=q
   by_cases q2:j=i∧c=true
   ·rw[if_pos q2] at q;rw[q,hA] at e;exact nn e
   ·rw[if_neg q2] at q
    rcases ZbH z with⟨q3,_⟩ | ⟨_,z⟩
    ·exact .inr (.inr ⟨i,c,⟨_,hds,trivial⟩,q3▸q⟩)
    ·exact .inr (.inr ⟨j,c,z,q⟩)
theorem ZiU{α:Type}{l pre:List α}{x y:α}(e:l=pre++[y])(h:l.getLast? = some x):l.dropLast=pre∧y=x:=by
 rw[e,List.getLast?_concat] at h
 erw[rwl (e ..) (rwl (List.dropLast_concat ..) ?_)]
 exact⟨rfl,Option.some.inj h⟩
noncomputable def ZvG(F:Fp)(K:Addr->Prop)(ad:Nat->Bool->Addr)(σ:Sg)(i:Nat)(h:Heap)(dss:List (List D))(l:List D)(vs ws:List Value):Prop:=dss=dss.dropLast++[l]∧h.PlainList (ad i false) (vs++[Value.ref (ad i true)]).toArray∧h.PlainList (ad i true) ws.toArray∧Zad (Pq F K ad σ) h ws l∧l.length<=sizeLine
theorem Zlc{i:Nat}{h:Heap}{dss:List (List D)}{l:List D}{v:Value}(x:Za1.View (Pq F K ad σ) ad i h v (.own2 dss))(hl:dss.getLast? = some l):v=.ref (ad i false)∧∃vs ws,ZvG F K ad σ i h dss l vs ws:=by
 obtain⟨ev,vs,ws,pre,l',d,e0,r0,e1,r1,l0,l1⟩:=x
 obtain⟨q1,q2⟩:=ZiU d hl
 rw[q2] at r1 l1 d
 exact⟨ev,vs,ws,q1.symm▸d,e0,e1,r1,l1⟩
theorem Zjj{vs:List Value}{v:Value} : -((vs++[v]).toArray.size:Int)<=-1∧(vs++[v]).toArray[(-1+((vs++[v]).toArray.size:Int)).toNat]? = some v:=by
 have e:((vs++[v]).toArray.size:Int)=(vs.length:Int)+1:=congrArg Int.ofNat (List.length_append (bs:=[v]))
 rw[e,show(-1+((vs.length:Int)+1))=vs.length by lia]
 exact⟨by lia,(List.getElem?_toArray ..).trans List.getElem?_concat_length⟩
theorem ZqS(G:Gr F.base mg mb F.Gd)(H:Fs F){i:Nat}{x:X}(a:All prog w F.base F.Gd Γ F.nm fn n x):S1 prog w F Γ fn n N (.lst2 i x):=by
 intro e K ad σ A s E Q fl σ' hm L f hv k
 revert k
 refine Zac (show(Zdl σ i).bind _=_ from hv) λdss hds hv=>Zac hv λd hd hv=>Zac hv λl hlast hv=>ifS hv λhl hv=>ZbI hv λk=>?_
 have hds:=Zfx hds
 refine Zlq (show qES _ e=true from hm) λv p hm=>Zby hm λq ap as pos mc m4 hm=>ZfN hm λea hm=>Zi6 hm λmq m5 m6 m7=>Zdw H mc m4 m5 (Zge mq λo ke kp mq=>Zbg mq λm1 m2=>Subscript_ (f.look H hds Slot.noConfusion m1 λv hv=>?_))
 obtain⟨ev,vs,ws,d0,e0,e0',r0',l0'⟩:=Zlc hv hlast
 erw[rwl (ev ..) ?_]
 refine Zlz m2 f.ok.tk λt tk ht=>?_
 have g₁:Gw s { s with toks:=tk }:=.tok ..
 have f₁:=f.grow g₁ ⟨f.ok.gd,ht⟩
 refine tail_any (T := "list") e0.isList.typeIs slot_list_getitem.lookup (wpAny_getItem_list_neg (x:=.ref (ad i true)) e0.isList (by decide) Zjj.1 (by decide) Zjj.2 ?_) (ZdP (Zkp m2))
 refine⟨_,_,rfl,ZmE e0',ZdV H a m7 m6 L f₁ hd λv s₂ f₂ g₂ r=>?_⟩
 obtain⟨_,_,_,_,hr₂⟩:=f₂.vs i _ hds Slot.noConfusion
 obtain⟨_,vs2,ws2,d2,_,e2,r2,l2⟩:=Zlc hr₂.view hlast
 refine wpAny_list_append_plain e2 (λh' hp' hs=>?_) (Nat.le_trans (Nat.le_of_eq r2.length) l2)
 have hs2:=hs.extBut
 rw[List.push_toArray] at hp'
 have hl2:=hl.2
 rw[List.getLast?_concat] at hl2
 exact k ad _ (f₂.Zv2 (tk:=s₂.toks) G H (d2▸hds) hs2 f₂.ok.tk hp' (r2.snoc r) hl2) ((g₁.stp.trans g₂.stp).trans (.own (a:=ad i true) (.inr (.inr ⟨i,true,⟨_,hds,trivial⟩,rfl⟩)) hs2 ⟨_,hp'.choose_spec⟩ λb z=>Zo5 (sl':=.own2 (dss.dropLast++[l++[d]])) hds (λ_ _=>trivial) z))
end
end
section
set_option maxRecDepth 100000
theorem Zmu:PySem.Slot "method_descriptor" "__get__" "method_descriptor.__get__" :=
 .of (owner := "method_descriptor") (n := "__get__") (by erw[rwl (typeLookup_type ..) (rwl (builtinLookup_eq_fast ..) ?_)];kernel_rfl) (by decide +kernel) (by decide +kernel) (by decide +kernel)
  (by first | exact .inl (by decide +kernel) | exact .inr (by decide +kernel)) (by erw[rwl (isSubtype_type ..) ?_];kernel_rfl)
theorem Znb:entryFor table "method_descriptor.__get__" = some Builtin.«method_descriptor.__get__» := entryFor_of_tree (by kernel_rfl)
theorem ZqP(a b c:Value):argsOk "method_descriptor.__get__" ⟨[a,b,c],[]⟩:=by unfold argsOk;kernel_rfl
theorem ZsQ:typeLookup (.type "method_descriptor") "__set__" = pure none:=by erw[rwl (typeLookup_type ..) (rwl (builtinLookup_eq_fast ..) ?_)];kernel_rfl
theorem Zty:typeLookup (.type "method_descriptor") "__delete__" = pure none:=by erw[rwl (typeLookup_type ..) (rwl (builtinLookup_eq_fast ..) ?_)];kernel_rfl
theorem Zhd:(".".intercalate ("list.append".cutAt '.').dropLast) = "list" := by
 have e0 : "list.append".cutAt '.'=["list","append"]:=by first | rfl | decide +kernel
 erw[rwl (e0 ..) ?_];decide +kernel
theorem ZeH:isSubtype (.type "list") (.type (".".intercalate ("list.append".cutAt '.').dropLast))=pure true:=by
 erw[rwl (Zhd ..) (rwl (isSubtype_type ..) ?_)];kernel_rfl
section
variable {prog:Program}{w:World}{A:Around}{E:Value->Shared->Prop}{h:Heap}{g:Array GenState}{d:Drawn}{t:Nat}{os:OsState}{a:Addr}{xs:Array Value}{k:Nat}
theorem ZpW{R:Result->Shared->Prop}(hx:h.get? a=some { cls:=.type "list",data:=.seq xs k })(hq:R (.ok (.ret (.ref h.objs.size))) ⟨h.push (Zb9 a),g,d,t,os⟩) :
  codeAny (model prog w) A (.call (.builtin "method_descriptor.__get__") ⟨[.builtin "list.append",.ref a,.type "list"],[]⟩) R ⟨h,g,d,t,os⟩:=by
 have hT:(⟨h,g,d,t,os⟩:Shared).TypeIs (.ref a) "list" := ⟨_,hx,rfl⟩
 have hT5:(⟨h,g,d,t,os⟩:Shared).TypeIs (.builtin "list.append") "method_descriptor" := PySem.F.type_list_append
 have f9:=ZeH
 refine codeAny_call_builtin Zmu.plain Znb (Zmu.check _ _ _ _ _ _ _ _ hT5 (ZqP _ _ _) ?_)
 unfold Builtin.«method_descriptor.__get__»
 repeat (any_goals (first | assumption | wp_step))
theorem Zlx{tk:Tok}{Q:Fin->Shared->Prop}(hx:h.get? a=some { cls:=.type "list",data:=.seq xs k })(hq:Q (.done (.ret (.ref h.objs.size))) ⟨h.push (Zb9 a),g,d,t,os⟩) :
  wpAny (model prog w) A (Builtin.«object.__getattribute__» ⟨[.ref a,.str "append" tk],[]⟩) Q E ⟨h,g,d,t,os⟩:=by
 have hT:(⟨h,g,d,t,os⟩:Shared).TypeIs (.ref a) "list" := ⟨_,hx,rfl⟩
 have hT5:(⟨h,g,d,t,os⟩:Shared).TypeIs (.builtin "list.append") "method_descriptor" := PySem.F.type_list_append
 have f4:=PySem.F.slot_list_append.lookup
 have f5:=PySem.F.type_list_append
 have f6:=Zmu.lookup
 have f7:=ZsQ
 have f8:=Zty
 unfold Builtin.«object.__getattribute__»
 repeat (any_goals (first | assumption | wp_step))
 refine ZpW hx ?_
 exact wpAny_pure hq
theorem Znp{tk:Tok}{R:Result->Shared->Prop}(hx:h.get? a=some { cls:=.type "list",data:=.seq xs k })(hq:R (.ok (.ret (.ref h.objs.size))) ⟨h.push (Zb9 a),g,d,t,os⟩) :
  codeAny (model prog w) A (.call (.builtin "list.__getattribute__") ⟨[.ref a,.str "append" tk],[]⟩) R ⟨h,g,d,t,os⟩:=
 codeAny_call_builtin PySem.F.slot_list_getattribute.plain PySem.F.entry_list_ga (PySem.F.slot_list_getattribute.check _ _ _ _ _ _ _ _ (show(⟨h,g,d,t,os⟩:Shared).TypeIs (.ref a) "list" from⟨_,hx,rfl⟩) (PySem.F.args_list_getattribute_2 _ _) (Zlx hx hq))
theorem Zod{Q:Value->Shared->Prop}(hx:h.get? a=some { cls:=.type "list",data:=.seq xs k })(hq:Q (.ref h.objs.size) ⟨h.push (Zb9 a),g,d,t+1,os⟩) :
  wpAny (model prog w) A (getAttr (.ref a) "append" true) Q E ⟨h,g,d,t,os⟩:=by
 have hT:∀tk',(⟨h,g,d,tk',os⟩:Shared).TypeIs (.ref a) "list" := λ_=>⟨_,hx,rfl⟩
 have f3:=PySem.F.slot_list_getattribute.lookup
 have f4:=PySem.F.slot_list_getattribute.bind (.ref a)
 unfold getAttr getAttrBy
 repeat (any_goals (first | assumption | exact hT _ | wp_step))
 refine Znp hx ?_
 exact wpAny_pure hq
theorem Ze6:isSubtype (.type "list") (.type "module")=pure false:=by erw[rwl (isSubtype_type ..) ?_];kernel_rfl
theorem Zme{v:Value}{Q:Unit->Shared->Prop}(hx:h.get? a=some { cls:=.type "list",data:=.seq xs k })(hq:Q () ⟨h,g,d,t,os⟩) :
  wpAny (model prog w) A (checkBoundCall "list.append" ⟨[.ref a,v],[]⟩) Q E ⟨h,g,d,t,os⟩:=by
 have hT:(⟨h,g,d,t,os⟩:Shared).TypeIs (.ref a) "list" := ⟨_,hx,rfl⟩
 have f1:=Ze6
 unfold checkBoundCall
 repeat (any_goals (first | assumption | exact hT | wp_step))
theorem ZvC:(Value.type "builtin_function_or_method" == Value.type "method" || Value.type "builtin_function_or_method" == Value.type "builtin_function_or_method" || Value.type "builtin_function_or_method" == Value.type "method-wrapper")=true:=by decide
theorem Zvf:(Value.type "builtin_function_or_method" != Value.type "method")=true:=by decide
theorem Zk7{u:Addr}{v:Value}{R:Result->Shared->Prop}(hu:h.get? u=some (Zb9 a))(hx:h.get? a=some { cls:=.type "list",data:=.seq xs k })(hz:xs.size<=sizeLine)(hq:∀h',h'.PlainList a (xs.push v)->Heap.SameBut a h h'->R (.ok (.ret .none)) ⟨h',g,d,t,os⟩) :
  codeAny (model prog w) A (.call (.ref u) ⟨[v],[]⟩) R ⟨h,g,d,t,os⟩:=by
 refine codeAny_of_tree ?_
 show wpAny _ A.in1 (callAny (.ref u) ⟨[v],[]⟩) _ _ _
 refine wpAny_bind (m:=load u) (wpAny_load hu ?_)
 refine KFB.if_so ZvC (KFB.if_so Zvf ?_)
 refine wpAny_bind (Zme hx ?_)
 refine wpAny_bind (wpAny_pure (wpAny_pure ?_))
 refine⟨Code.quiet_builtin _ (by decide +kernel),codeAny_builtin entry_list_append ?_⟩
 show wpAny _ _ (updateSeq a (·.push v) >>= λ_=>ret .none) _ _ _
 refine wpAny_bind ?_
 refine wpAny_updateSeq hx rfl (wpAny_pure (hq _ ⟨k+1,?_⟩ (Heap.SameBut.update ..)))
 rw[Heap.get?_update_self _ hx (by erw[rwl (Obj.mapSeq_push_plain ..) ?_];rfl),Obj.mapSeq_push_plain]
end
section
variable {M:Model}{A:Around}{E:Value->Shared->Prop}{s:Shared}
theorem ZeJ{pos:Pos}{u b:Addr}{args:List (Bool×Sem Value)}{Q:Value->Shared->Prop}(hplain:args.any (·.1)=false)
  (h:wpAny M A (evalArgs (.ref u) true args []) (λx s₁=>s₁.heap.get? u=some (Zb9 b)∧wpAny M A (call (.ref u) x.pos x.kw) Q E s₁) E s):wpAny M A (callWith pos (.ref u) [] args []) Q E s:=by
 unfold callWith
 refine wpAny_bind (wpAny_holding (wpAny_mono h (λx s₁ h₁=>wpAny_bind (wpAny_standAt ?_)) λ_ _ x=>x))
 obtain⟨ho,hcall⟩:=h₁
 erw[rwl (hplain ..) ?_]
 refine wpAny_bind (m:=keeperOf (.ref u)) (wpAny_bind (m:=load u) (wpAny_load ho ?_))
 refine KFB.if_so Zvf (wpAny_pure ?_)
 exact wpAny_bind (wpAny_mono hcall (λr s₂ hr=>wpAny_bind (wpAny_holding (wpAny_point (wpAny_pure hr)))) λ_ _ x=>x)
end
@[elab_as_elim] theorem ZmJ{nm:List Str}{i:Nat}{e:Expr}{G:Expr->Prop}(k:∀y p,isNm nm i (.Name y p)=true->G (.Name y p))(h:isNm nm i e=true):G e:=
 Zbx (G:=λe=>isNm nm i e=true->G e) (show Zcv _ e=true from h) (λy p _ h=>k y p h) h
section
variable {prog:Program}{w:World}{F:Fp}{K:Addr->Prop}{ad:Nat->Bool->Addr}{σ:Sg}{s:Shared}{mg mb:Str->Option Value}{Γ:ZaC}{fn:Nat->Str}{fa:Nat->Addr}{n N:Nat}{A:Around}{E:Value->Shared->Prop}
theorem Zse(G:Gr F.base mg mb F.Gd)(H:Fs F){j i:Nat}:S1 prog w F Γ fn n N (.bnd j i):=by
 intro e K ad σ A s E Q fl σ' hm L f hv k
 revert k
 refine Zpb (show(ownOf σ i).map _=_ from hv) λds hds k=>?_
 refine ZbU (show ZbZ _ e=true from hm) λt v p hm=>Zbg hm λm1 hm=>ZkO hm λo nn ap hm=>Zbg hm λm3 m2=>eqb m3 (ZfI m1 λy p hy hk=>?_)
 revert m2
 refine ZmJ λz pz m2=>wpAny_Assign_Name (PyProof.Rows.Attribute_name (f.ZkB H hds m2 λvs hp _ _=>Zod (h:=s.heap) (g:=s.gens) (d:=s.drawn) (t:=s.toks) (os:=s.os) hp.choose_spec ?_)) rfl
 have kk:∀b ob,s.heap.get? b=some ob->(s.heap.push (Zb9 (ad i false))).get? b=some ob:=λ_ _ e=>Heap.get?_push_of_some _ e
 have g₁:Gw s { s with heap:=s.heap.push (Zb9 (ad i false)),toks:=s.toks+1 }:=.of_keep kk
 refine Fm.Zh2 (sl:=.app i) G H (λ_ h=>h) (f.grow g₁ ⟨G.keeps f.ok.gd kk,Nat.le_succ_of_le f.ok.tk⟩) hy hk ?_ λh' tk f' t keep=>k ad _ f' (g₁.stp.trans t)
 exact Za1.app (Zmh (sl:=.app i) (λ_ h=>h) ((f.pf H).fresh (Zau s.heap))) (Heap.get?_push_size _ rfl)
theorem ZrV(G:Gr F.base mg mb F.Gd)(H:Fs F){j i:Nat}{x:X}(a:All prog w F.base F.Gd Γ F.nm fn n x):S1 prog w F Γ fn n N (.add j i x):=by
 intro e K ad σ A s E Q fl σ' hm L f hv k
 revert k
 refine ifS (show(if ZiT σ j i then _ else none)=_ from hv) λhj hv=>Zac hv λds hds hv=>Zac hv λd hd hv=>ifS hv λhl hv=>ZbI hv λk=>?_
 refine Zlq (show qES _ e=true from hm) λv p hm=>ZiB hm λg as kw pos hm=>Zd2 hm λm0 m1 hm=>ZcD m0 (ZfN hm λea hm=>Zd2 hm λm4 m5 m6=>?_)
 revert m1
 refine ZmJ λy py m1=>wpAny_Expr_any (wpAny_Call_NameR (f.look H (Zj9 hj) Slot.noConfusion m1 λv hv=>?_)) (Ze7 H) rfl
 obtain⟨g,ev,pg,hg⟩:=hv
 erw[rwl (ev ..) (rwl (Zab m4 ..) (rwl (Zah ..) (rwl (Zam ..) (rwl (Zay ..) ?_))))]
 refine ZeJ (b:=ad i false) rfl (Calls.evalArgs_plain (Calls.spliced_cons (ZdV H a m6 m5 L f hd λv s₁ f₁ g₁ r=>Calls.spliced_nil ⟨g₁.kp _ _ (.ZaD rfl) hg,?_⟩)))
 obtain⟨vs,hp₁,hr₁,hz₁⟩:=f₁.Zrz hds
 exact wpAny_call (Zk7 (h:=s₁.heap) (g:=s₁.gens) (d:=s₁.drawn) (t:=s₁.toks) (os:=s₁.os) (g₁.kp _ _ (.ZaD rfl) hg) hp₁.choose_spec (Nat.le_trans (Nat.le_of_eq hr₁.length) hz₁) λh' hp' hs=>k.own g₁.stp (f₁.Zgh G H (vs':=vs++[v]) hds hs.extBut (List.push_toArray ..▸hp') (hr₁.snoc r) hl))
end
end
section
section
variable {prog:Program}{w:World}{F:Fp}{K:Addr->Prop}{ad:Nat->Bool->Addr}{σ:Sg}{s:Shared}{mg mb:Str->Option Value}{Γ:ZaC}{fn:Nat->Str}{fa:Nat->Addr}{n N:Nat}{A:Around}{E:Value->Shared->Prop}
theorem Fm.Zrp(G:Gr F.base mg mb F.Gd)(H:Fs F)(f:Fm F K ad σ s){s₁ s₂:Shared}(g₁:Gw s s₁)(o₁:Ok F.Gd s₁)(g₂:Gw s₁ s₂)(o₂:Ok F.Gd s₂){i:Nat}{y:Str}{a c:Addr}{Q:Unit->Shared->Prop}(hn:Zgn i σ=true)(hc:s.heap.get? c=none)(hpc:s₁.heap.PlainList c ([]:List Value).toArray)
  (ha:s₁.heap.get? a=none) (hpa:s₂.heap.PlainList a ([Value.ref c]:List Value).toArray) (hy:F.nm[i]? = some y) (hk:F.sc.names.lookup y=some .local∨F.sc.names.lookup y=some .cell)
  (k:∀ad' s',Fm F K ad' (σ.set i (.own2 [[]])) s'->Stp (Pv F ad σ) (Pv F ad' (σ.set i (.own2 [[]]))) s.heap s'.heap->Q () s'):wpAny (model prog w) A (storeName F.env y (.ref a)) Q E s₂:=by
 have hpc2:=Zbo hpc g₂.kp
 have f₂:=(f.Zpj g₁ o₁ hc (G.fresh f.ok.gd hc) (let ⟨o,e,m,n⟩:=Mut.plain hpc;⟨o,m,n,e⟩)).Zpj g₂ o₂ ha (G.fresh o₁.gd ha) (let ⟨o,e,m,n⟩:=Mut.plain hpa;⟨o,m,n,e⟩)
 have hac:c≠a:=λq=>nn ((q▸ha).symm.trans hpc.choose_spec)
 have hsa:s.heap.get? a=none:=g₁.none ha
 let ad':Nat->Bool->Addr:=λj b=>if j=i then(if b=true then c else a) else ad j b
 have hne:∀j b,j≠i->ad' j b=ad j b:=λj b q=>if_neg q
 have hif:ad' i false=a:=(if_pos rfl).trans (if_neg Bool.noConfusion)
 have hit:ad' i true=c:=(if_pos rfl).trans (if_pos rfl)
 have pv:∀b o,s.heap.get? b=some o->Pv F ad' (σ.set i (.own2 [[]])) b->Pv F ad σ b:=λb o e z=>by
  rcases z with z | z | ⟨j,b',z,q⟩
  ·exact .inl z
  ·exact .inr (.inl z)
  ·rcases ZbH z with⟨q3,_⟩ | ⟨q2,z⟩
   ·rw[q3] at q
    cases b' with
    | true=>rw[hit] at q;rw[q,hc] at e;exact nn e
    | false=>rw[hif] at q;rw[q,hsa] at e;exact nn e
   ·exact .inr (.inr ⟨j,b',z,q.trans (hne j b' q2)⟩)
 refine Fm.store (K:=K) (sl:=.own2 [[]]) G H (f₂.prep (i:=i) (ad':=ad') hne (.inl hn)) (i:=i) (λb=>⟨?_,?_⟩) (λb _=>?_) (λ_=>by erw[rwl (hif ..) (rwl (hit ..) ?_)];exact hac) hy hk ?_ λh' tk f₄ h1 h2=>?_
 ·rintro((h | h) | h)
  ·exact .inl h
  ·exact .inr ⟨true,trivial,h.trans hit.symm⟩
  ·exact .inr ⟨false,trivial,h.trans hif.symm⟩
 ·rintro(h | ⟨b',_,q⟩)
  ·exact .inl (.inl h)
  ·cases b' with
   | true=>exact .inl (.inr (q.trans hit))
   | false=>exact .inr (q.trans hif)
 ·cases b with
  | true=>erw[rwl (hit ..) ?_];exact⟨f.nK hc,_,hpc2⟩
  | false=>erw[rwl (hif ..) ?_];exact⟨f.nK hsa,_,hpa⟩
 ·erw[rwl (List.set_set ..) ?_]
  have:=Za1.own2 (P:=Pq F K ad' (σ.set i (.own2 [[]]))) (ad:=ad') (i:=i) (h:=s₂.heap) (dss:=[[]]) (pre:=[]) (l:=[]) (vs:=[]) (ws:=[]) rfl (by erw[rwl (hif ..) (rwl (hit ..) ?_)];exact hpa) .nil (by erw[rwl (hit ..) ?_];exact hpc2) .nil (Nat.le_of_ble_eq_true rfl) (Nat.zero_le _)
  rwa [hif] at this
 ·rw[List.set_set] at f₄
  have g₃:=g₁.trans g₂
  exact k ad' _ f₄ ⟨λb o n z e=>h1 b (λq=>z (.inl q)) (λn c hc q=>z (.inr (.inl ⟨n,q▸hc⟩))) o (g₃.kp b o n e),λb o e=>let ⟨o',e'⟩:=g₃.ex b o e;h2 b o' e',pv⟩
theorem Zoy(G:Gr F.base mg mb F.Gd)(H:Fs F){i:Nat}:S1 prog w F Γ fn n N (.asgO2 i):=by
 intro e K ad σ A s E Q fl σ' hm L f hv k
 revert k
 refine ifS (show(if Zgn i σ then _ else none)=_ from hv) λhn hv=>ZbI hv λk=>?_
 refine ZbU (show ZbZ _ e=true from hm) λt v p hm=>Zbg hm λm1 hm=>Zd7 hm λes lp hm=>ZfN hm λz hm=>Zd7 hm λzs zp hm=>ZcD hm (ZfI m1 λy p hy hk=>?_)
 refine wpAny_Assign_Name (wpAny_List_spliced (Calls.spliced_cons (Zi9 (Calls.spliced_nil ⟨Nat.le_of_ble_eq_true rfl,?_⟩)))) rfl
 have kk1:∀b ob,s.heap.get? b=some ob->(s.heap.push { cls:=.type "list",data:=.seq #[] }).get? b=some ob:=λ_ _ e=>Heap.get?_push_of_some _ e
 have g₁:Gw s { s with heap:=s.heap.push { cls:=.type "list",data:=.seq #[] } }:=.of_keep (tk:=s.toks) kk1
 have o₁:Ok F.Gd { s with heap:=s.heap.push { cls:=.type "list",data:=.seq #[] } }:=⟨G.keeps f.ok.gd kk1,f.ok.tk⟩
 have kk2:∀b ob,(s.heap.push { cls:=.type "list",data:=.seq #[] }).get? b=some ob->((s.heap.push { cls:=.type "list",data:=.seq #[] }).push { cls:=.type "list",data:=.seq ([Value.ref s.heap.objs.size]:List Value).toArray }).get? b=some ob:=λ_ _ e=>Heap.get?_push_of_some _ e
 exact f.Zrp G H g₁ o₁ (.of_keep (tk:=s.toks) kk2) ⟨G.keeps o₁.gd kk2,f.ok.tk⟩ hn (Zau _) ⟨0,Heap.get?_push_size _ rfl⟩ (Zau _) ⟨0,Heap.get?_push_size _ rfl⟩ hy hk λad' s' f' t=>k ad' s' f' t
theorem Zjr{st:S}(h:∀e,ms1 F.nm fn F.sc st e=false):S1 prog w F Γ fn n N st:=by
 intro e K ad σ A s E Q fl σ' hm L f hv k
 exact nf ((h _).symm.trans hm)
theorem Zat{st:S}(h:∀e,ms F.nm fn F.sc st e=false):SS prog w F Γ fn n N st:=by
 intro e K ad σ A s E Q fl σ' hm L f hv k
 exact nf ((h _).symm.trans hm)
theorem Zo8{y:X}{i:Nat}(hy:∀(elt:Expr) gens scope pos,mt F.nm fn F.sc true y (.ListComp elt gens scope pos)=false):S1 prog w F Γ fn n N (.asgC i y):=by
 intro e K ad σ A s E Q fl σ' hm L f hv k
 refine ZbU (show ZbZ _ e=true from hm) λt v p hm=>Zd2 hm λm1 m2 m3=>Zbx (show Zcv _ t=true from m3) λz pz m3=>?_
 exact(Zgm (G:=λv=>mt F.nm fn F.sc true y v=true->False) m3 λ_ _ _ _ _ q=>nf ((hy ..).symm.trans q)) m2 |>.elim
theorem ZnY(G:Gr F.base mg mb F.Gd)(H:Fs F)(C:Zak prog w F.Gd mg Γ fn fa n){i:Nat}(x:X):S1 prog w F Γ fn n N (.asgC i x):=by
 cases x with
 | comp fr t e it c=>exact ZqT G H (ZaI G C e) (ZaI G C it) (ZaI G C c)
 | const d=>exact Zo8 λ_ _ _ _=>by cases d<;>rfl
 | _=>exact Zo8 λ_ _ _ _=>rfl
theorem Zju(G:Gr F.base mg mb F.Gd)(H:Fs F)(C:Zak prog w F.Gd mg Γ fn fa n){xs:List (Nat×Nat×Bool)}(hJ:∀i sep t e it gl gc,(gl,gc,true)∈xs->S1 prog w F Γ fn n N (.asgJ i sep t e it gl gc))(hR:∀i x gl gc,(gl,gc,false)∈xs->S1 prog w F Γ fn n N (.asgR i x gl gc))
  (st:S) (hst:st.Zcw xs=true):S1 prog w F Γ fn n N st∧SS prog w F Γ fn n N st:=by
 induction st with
 | skip=>exact⟨Zjr λ_=>rfl,ZpT⟩
 | seq a b ha hb=>
  have hst:=show(a.Zcw xs&&b.Zcw xs)=true from hst
  have ha:=ha (Zbu hst)
  have hb:=hb (Za6 hst)
  exact⟨Zjr λ_=>rfl,ZrK ha.1 hb.2⟩
 | asg i x=>exact⟨ZsI G H (ZaI G C x),Zat λ_=>rfl⟩
 | asgC i x=>exact⟨ZnY G H C x,Zat λ_=>rfl⟩
 | asgJ i sep t e it gl gc=>exact⟨hJ _ _ _ _ _ _ _ (List.contains_iff_mem.mp (show xs.contains _=true from hst)),Zat λ_=>rfl⟩
 | asgR i x gl gc=>exact⟨hR _ _ _ _ (List.contains_iff_mem.mp (show xs.contains _=true from hst)),Zat λ_=>rfl⟩
 | asgO i xs=>exact⟨Zq5 G H (ZaI G C xs),Zat λ_=>rfl⟩
 | asgO2 i=>exact⟨Zoy G H,Zat λ_=>rfl⟩
 | bnd j i=>exact⟨Zse G H,Zat λ_=>rfl⟩
 | unp is x=>exact⟨ZrT G H (ZaI G C x),Zat λ_=>rfl⟩
 | unpS is xs=>exact⟨Zqg G H (ZaI G C xs),Zat λ_=>rfl⟩
 | aug i op x=>exact⟨Zr4 G H (ZaI G C x),Zat λ_=>rfl⟩
 | app i x=>exact⟨ZsD G H (ZaI G C x),Zat λ_=>rfl⟩
 | add j i x=>exact⟨ZrV G H (ZaI G C x),Zat λ_=>rfl⟩
 | new2 i=>exact⟨ZqU G H,Zat λ_=>rfl⟩
 | lst2 i x=>exact⟨ZqS G H (ZaI G C x),Zat λ_=>rfl⟩
 | ext i xs=>exact⟨Zsp G H (ZaI G C xs),Zat λ_=>rfl⟩
 | setI i k v=>exact⟨Zre G H (ZaI G C k) (ZaI G C v),Zat λ_=>rfl⟩
 | delI i k=>exact⟨Zq3 G H (ZaI G C k),Zat λ_=>rfl⟩
 | augL i c=>exact⟨Zra G H,Zat λ_=>rfl⟩
 | ifs t a b ha hb=>
  have hst:=show(a.Zcw xs&&b.Zcw xs)=true from hst
  have ha:=ha (Zbu hst)
  have hb:=hb (Za6 hst)
  exact⟨ZtI H (ZaI G C t) ha.2 hb.2,Zat λ_=>rfl⟩
 | whl t b hb=>
  have hb:=hb hst
  exact⟨Zsz H (ZaI G C t) hb.2,Zat λ_=>rfl⟩
 | fors i it b hb=>
  have hb:=hb hst
  exact⟨ZpD G H (ZaI G C it) hb.2,Zat λ_=>rfl⟩
 | ret x=>exact⟨Ztr H (ZaI G C x),Zat λ_=>rfl⟩
 | brk=>exact⟨ZsZ,Zat λ_=>rfl⟩
 | asr t=>exact⟨ZtG H (ZaI G C t),Zat λ_=>rfl⟩
end
end
section
theorem Zd9:∀(names:List (Str×NameKind)) (k:Nat) (acc:List (Str×Addr)) (n:Str),(acc.lookup n).isSome->((cellsFrom k names acc).lookup n).isSome
 | [],_,_,_,h=>h
 | (m,kd)::r,k,acc,n,h=>by
  unfold cellsFrom
  split
  ·refine Zd9 r _ _ n ?_
   erw[rwl (List.lookup_cons ..) ?_]
   split
   ·rfl
   ·exact h
  ·exact Zd9 r _ _ n h
theorem Zc9:∀(names:List (Str×NameKind)) (k:Nat) (acc:List (Str×Addr)) (n:Str),(n,NameKind.cell)∈names->((cellsFrom k names acc).lookup n).isSome
 | (m,kd)::r,k,acc,n,h=>by
  unfold cellsFrom
  rcases List.mem_cons.mp h with e | h
  ·cases e
   rw[if_pos (by rfl)]
   exact Zd9 r _ _ _ (by erw[rwl (List.lookup_cons ..) (rwl (beq_self_eq_true ..) ?_)];rfl)
  ·split
   ·exact Zc9 r _ _ n h
   ·exact Zc9 r _ _ n h
noncomputable def Ze3(m:Nat)(ds:List D):Sg:=ds.map .fz++List.replicate (m - ds.length) .un
noncomputable abbrev Zbi(Gd:Heap->Prop)(fd:FuncData)(o:Obj)(a:Addr)(body:List Stmt)(ps:List Str):Prop:=(∀h,Gd h->h.get? a=some o)∧(o.data=.func fd)∧(∀h,Gd h->h.CodeRec fd.code fd.qualname)∧(fd.body=.stmts body)∧(fd.closure=[])∧(fd.globals=mainGlobals)∧(fd.builtins=builtinsNs)∧(∀vals:List Value,vals.length=ps.length->bindArgs fd ⟨vals,[]⟩=pure (ps.zip vals))∧(fd.scope.isCoroutine=false)∧(fd.scope.isGenerator=false)∧(fd.scope.kind=.function)∧(∀p∈ps,fd.scope.names.lookup p=some .local∨fd.scope.names.lookup p=some .cell)
theorem Zbi.ob{Gd:Heap->Prop}{fd:FuncData}{o:Obj}{a:Addr}{body:List Stmt}{ps:List Str}(slf:Zbi Gd fd o a body ps):∀h,Gd h->h.get? a=some o:=slf.1
theorem Zbi.da{Gd:Heap->Prop}{fd:FuncData}{o:Obj}{a:Addr}{body:List Stmt}{ps:List Str}(slf:Zbi Gd fd o a body ps):o.data=.func fd:=slf.2.1
theorem Zbi.cr{Gd:Heap->Prop}{fd:FuncData}{o:Obj}{a:Addr}{body:List Stmt}{ps:List Str}(slf:Zbi Gd fd o a body ps):∀h,Gd h->h.CodeRec fd.code fd.qualname:=slf.2.2.1
theorem Zbi.bo{Gd:Heap->Prop}{fd:FuncData}{o:Obj}{a:Addr}{body:List Stmt}{ps:List Str}(slf:Zbi Gd fd o a body ps):fd.body=.stmts body:=slf.2.2.2.1
theorem Zbi.cl{Gd:Heap->Prop}{fd:FuncData}{o:Obj}{a:Addr}{body:List Stmt}{ps:List Str}(slf:Zbi Gd fd o a body ps):fd.closure=[]:=slf.2.2.2.2.1
theorem Zbi.gl{Gd:Heap->Prop}{fd:FuncData}{o:Obj}{a:Addr}{body:List Stmt}{ps:List Str}(slf:Zbi Gd fd o a body ps):fd.globals=mainGlobals:=slf.2.2.2.2.2.1
theorem Zbi.bu{Gd:Heap->Prop}{fd:FuncData}{o:Obj}{a:Addr}{body:List Stmt}{ps:List Str}(slf:Zbi Gd fd o a body ps):fd.builtins=builtinsNs:=slf.2.2.2.2.2.2.1
theorem Zbi.bi{Gd:Heap->Prop}{fd:FuncData}{o:Obj}{a:Addr}{body:List Stmt}{ps:List Str}(slf:Zbi Gd fd o a body ps):∀vals:List Value,vals.length=ps.length->bindArgs fd ⟨vals,[]⟩=pure (ps.zip vals):=slf.2.2.2.2.2.2.2.1
theorem Zbi.co{Gd:Heap->Prop}{fd:FuncData}{o:Obj}{a:Addr}{body:List Stmt}{ps:List Str}(slf:Zbi Gd fd o a body ps):fd.scope.isCoroutine=false:=slf.2.2.2.2.2.2.2.2.1
theorem Zbi.gen{Gd:Heap->Prop}{fd:FuncData}{o:Obj}{a:Addr}{body:List Stmt}{ps:List Str}(slf:Zbi Gd fd o a body ps):fd.scope.isGenerator=false:=slf.2.2.2.2.2.2.2.2.2.1
theorem Zbi.kd{Gd:Heap->Prop}{fd:FuncData}{o:Obj}{a:Addr}{body:List Stmt}{ps:List Str}(slf:Zbi Gd fd o a body ps):fd.scope.kind=.function:=slf.2.2.2.2.2.2.2.2.2.2.1
theorem Zbi.ks{Gd:Heap->Prop}{fd:FuncData}{o:Obj}{a:Addr}{body:List Stmt}{ps:List Str}(slf:Zbi Gd fd o a body ps):∀p∈ps,fd.scope.names.lookup p=some .local∨fd.scope.names.lookup p=some .cell:=slf.2.2.2.2.2.2.2.2.2.2.2
theorem Zi8(kf:Str->Option NameKind):∀(b:List (Str×Value)) (m:Str->Option Value) (n:Str),(∀y∈b,y.1≠n)->bindL kf b m n=m n
 | [],_,_,_=>rfl
 | (k,v)::r,m,n,h=>by
  have hk:=h (k,v) List.mem_cons_self
  unfold bindL
  rw[Zi8 kf r _ n λy hy=>h y (List.mem_cons_of_mem _ hy)]
  split
  ·exact if_neg (Ne.symm hk)
  ·rfl
theorem ZjS(kf:Str->Option NameKind):∀(b:List (Str×Value)) (m:Str->Option Value) (n:Str),(∀y∈b,y.1≠n)->bindC kf b m n=m n
 | [],_,_,_=>rfl
 | (k,v)::r,m,n,h=>by
  have hk:=h (k,v) List.mem_cons_self
  unfold bindC
  rw[ZjS kf r _ n λy hy=>h y (List.mem_cons_of_mem _ hy)]
  split
  ·rfl
  ·exact if_neg (Ne.symm hk)
theorem Zi0(kf:Str->Option NameKind):∀(ps:List Str) (vs:List Value) (m cm:Str->Option Value) (i:Nat) (n:Str) (v:Value),ps.Nodup->ps[i]? = some n->vs[i]? = some v->
  (kf n=some .local->bindL kf (ps.zip vs) m n=some v)∧(kf n≠some .local->bindC kf (ps.zip vs) cm n=some v)
 | p::ps,u::vs,m,cm,0,n,v,hd,h1,h2=>by
  simp at h1 h2
  subst h1 h2
  have hn:∀y∈ps.zip vs,y.1≠p:=λy hy e=>by
   have:=List.of_mem_zip hy
   rw[e] at this
   exact(List.nodup_cons.mp hd).1 this.1
  constructor
  ·intro hk
   show bindL kf (ps.zip vs) _ p=_
   rw[Zi8 kf _ _ _ hn,if_pos hk,if_pos rfl]
  ·intro hk
   show bindC kf (ps.zip vs) _ p=_
   rw[ZjS kf _ _ _ hn,if_neg hk,if_pos rfl]
 | p::ps,u::vs,m,cm,i+1,n,v,hd,h1,h2=>Zi0 kf ps vs _ _ i n v (List.nodup_cons.mp hd).2 (by simpa using h1) (by simpa using h2)
 | [],_,_,_,i,n,v,_,h1,_=>by simp at h1
 | _::_,[],_,_,i,n,v,_,_,h2=>by simp at h2
section
variable {prog:Program}{w:World}{base:Addr->Prop}{mg mb:Str->Option Value}{Gd:Heap->Prop}{Γ:ZaC}{fn:Nat->Str}{fa:Nat->Addr}{n N:Nat}{A:Around}{P:Addr->Prop}{s:Shared}
theorem Zqk{M:Model}{A:Around}{E:Value->Shared->Prop}{s:Shared}{scope:Scope}{globals:Addr}{y:Str}{v:Value}{qual:Str}{func:Option Addr}{code:Value}{builtins:Addr}{Q:Env->Shared->Prop}
  (hk:scope.kind=.function) (hl:scope.names.lookup y=some .local)
  (hQ:∀env,env=newEnv scope s.heap.objs.size globals (cellsFrom (s.heap.objs.size+1) scope.names []) qual func code none builtins->
   ∀s',InCallC s env.locals (bindL env.kindOf [(y,v)] λ_=>none) env.cells (bindC env.kindOf [(y,v)] λ_=>none) s'->1<=s'.toks->Q env s') :
  wpAny M A (newFunctionEnv scope globals [] [(y,v)] qual func code none builtins) Q E s:=by
 simp only[newFunctionEnv,Option.isSome_none,Bool.false_eq_true,if_false]
 refine wpAny_bind (wpAny_alloc ?_)
 refine wpAny_bind (wpAny_layCells _ (λname kind cells=>by cases hkc:kind==NameKind.cell<;>simp[hkc]) _ _ _ _ ?_)
 have ok:=cellsFrom_ok scope.names (s.heap.push { cls:=.type "frame",data:=.dict #[] }) (s.heap.objs.size+1) [] ⟨λ_ _ hm=>(nomatch hm),List.Pairwise.nil⟩ (by rw[Heap.size_push];exact Nat.le_refl _)
 rw[Heap.size_push] at ok
 rw[show({ s with heap:=s.heap.push { cls:=.type "frame",data:=.dict #[] } }:Shared).heap.objs.size=s.heap.objs.size+1 from Heap.size_push ..]
 have x:InCallC s (newEnv scope s.heap.objs.size globals (cellsFrom (s.heap.objs.size+1) scope.names []) qual func code none builtins).locals (λ_=>none) (newEnv scope s.heap.objs.size globals (cellsFrom (s.heap.objs.size+1) scope.names []) qual func code none builtins).cells (λ_=>none)
   { s with heap:=pushCells (s.heap.push { cls:=.type "frame",data:=.dict #[] }) scope.names }:=
  ⟨⟨⟨_,_,rfl⟩,(Heap.Ns.new s.heap (.type "frame")).keeps (pushCells_keeps _ _),λb o e=>pushCells_keeps _ _ b o (Heap.get?_push_of_some _ e),Nat.le_refl _⟩,
   λn c hc=>(ok.empty n c (mem_of_lookup hc)).1,ok.apart,λn c hm=>(ok.empty n c hm).2⟩
 have hkf:(newEnv scope s.heap.objs.size globals (cellsFrom (s.heap.objs.size+1) scope.names []) qual func code none builtins).kindOf y=some .local:=hl
 refine wpAny_bind ?_
 rw[List.forIn_cons]
 refine wpAny_bind (wpAny_bind (wpAny_storeName_local (env:=newEnv scope s.heap.objs.size globals (cellsFrom (s.heap.objs.size+1) scope.names []) qual func code none builtins) hkf x.toInCall.ns (λh' hn' hs'=>?_) (by show((scope.kind==.class)||((scope.kind==.module)&&_))=false;rw[hk];rfl)))
 refine wpAny_pure ?_
 dsimp only
 rw[List.forIn_nil]
 refine wpAny_pure (wpAny_pure (hQ _ rfl _ ⟨⟨⟨h',_,rfl⟩,?_,λb o e=>?_,x.toInCall.fresh⟩,λk c hc=>?_,x.apart,x.above⟩ (Nat.le_add_left 1 s.toks)))
 ·unfold bindL
  rw[if_pos hkf]
  exact hn'
 ·exact hs'.extBut b o (Nat.ne_of_lt (Nat.lt_of_lt_of_le (Heap.lt_size e) x.toInCall.fresh)) (x.toInCall.keep b o e)
 ·unfold bindC
  rw[if_pos hkf]
  exact(x.cell k c hc).sameBut hs' (Nat.ne_of_gt (x.above k c (mem_of_lookup hc)))
theorem ZpP{h:Heap}{a:Addr}(q:h.objs.size<=a):h.get? a=none:=by
 cases e:h.get? a with
 | none=>rfl
 | some o=>exact absurd (Heap.lt_size e) (Nat.not_lt.mpr q)
theorem Zcj(G:Gr base mg mb Gd){fd:FuncData}{o:Obj}{a:Addr}{body:List Stmt}{ps nm:List Str}(Df:Zbi Gd fd o a body ps)(hnm:∃rest,nm=ps++rest)(hnd:nm.Nodup)
  {ds:List D} {vs:List Value} {R:Result->Shared->Prop} (hl:ds.length=ps.length) (L:Lv A (n+1)) (okg:Gd s.heap) (okt:1<=s.toks∨∃p,ps=[p]∧fd.scope.names.lookup p=some .local) (hP:Pf P s.heap) (hr:Zad P s.heap vs ds)
  (k:∀(A':Around) (F:Fp) (ad:Nat->Bool->Addr) (s₁:Shared) (E:Value->Shared->Prop),F.base=base->F.Gd=Gd->F.sc=fd.scope->F.nm=nm->F.P0=P->F.s0=s->Fs F->Lv A' n->Fm F (λ_=>False) ad (Ze3 nm.length ds) s₁->F.env.code=fd.code∧F.env.qual=fd.qualname ++ ".<locals>." ->
   wpAny (model prog w) A' (execs body F.env) (λf s'=>R (.ok (.ret (match f with | .ret v=>v | _=>.none))) s') E s₁) :
  codeAny (model prog w) A (.call (.ref a) ⟨vs,[]⟩) R s:=by
 obtain⟨rest,rfl⟩:=hnm
 have hvl:=hr.length
 refine codeAny_call_function (by have:=L.dp;have e:recursionLimit=1000:=rfl;lia) (Df.ob _ okg) Df.da Df.co Df.gen Df.bo (Df.cr _ okg) ?_
 rw[Df.bi vs (by lia),Df.cl]
 have hmem:∀y∈ps.zip vs,y.1∈ps:=λy hy=>(List.of_mem_zip hy).1
 refine wpAny_pure ?_
 have key:∀Q:Env->Shared->Prop,∀E',(∀env,env=newEnv fd.scope s.heap.objs.size fd.globals (cellsFrom (s.heap.objs.size+1) fd.scope.names []) (fd.qualname ++ ".<locals>.") (some a) fd.code none fd.builtins->
   ∀s',InCallC s env.locals (bindL env.kindOf (ps.zip vs) λ_=>none) env.cells (bindC env.kindOf (ps.zip vs) λ_=>none) s'->1<=s'.toks->Q env s')->wpAny (model prog w) A.in1 (newFunctionEnv fd.scope fd.globals [] (ps.zip vs) (fd.qualname ++ ".<locals>.") (some a) fd.code none fd.builtins) Q E' s:=λQ E' hQ=>by
  rcases okt with ht | ⟨p,rfl,hp⟩
  ·exact wrap ht (wpAny_newFunctionEnv_cells Df.kd (λy hy=>(Df.ks y.1 (hmem y hy)).imp id λh=>⟨h,Zc9 _ _ _ _ (mem_lookup h)⟩) λenv he s₁ x htk=>hQ env he s₁ x htk)
  ·cases vs with
   | nil=>cases hr;cases hl
   | cons v vs=>
    cases vs with
    | nil=>exact Zqk Df.kd hp hQ
    | cons _ _=>simp at hvl;simp at hl;lia
 refine key _ _ λenv he s₁ x htk=>?_
 have hsc:env.scope=fd.scope:=by subst he;rfl
 have hgl:env.globals=fd.globals:=by subst he;rfl
 have hbu:env.builtins=fd.builtins:=by subst he;rfl
 have hloc:env.locals=s.heap.objs.size:=by subst he;rfl
 have hcells:env.cells=cellsFrom (s.heap.objs.size+1) fd.scope.names []:=by subst he;rfl
 have hkf:∀z,env.kindOf z=fd.scope.names.lookup z:=λz=>by rw[Env.kindOf,hsc]
 refine⟨(G.lim _ okg).keeps x.toInCall.keep,codeAny_func ?_⟩
 have sL:=Zau s.heap
 have sC:∀z c,env.cells.lookup z=some c->s.heap.get? c=none:=λz c h=>ZpP (by have:=x.above z c (mem_of_lookup h);rw[hloc] at this;exact Nat.le_of_lt this)
 have gw:Gw s s₁:=by
  obtain⟨h',tk,rfl⟩:=x.toInCall.same
  exact .of_keep x.toInCall.keep
 have ok₁:Ok Gd s₁:=⟨G.keeps okg x.toInCall.keep,htk⟩
 let F:Fp:=⟨base,Gd,env,fd.scope,ps++rest,P,s⟩
 have H:Fs F:=⟨hsc,
  Df.kd,
  hgl.trans Df.gl,
  hbu.trans Df.bu,
  hP,
  (λz h=>Option.isSome_iff_exists.mp (by show(List.lookup z env.cells).isSome=true;rw[hcells];exact Zc9 _ _ _ _ (mem_lookup h))),
  (λi j z h1 h2=>by
   have h1':i < (ps++rest).length:=by
    rcases Nat.lt_or_ge i (ps++rest).length with q | q
    ·exact q
    ·have h1:(ps++rest)[i]? = some z:=h1
     rw[List.getElem?_eq_none q] at h1;cases h1
   exact(List.getElem?_inj h1' hnd).mp (h1.trans h2.symm)),
  (λz z' c h1 h2=>name_of_addr x.apart (mem_of_lookup h1) (mem_of_lookup h2)),
  (by show s.heap.get? env.locals=none∧¬base env.locals;rw[hloc];exact⟨sL,G.fresh okg sL⟩),
  (λz c h=>⟨sC z c h,G.fresh okg (sC z c h)⟩)⟩
 have nob:∀i b,¬Ob (Ze3 (ps++rest).length ds) i b:=λi b ⟨sl,e,hb⟩=>by
  have:=List.mem_of_getElem? e
  unfold Ze3 at this
  rcases List.mem_append.mp this with q | q
  ·obtain⟨d,_,rfl⟩:=List.mem_map.mp q;cases hb
  ·have:=List.eq_of_mem_replicate q;subst this;cases hb
 refine k (A.deeper env) F (λ_ _=>0) s₁ _ rfl rfl rfl rfl rfl rfl H ⟨L.hd,by have:=L.dp;show A.depth+1+n<=900;lia,by have:=L.un;show A.units+3+3 * n<=9000;lia⟩ ⟨gw,
  ok₁,
  ⟨_,x.toInCall.ns⟩,
  (λz c h=>⟨_,x.cell z c h⟩),
  (λi b h=>absurd h (nob i b)),
  (λi b _ _ h=>absurd h (nob i b)),
  (λ_ h=>nomatch h),
  (λi sl e hne=>by
   unfold Ze3 at e
   rcases Nat.lt_or_ge i ds.length with q | q
   ·rw[List.getElem?_append_left (by simpa using q),List.getElem?_map,List.getElem?_eq_getElem q] at e
    simp only[Option.map_some,Option.some.injEq] at e
    subst e
    obtain⟨v,hv,rv⟩:=hr.get (List.getElem?_eq_getElem q)
    have hp:ps[i]? = some ps[i]:=List.getElem?_eq_getElem (by lia)
    have hb:=Zi0 env.kindOf ps vs (λ_=>none) (λ_=>none) i _ v (List.nodup_append.mp hnd).1 hp hv
    refine⟨ps[i],v,?_,?_,.fz (rv.mono λb o nn e p=>⟨⟨p,λz=>(by
     rcases z with z | ⟨z',z⟩ | ⟨j,c,z,_⟩
     ·rw[show b=s.heap.objs.size from z.trans hloc,sL] at e;cases e
     ·rw[sC z' b z] at e;cases e
     ·exact nob j c z),id⟩,gw.kp b o nn e⟩)⟩
    ·show(ps++rest)[i]? = _
     rw[List.getElem?_append_left (by lia)];exact hp
    ·have hks:=Df.ks ps[i] (List.getElem_mem _)
     rw[←hkf] at hks
     rcases hks with hks | hks
     ·exact .inl ⟨hks,_,x.toInCall.ns,hb.1 hks⟩
     ·obtain⟨c,hc⟩:=H.lk ps[i] (by rw[hkf] at hks;exact hks)
      refine .inr ⟨.inl hks,c,hc,?_⟩
      rw[←hb.2 (by rw[hks];decide)]
      exact x.cell _ c hc
   ·rw[List.getElem?_append_right (by simpa using q)] at e
    have:=List.mem_of_getElem? e
    exact absurd (List.eq_of_mem_replicate this) hne)⟩ ⟨by subst he;rfl,by subst he;rfl⟩
end
end
section
set_option backward.match.sparseCases false
noncomputable def run(Γ:ZaC)(N:Nat)(k m:Nat)(st:S)(ds:List D):Option D:=if ds.length=k then match ex Γ N st (Ze3 m ds) with
 | some (.ret d,_)=>some d
 | _=>none
 else none
section
variable {prog:Program}{w:World}{base:Addr->Prop}{mg mb:Str->Option Value}{Gd:Heap->Prop}{Γ:ZaC}{fn:Nat->Str}{fa:Nat->Addr}{n N:Nat}
noncomputable def Zan(prog:Program)(w:World)(Gd:Heap->Prop)(a:Addr)(n:Nat)(sem:List D->Option D):Prop:=∀ds d,sem ds=some d->∀(A:Around) (P:Addr->Prop) (s:Shared) (vs:List Value) (R:Result->Shared->Prop),Lv A n->Ok Gd s->Pf P s.heap->Zad P s.heap vs ds->
  (∀v s',Gw s s'->Ok Gd s'->Rd P s'.heap v d->R (.ok (.ret v)) s')->codeAny (model prog w) A (.call (.ref a) ⟨vs,[]⟩) R s
theorem Zan.up{a:Addr}{n m:Nat}{sem:List D->Option D}(c:Zan prog w Gd a n sem)(h:n<=m):Zan prog w Gd a m sem:=
 λds d hd A P s vs R L ok hP hr k=>c ds d hd A P s vs R (L.le h) ok hP hr k
set_option tactic.hygienic true in
theorem ZrJ(G:Gr base mg mb Gd)(C:Zak prog w Gd mg Γ fn fa n){fd:FuncData}{o:Obj}{a:Addr}{body:List Stmt}{ps nm:List Str}{st:S}(Df:Zbi Gd fd o a body ps){sc:Scope}(hsc:fd.scope=sc)(hnm:∃rest,nm=ps++rest)(hnd:nm.Nodup)
  (hm:ms nm fn sc st body=true) (hst:st.Zcw []=true):Zan prog w Gd a (n+1) (run Γ N ps.length nm.length st):=by
 subst hsc
 intro ds d hd A P s vs R L ok hP hr k
 unfold run at hd
 split at hd
 ·rename_i hl
  split at hd
  ·rename_i d' σ' hx
   cases hd
   refine Zcj G Df hnm hnd hl L ok.gd (.inl ok.tk) hP hr λA' F ad s₁ E e1 e2 e3 e4 e5 e6 H L' f _=>?_
   have Gf:Gr F.base mg mb F.Gd:=by erw[rwl (e1 ..) (rwl (e2 ..) ?_)];exact G
   have Cf:Zak prog w F.Gd mg Γ fn fa n:=by erw[rwl (e2 ..) ?_];exact C
   refine(Zju (xs:=[]) Gf H Cf (λ_ _ _ _ _ _ _ h=>nomatch h) (λ_ _ _ _ h=>nomatch h) st hst).2 body _ ad _ A' s₁ E _ _ σ' (by erw[rwl (e3 ..) (rwl (e4 ..) ?_)];exact hm) L' f hx λv s' g' o' r'=>?_
   rw[e6] at g'
   rw[e2] at o'
   rw[e5] at r'
   exact k v s' g' o' r'
  ·cases hd
 ·cases hd
end
end
section
noncomputable def fnN:Nat->Str
 | 0 => "reduce"
 | 1 => "translate"
 | 2 => "escape"
 | 3 => "_translate"
 | 4 => "_join_translated_parts"
 | 5 => "_law_set"
 | 6 => "_law_items"
 | 7 => "_law_hit"
 | 8 => "_law_told"
 | 9 => "_law_word"
 | 10 => "_law_class"
 | 11 => "_law_read"
 | 12 => "_law_takes"
 | 13 => "_law_wide"
 | 14 => "_law_names"
 | 15 => "_law_pattern"
 | 16 => "_law_step"
 | 17 => "_law_value"
 | 18 => "_law_stack"
 | 19 => "law"
 | _ => "law"
noncomputable def faN:Nat->Addr
 | 0=>40
 | 1=>52
 | 2=>64
 | 3=>71
 | 4=>78
 | 5=>85
 | 6=>92
 | 7=>97
 | 8=>102
 | 9=>109
 | 10=>116
 | 11=>123
 | 12=>128
 | 13=>135
 | 14=>142
 | 15=>147
 | 16=>152
 | 17=>159
 | 18=>164
 | 19=>169
 | _=>0
noncomputable def Zg5:List Str:=["pat","STAR","QUESTION_MARK","res","add","i","n","c","j","stuff","chunks","k","chunk","s"]
noncomputable def ZcG:S:=
 .seq (.asgO 3 .nil) <|
 .seq (.bnd 4 3) <|
 .seq (.unpS [5,6] (.cons (.const (.int 0)) (.cons (.bfn .len (.var 0)) .nil))) <|
 .seq (.whl (.tcmp .lt (.var 5) (.var 6)) (
  .seq (.asg 7 (.idx (.var 0) (.var 5))) <|
  .seq (.asg 5 (.bin .add (.var 5) (.const (.int 1)))) <|
  .seq (.ifs (.tcmp .eq (.var 7) (.const (.str [42]))) (
   .seq (.ifs (.tor (.cons (.tnot (.tval (.tvar 3))) (.cons (.tcmp .isnt (.idx (.tvar 3) (.const (.int (-1)))) (.var 1)) .nil))) (
    .seq (.add 4 3 (.var 1)) <| .skip) (.skip)) <| .skip) (
   .seq (.ifs (.tcmp .eq (.var 7) (.const (.str [63]))) (
    .seq (.add 4 3 (.var 2)) <| .skip) (
    .seq (.ifs (.tcmp .eq (.var 7) (.const (.str [91]))) (
     .seq (.asg 8 (.var 5)) <|
     .seq (.ifs (.tand (.cons (.tcmp .lt (.var 8) (.var 6)) (.cons (.tcmp .eq (.idx (.var 0) (.var 8)) (.const (.str [33]))) .nil))) (
      .seq (.asg 8 (.bin .add (.var 8) (.const (.int 1)))) <| .skip) (.skip)) <|
     .seq (.ifs (.tand (.cons (.tcmp .lt (.var 8) (.var 6)) (.cons (.tcmp .eq (.idx (.var 0) (.var 8)) (.const (.str [93]))) .nil))) (
      .seq (.asg 8 (.bin .add (.var 8) (.const (.int 1)))) <| .skip) (.skip)) <|
     .seq (.whl (.tand (.cons (.tcmp .lt (.var 8) (.var 6)) (.cons (.tcmp .ne (.idx (.var 0) (.var 8)) (.const (.str [93]))) .nil))) (
      .seq (.asg 8 (.bin .add (.var 8) (.const (.int 1)))) <| .skip)) <|
     .seq (.ifs (.tcmp .ge (.var 8) (.var 6)) (
      .seq (.add 4 3 (.const (.str [92,91]))) <| .skip) (
      .seq (.asg 9 (.slc (.var 0) (.var 5) (.var 8))) <|
      .seq (.ifs (.tcmp .notin (.const (.str [45])) (.var 9)) (
       .seq (.asg 9 (.repl (.var 9) 92 92 [92])) <| .skip) (
       .seq (.asgO 10 .nil) <|
       .seq (.asg 11 (.ite (.tcmp .eq (.idx (.var 0) (.var 5)) (.const (.str [33]))) (.bin .add (.var 5) (.const (.int 2))) (.bin .add (.var 5) (.const (.int 1))))) <|
       .seq (.whl (.tval (.const (.bool true))) (
        .seq (.asg 11 (.find3 (.var 0) (.const (.str [45])) (.var 11) (.var 8))) <|
        .seq (.ifs (.tcmp .lt (.var 11) (.const (.int 0))) (
         .seq .brk <| .skip) (.skip)) <|
        .seq (.app 10 (.slc (.var 0) (.var 5) (.var 11))) <|
        .seq (.asg 5 (.bin .add (.var 11) (.const (.int 1)))) <|
        .seq (.asg 11 (.bin .add (.var 11) (.const (.int 3)))) <| .skip)) <|
       .seq (.asg 12 (.slc (.var 0) (.var 5) (.var 8))) <|
       .seq (.ifs (.tval (.var 12)) (
        .seq (.app 10 (.var 12)) <| .skip) (
        .seq (.augL 10 45) <| .skip)) <|
       .seq (.fors 11 (.range3 (.bin .sub (.bfn .len (.tvar 10)) (.const (.int 1))) (.const (.int 0)) (.const (.int (-1)))) (
        .seq (.ifs (.tcmp .gt (.idx (.idx (.tvar 10) (.bin .sub (.var 11) (.const (.int 1)))) (.const (.int (-1)))) (.idx (.idx (.tvar 10) (.var 11)) (.const (.int 0)))) (
         .seq (.setI 10 (.bin .sub (.var 11) (.const (.int 1))) (.bin .add (.slc (.idx (.tvar 10) (.bin .sub (.var 11) (.const (.int 1)))) (.const .none) (.const (.int (-1)))) (.slc (.idx (.tvar 10) (.var 11)) (.const (.int 1)) (.const .none)))) <|
         .seq (.delI 10 (.var 11)) <| .skip) (.skip)) <| .skip)) <|
       .seq (.asgJ 9 [45] 13 (.repl (.repl (.var 13) 92 92 [92]) 45 92 [45]) (.tvar 10) 76 37) <| .skip)) <|
      .seq (.asgR 9 (.var 9) 77 39) <|
      .seq (.asg 5 (.bin .add (.var 8) (.const (.int 1)))) <|
      .seq (.ifs (.tnot (.tval (.var 9))) (
       .seq (.add 4 3 (.const (.str [40,63,33,41]))) <| .skip) (
       .seq (.ifs (.tcmp .eq (.var 9) (.const (.str [33]))) (
        .seq (.add 4 3 (.const (.str [46]))) <| .skip) (
        .seq (.ifs (.tcmp .eq (.idx (.var 9) (.const (.int 0))) (.const (.str [33]))) (
         .seq (.asg 9 (.bin .add (.const (.str [94])) (.slc (.var 9) (.const (.int 1)) (.const .none)))) <| .skip) (
         .seq (.ifs (.tcmp .isin (.idx (.var 9) (.const (.int 0))) (.tuple (.cons (.const (.str [94])) (.cons (.const (.str [91])) .nil)))) (
          .seq (.asg 9 (.bin .add (.const (.str [92])) (.var 9))) <| .skip) (.skip)) <| .skip)) <|
        .seq (.add 4 3 (.fstr [91] (.var 9) [93])) <| .skip)) <| .skip)) <| .skip)) <| .skip) (
     .seq (.add 4 3 (.call 2 (.cons (.var 7) .nil))) <| .skip)) <| .skip)) <| .skip)) <| .skip)) <|
 .seq (.asr (.tcmp .eq (.var 5) (.var 6))) <|
 .seq (.ret (.var 3)) <| .skip
noncomputable def Zcf:List Str:=["inp","STAR","res","add","i","n","fixed"]
noncomputable def ZaB:S:=
 .seq (.asgO 2 .nil) <|
 .seq (.bnd 3 2) <|
 .seq (.unpS [4,5] (.cons (.const (.int 0)) (.cons (.bfn .len (.var 0)) .nil))) <|
 .seq (.whl (.tand (.cons (.tcmp .lt (.var 4) (.var 5)) (.cons (.tcmp .isnt (.idx (.var 0) (.var 4)) (.var 1)) .nil))) (
  .seq (.add 3 2 (.idx (.var 0) (.var 4))) <|
  .seq (.aug 4 .add (.const (.int 1))) <| .skip)) <|
 .seq (.whl (.tcmp .lt (.var 4) (.var 5)) (
  .seq (.asr (.tcmp .is_ (.idx (.var 0) (.var 4)) (.var 1))) <|
  .seq (.aug 4 .add (.const (.int 1))) <|
  .seq (.ifs (.tcmp .eq (.var 4) (.var 5)) (
   .seq (.add 3 2 (.const (.str [46,42]))) <|
   .seq .brk <| .skip) (.skip)) <|
  .seq (.asr (.tcmp .isnt (.idx (.var 0) (.var 4)) (.var 1))) <|
  .seq (.asgO 6 .nil) <|
  .seq (.whl (.tand (.cons (.tcmp .lt (.var 4) (.var 5)) (.cons (.tcmp .isnt (.idx (.var 0) (.var 4)) (.var 1)) .nil))) (
   .seq (.app 6 (.idx (.var 0) (.var 4))) <|
   .seq (.aug 4 .add (.const (.int 1))) <| .skip)) <|
  .seq (.asg 6 (.join (.const (.str [])) (.tvar 6))) <|
  .seq (.ifs (.tcmp .eq (.var 4) (.var 5)) (
   .seq (.add 3 2 (.const (.str [46,42]))) <|
   .seq (.add 3 2 (.var 6)) <| .skip) (
   .seq (.add 3 2 (.fstr [40,63,62,46,42,63] (.tvar 6) [41])) <| .skip)) <| .skip)) <|
 .seq (.asr (.tcmp .eq (.var 4) (.var 5))) <|
 .seq (.asg 2 (.join (.const (.str [])) (.tvar 2))) <|
 .seq (.ret (.fstr [40,63,115,58] (.var 2) [41,92,90])) <| .skip
noncomputable def Zkr:List Str:=["body","bar","at","members"]
noncomputable def Zc8:S:=
 .seq (.asg 1 (.cmp .eq (.idx (.var 0) (.const (.int 0))) (.const (.str [33])))) <|
 .seq (.asg 2 (.ite (.tval (.var 1)) (.const (.int 1)) (.const (.int 0)))) <|
 .seq (.asgO 3 .nil) <|
 .seq (.whl (.tcmp .lt (.var 2) (.bfn .len (.var 0))) (
  .seq (.ifs (.tand (.cons (.tcmp .eq (.slc (.var 0) (.bin .add (.var 2) (.const (.int 1))) (.bin .add (.var 2) (.const (.int 2)))) (.const (.str [45]))) (.cons (.tcmp .lt (.bin .add (.var 2) (.const (.int 2))) (.bfn .len (.var 0))) .nil))) (
   .seq (.ifs (.tcmp .le (.idx (.var 0) (.var 2)) (.idx (.var 0) (.bin .add (.var 2) (.const (.int 2))))) (
    .seq (.app 3 (.slc (.var 0) (.var 2) (.bin .add (.var 2) (.const (.int 3))))) <| .skip) (.skip)) <|
   .seq (.aug 2 .add (.const (.int 3))) <| .skip) (
   .seq (.app 3 (.idx (.var 0) (.var 2))) <|
   .seq (.aug 2 .add (.const (.int 1))) <| .skip)) <| .skip)) <|
 .seq (.ifs (.tand (.cons (.tnot (.tval (.var 1))) (.cons (.tcmp .ne (.tvar 3) (.list .nil)) (.cons (.tcmp .eq (.idx (.idx (.tvar 3) (.const (.int 0))) (.const (.int 0))) (.const (.str [33]))) .nil)))) (
  .seq (.asg 1 (.const (.bool true))) <|
  .seq (.asg 3 (.bin .add (.bfn .list (.slc (.idx (.tvar 3) (.const (.int 0))) (.const (.int 1)) (.const .none))) (.slc (.tvar 3) (.const (.int 1)) (.const .none)))) <| .skip) (.skip)) <|
 .seq (.ret (.tuple (.cons (.var 1) (.cons (.var 3) .nil)))) <| .skip
noncomputable def ZhA:List Str:=["pattern","items","at","sign","end"]
noncomputable def ZcW:S:=
 .seq (.asgO 1 .nil) <|
 .seq (.asg 2 (.const (.int 0))) <|
 .seq (.whl (.tcmp .lt (.var 2) (.bfn .len (.var 0))) (
  .seq (.asg 3 (.idx (.var 0) (.var 2))) <|
  .seq (.aug 2 .add (.const (.int 1))) <|
  .seq (.asg 4 (.find2 (.var 0) (.const (.str [93])) (.bin .add (.var 2) (.ite (.tcmp .eq (.slc (.var 0) (.var 2) (.bin .add (.var 2) (.const (.int 1)))) (.const (.str [33]))) (.const (.int 2)) (.const (.int 1)))))) <|
  .seq (.ifs (.tcmp .eq (.var 3) (.const (.str [42]))) (
   .seq (.app 1 (.const (.str [42]))) <| .skip) (
   .seq (.ifs (.tcmp .eq (.var 3) (.const (.str [63]))) (
    .seq (.app 1 (.tuple (.cons (.const (.bool true)) (.cons (.list .nil) .nil)))) <| .skip) (
    .seq (.ifs (.tand (.cons (.tcmp .eq (.var 3) (.const (.str [91]))) (.cons (.tcmp .ge (.var 4) (.const (.int 0))) .nil))) (
     .seq (.app 1 (.call 5 (.cons (.slc (.var 0) (.var 2) (.var 4)) .nil))) <|
     .seq (.asg 2 (.bin .add (.var 4) (.const (.int 1)))) <| .skip) (
     .seq (.app 1 (.tuple (.cons (.const (.bool false)) (.cons (.list (.cons (.var 3) .nil)) .nil)))) <| .skip)) <| .skip)) <| .skip)) <| .skip)) <|
 .seq (.ret (.var 1)) <| .skip
noncomputable def Zj6:List Str:=["item","sign","bar","members","one"]
noncomputable def Zky:S:=
 .seq (.unp [2,3] (.var 0)) <|
 .seq (.ret (.cmp .ne (.cmp .isin (.const (.bool true)) (.comp [1] 4 (.cmp2 .le .le (.idx (.var 4) (.const (.int 0))) (.var 1) (.idx (.var 4) (.const (.int (-1))))) (.var 3) (.const .none))) (.var 2))) <| .skip
noncomputable def Zir:List Str:=["items","name","heads","item","k"]
noncomputable def Ze4:S:=
 .seq (.asg 2 (.bin .add (.list (.cons (.const (.bool true)) .nil)) (.bin .mul (.list (.cons (.const (.bool false)) .nil)) (.bfn .len (.var 1))))) <|
 .seq (.fors 3 (.var 0) (
  .seq (.ifs (.tcmp .eq (.var 3) (.const (.str [42]))) (
   .seq (.asg 2 (.comp [2] 4 (.cmp .isin (.const (.bool true)) (.slc (.var 2) (.const .none) (.bin .add (.var 4) (.const (.int 1))))) (.range1 (.bfn .len (.var 2))) (.const .none))) <| .skip) (
   .seq (.asg 2 (.bin .add (.list (.cons (.const (.bool false)) .nil)) (.comp [2,3,1] 4 (.band (.cons (.idx (.var 2) (.var 4)) (.cons (.call 7 (.cons (.var 3) (.cons (.idx (.var 1) (.var 4)) .nil))) .nil))) (.range1 (.bfn .len (.var 1))) (.const .none)))) <| .skip)) <| .skip)) <|
 .seq (.ret (.idx (.var 2) (.const (.int (-1))))) <| .skip
noncomputable def ZiC:List Str:=["sign"]
noncomputable def Zil:S:=
 .seq (.ret (.bor (.cons (.cmp2 .le .le (.const (.str [48])) (.var 0) (.const (.str [57]))) (.cons (.cmp2 .le .le (.const (.str [65])) (.var 0) (.const (.str [90]))) (.cons (.cmp2 .le .le (.const (.str [97])) (.var 0) (.const (.str [122]))) .nil))))) <| .skip
noncomputable def Zhv:List Str:=["text","at","bar","members","odd","one"]
noncomputable def ZcH:S:=
 .seq (.asg 2 (.cmp .eq (.idx (.var 0) (.var 1)) (.const (.str [94])))) <|
 .seq (.ifs (.tval (.var 2)) (
  .seq (.aug 1 .add (.const (.int 1))) <| .skip) (.skip)) <|
 .seq (.asgO 3 .nil) <|
 .seq (.asg 4 (.const (.bool false))) <|
 .seq (.whl (.tor (.cons (.tcmp .eq (.tvar 3) (.list .nil)) (.cons (.tcmp .ne (.idx (.var 0) (.var 1)) (.const (.str [93]))) .nil))) (
  .seq (.ifs (.tcmp .eq (.idx (.var 0) (.var 1)) (.const (.str [92]))) (
   .seq (.aug 1 .add (.const (.int 1))) <|
   .seq (.asg 4 (.bor (.cons (.var 4) (.cons (.call 9 (.cons (.idx (.var 0) (.var 1)) .nil)) .nil)))) <| .skip) (.skip)) <|
  .seq (.asg 5 (.idx (.var 0) (.var 1))) <|
  .seq (.aug 1 .add (.const (.int 1))) <|
  .seq (.ifs (.tand (.cons (.tcmp .eq (.idx (.var 0) (.var 1)) (.const (.str [45]))) (.cons (.tcmp .ne (.idx (.var 0) (.bin .add (.var 1) (.const (.int 1)))) (.const (.str [93]))) .nil))) (
   .seq (.aug 1 .add (.const (.int 1))) <|
   .seq (.ifs (.tcmp .eq (.idx (.var 0) (.var 1)) (.const (.str [92]))) (
    .seq (.aug 1 .add (.const (.int 1))) <|
    .seq (.asg 4 (.bor (.cons (.var 4) (.cons (.call 9 (.cons (.idx (.var 0) (.var 1)) .nil)) .nil)))) <| .skip) (.skip)) <|
   .seq (.asg 4 (.bor (.cons (.var 4) (.cons (.cmp .lt (.idx (.var 0) (.var 1)) (.var 5)) .nil)))) <|
   .seq (.aug 5 .add (.bin .add (.const (.str [45])) (.idx (.var 0) (.var 1)))) <|
   .seq (.aug 1 .add (.const (.int 1))) <| .skip) (.skip)) <|
  .seq (.app 3 (.var 5)) <| .skip)) <|
 .seq (.ret (.tuple (.cons (.tuple (.cons (.var 2) (.cons (.var 3) .nil))) (.cons (.bin .add (.var 1) (.const (.int 1))) (.cons (.var 4) .nil))))) <| .skip
noncomputable def Ziw:List Str:=["text","runs","sound","inside","at","sign","item","odd"]
noncomputable def Zdx:S:=
 .seq (.asgO2 1) <|
 .seq (.asg 2 (.cmp .eq (.bin .add (.slc (.var 0) (.const .none) (.const (.int 4))) (.slc (.var 0) (.const (.int (-3))) (.const .none))) (.const (.str [40,63,115,58,41,92,90])))) <|
 .seq (.asg 3 (.const (.bool false))) <|
 .seq (.asg 4 (.const (.int 4))) <|
 .seq (.whl (.tcmp .lt (.var 4) (.bin .sub (.bfn .len (.var 0)) (.const (.int 3)))) (
  .seq (.asg 5 (.idx (.var 0) (.var 4))) <|
  .seq (.aug 4 .add (.const (.int 1))) <|
  .seq (.ifs (.tand (.cons (.tcmp .eq (.var 5) (.const (.str [40]))) (.cons (.tcmp .eq (.slc (.var 0) (.var 4) (.bin .add (.var 4) (.const (.int 5)))) (.const (.str [63,62,46,42,63]))) (.cons (.tnot (.tval (.var 3))) .nil)))) (
   .seq (.new2 1) <|
   .seq (.asg 3 (.const (.bool true))) <|
   .seq (.aug 4 .add (.const (.int 5))) <| .skip) (
   .seq (.ifs (.tand (.cons (.tcmp .eq (.var 5) (.const (.str [41]))) (.cons (.tval (.var 3)) (.cons (.tor (.cons (.tcmp .eq (.slc (.var 0) (.var 4) (.bin .add (.var 4) (.const (.int 2)))) (.const (.str [46,42]))) (.cons (.tcmp .eq (.slc (.var 0) (.var 4) (.bin .add (.var 4) (.const (.int 3)))) (.const (.str [40,63,62]))) .nil))) .nil)))) (
    .seq (.asg 3 (.const (.bool false))) <| .skip) (
    .seq (.ifs (.tand (.cons (.tcmp .eq (.var 5) (.const (.str [46]))) (.cons (.tcmp .eq (.idx (.var 0) (.var 4)) (.const (.str [42]))) (.cons (.tnot (.tval (.var 3))) .nil)))) (
     .seq (.new2 1) <|
     .seq (.aug 4 .add (.const (.int 1))) <| .skip) (
     .seq (.ifs (.tand (.cons (.tcmp .eq (.var 5) (.const (.str [40]))) (.cons (.tcmp .eq (.slc (.var 0) (.var 4) (.bin .add (.var 4) (.const (.int 3)))) (.const (.str [63,33,41]))) .nil))) (
      .seq (.lst2 1 (.tuple (.cons (.const (.bool false)) (.cons (.list .nil) .nil)))) <|
      .seq (.aug 4 .add (.const (.int 3))) <| .skip) (
      .seq (.ifs (.tcmp .eq (.var 5) (.const (.str [46]))) (
       .seq (.lst2 1 (.tuple (.cons (.const (.bool true)) (.cons (.list .nil) .nil)))) <| .skip) (
       .seq (.ifs (.tcmp .eq (.var 5) (.const (.str [91]))) (
        .seq (.unp [6,4,7] (.call 10 (.cons (.var 0) (.cons (.var 4) .nil)))) <|
        .seq (.lst2 1 (.var 6)) <|
        .seq (.asg 2 (.band (.cons (.var 2) (.cons (.not (.var 7)) .nil)))) <| .skip) (
        .seq (.ifs (.tand (.cons (.tcmp .eq (.var 5) (.const (.str [92]))) (.cons (.tnot (.tval (.call 9 (.cons (.idx (.var 0) (.var 4)) .nil)))) .nil))) (
         .seq (.lst2 1 (.tuple (.cons (.const (.bool false)) (.cons (.list (.cons (.idx (.var 0) (.var 4)) .nil)) .nil)))) <|
         .seq (.aug 4 .add (.const (.int 1))) <| .skip) (
         .seq (.lst2 1 (.tuple (.cons (.const (.bool false)) (.cons (.list (.cons (.var 5) .nil)) .nil)))) <|
         .seq (.asg 2 (.band (.cons (.var 2) (.cons (.cmp .notin (.var 5) (.const (.str [40,41,42,43,63,123,124,94,36,92]))) .nil)))) <| .skip)) <| .skip)) <| .skip)) <| .skip)) <| .skip)) <| .skip)) <| .skip)) <| .skip)) <|
 .seq (.ret (.ite (.tand (.cons (.tval (.var 2)) (.cons (.tnot (.tval (.var 3))) .nil))) (.var 1) (.list (.cons (.list (.cons (.tuple (.cons (.const (.bool true)) (.cons (.list .nil) .nil))) .nil)) (.cons (.list .nil) .nil))))) <| .skip
noncomputable def ZgW:List Str:=["runs","name","at","k","size","fits","p","i"]
noncomputable def Zey:S:=
 .seq (.asg 2 (.const (.int 0))) <|
 .seq (.fors 3 (.range1 (.bfn .len (.var 0))) (
  .seq (.asg 4 (.bfn .len (.idx (.var 0) (.var 3)))) <|
  .seq (.asgO 5 .nil) <|
  .seq (.fors 6 (.range2 (.var 2) (.bin .add (.bin .sub (.bfn .len (.var 1)) (.var 4)) (.const (.int 1)))) (
   .seq (.ifs (.tand (.cons (.tor (.cons (.tcmp .gt (.var 3) (.const (.int 0))) (.cons (.tcmp .eq (.var 6) (.const (.int 0))) .nil))) (.cons (.tor (.cons (.tcmp .lt (.var 3) (.bin .sub (.bfn .len (.var 0)) (.const (.int 1)))) (.cons (.tcmp .eq (.bin .add (.var 6) (.var 4)) (.bfn .len (.var 1))) .nil))) .nil))) (
    .seq (.ifs (.tcmp .notin (.const (.bool false)) (.comp [1,0,3,6] 7 (.call 7 (.cons (.idx (.idx (.var 0) (.var 3)) (.var 7)) (.cons (.idx (.var 1) (.bin .add (.var 6) (.var 7))) .nil))) (.range1 (.var 4)) (.const .none))) (
     .seq (.app 5 (.var 6)) <| .skip) (.skip)) <| .skip) (.skip)) <| .skip)) <|
  .seq (.ifs (.tcmp .eq (.tvar 5) (.list .nil)) (
   .seq (.ret (.const (.bool false))) <| .skip) (.skip)) <|
  .seq (.asg 2 (.bin .add (.idx (.tvar 5) (.const (.int 0))) (.var 4))) <| .skip)) <|
 .seq (.ret (.const (.bool true))) <| .skip
noncomputable def Zip:List Str:=["number","code"]
noncomputable def Zih:S:=
 .seq (.asg 1 (.bin .mod (.var 0) (.const (.int 1112064)))) <|
 .seq (.ret (.bfn .chr (.ite (.tcmp .lt (.var 1) (.const (.int 55296))) (.var 1) (.bin .add (.var 1) (.const (.int 2048)))))) <| .skip
noncomputable def Zhm:List Str:=["x","y","names","k"]
noncomputable def Zev:S:=
 .seq (.asgO 2 (.cons (.const (.str [])) .nil)) <|
 .seq (.fors 3 (.range1 (.const (.int 7))) (
  .seq (.ext 2 (.cons (.bin .add (.idx (.tvar 2) (.var 3)) (.var 0)) (.cons (.bin .add (.idx (.tvar 2) (.var 3)) (.var 1)) .nil))) <| .skip)) <|
 .seq (.ret (.var 2)) <| .skip
noncomputable def ZfQ:List Str:=["number","x","y","pieces","k"]
noncomputable def ZfO:S:=
 .seq (.asg 3 (.list (.cons (.const (.str [])) (.cons (.const (.str [42])) (.cons (.const (.str [63])) (.cons (.var 1) (.cons (.var 2) (.cons (.const (.str [91])) (.cons (.const (.str [93])) (.cons (.const (.str [91,33])) (.cons (.const (.str [45])) (.cons (.const (.str [33])) (.cons (.bin .add (.bin .add (.var 2) (.const (.str [45]))) (.var 1)) (.cons (.bin .add (.bin .add (.var 1) (.const (.str [45]))) (.var 2)) (.cons (.bin .add (.const (.str [91])) (.var 1)) (.cons (.const (.str [94])) (.cons (.const (.str [92])) (.cons (.call 13 (.cons (.bin .fdiv (.var 0) (.bin .pow (.const (.int 16)) (.const (.int 4)))) .nil)) .nil)))))))))))))))))) <|
 .seq (.ret (.join (.const (.str [])) (.comp [3,0] 4 (.idx (.var 3) (.bin .mod (.bin .fdiv (.var 0) (.bin .pow (.const (.int 16)) (.var 4))) (.const (.int 16)))) (.range1 (.const (.int 4))) (.const .none)))) <| .skip
noncomputable def Zik:List Str:=["names","stack","token","word","pattern","runs","name","last","first","made"]
noncomputable def Zcp:S:=
 .seq (.unp [3,4] (.var 2)) <|
 .seq (.ifs (.tcmp .eq (.var 3) (.const (.str [110,97,109,101]))) (
  .seq (.asg 5 (.call 11 (.cons (.call 1 (.cons (.var 4) .nil)) .nil))) <|
  .seq (.ret (.bin .add (.var 1) (.list (.cons (.comp [5] 6 (.var 6) (.var 0) (.tval (.call 12 (.cons (.var 5) (.cons (.var 6) .nil))))) .nil)))) <| .skip) (.skip)) <|
 .seq (.asg 7 (.idx (.var 1) (.const (.int (-1))))) <|
 .seq (.ifs (.tcmp .eq (.var 3) (.const (.str [110,111,116]))) (
  .seq (.ret (.bin .add (.slc (.var 1) (.const .none) (.const (.int (-1)))) (.list (.cons (.comp [7] 6 (.var 6) (.var 0) (.tcmp .notin (.var 6) (.var 7))) .nil)))) <| .skip) (.skip)) <|
 .seq (.asg 8 (.idx (.var 1) (.const (.int (-2))))) <|
 .seq (.ifs (.tcmp .eq (.var 3) (.const (.str [97,110,100]))) (
  .seq (.asgC 9 (.comp [7] 6 (.var 6) (.var 8) (.tcmp .isin (.var 6) (.var 7)))) <| .skip) (
  .seq (.ifs (.tcmp .eq (.var 3) (.const (.str [111,114]))) (
   .seq (.asgC 9 (.comp [8,7] 6 (.var 6) (.var 0) (.tor (.cons (.tcmp .isin (.var 6) (.var 8)) (.cons (.tcmp .isin (.var 6) (.var 7)) .nil))))) <| .skip) (
   .seq (.asgC 9 (.comp [7] 6 (.var 6) (.var 8) (.tcmp .notin (.var 6) (.var 7)))) <| .skip)) <| .skip)) <|
 .seq (.ret (.bin .add (.slc (.var 1) (.const .none) (.const (.int (-2)))) (.list (.cons (.var 9) .nil)))) <| .skip
noncomputable def ZhR:List Str:=["tokens","end","name","word","items","last","at","first"]
noncomputable def Zhr:S:=
 .seq (.unp [3,4] (.idx (.var 0) (.var 1))) <|
 .seq (.ifs (.tcmp .eq (.var 3) (.const (.str [110,97,109,101]))) (
  .seq (.ret (.tuple (.cons (.call 8 (.cons (.var 4) (.cons (.var 2) .nil))) (.cons (.bin .sub (.var 1) (.const (.int 1))) .nil)))) <| .skip) (.skip)) <|
 .seq (.unp [5,6] (.call 17 (.cons (.var 0) (.cons (.bin .sub (.var 1) (.const (.int 1))) (.cons (.var 2) .nil))))) <|
 .seq (.ifs (.tcmp .eq (.var 3) (.const (.str [110,111,116]))) (
  .seq (.ret (.tuple (.cons (.not (.var 5)) (.cons (.var 6) .nil)))) <| .skip) (.skip)) <|
 .seq (.unp [7,6] (.call 17 (.cons (.var 0) (.cons (.var 6) (.cons (.var 2) .nil))))) <|
 .seq (.ifs (.tcmp .eq (.var 3) (.const (.str [97,110,100]))) (
  .seq (.ret (.tuple (.cons (.band (.cons (.var 7) (.cons (.var 5) .nil))) (.cons (.var 6) .nil)))) <| .skip) (.skip)) <|
 .seq (.ifs (.tcmp .eq (.var 3) (.const (.str [111,114]))) (
  .seq (.ret (.tuple (.cons (.bor (.cons (.var 7) (.cons (.var 5) .nil))) (.cons (.var 6) .nil)))) <| .skip) (.skip)) <|
 .seq (.ret (.tuple (.cons (.band (.cons (.var 7) (.cons (.not (.var 5)) .nil))) (.cons (.var 6) .nil)))) <| .skip
noncomputable def ZhZ:List Str:=["tokens","names","stack","end","told","name","k"]
noncomputable def Zex:S:=
 .seq (.asg 2 (.list .nil)) <|
 .seq (.asg 3 (.bin .sub (.bfn .len (.var 0)) (.const (.int 1)))) <|
 .seq (.whl (.tcmp .ge (.var 3) (.const (.int 0))) (
  .seq (.asg 4 (.comp [0,3] 5 (.call 17 (.cons (.var 0) (.cons (.var 3) (.cons (.var 5) .nil)))) (.var 1) (.const .none))) <|
  .seq (.asg 2 (.bin .add (.list (.cons (.comp [1,4] 6 (.idx (.var 1) (.var 6)) (.range1 (.bfn .len (.var 1))) (.tval (.idx (.idx (.var 4) (.var 6)) (.const (.int 0))))) .nil)) (.var 2))) <|
  .seq (.asg 3 (.idx (.idx (.var 4) (.const (.int 0))) (.const (.int 1)))) <| .skip)) <|
 .seq (.ret (.var 2)) <| .skip
noncomputable def Zg0:S:=
 .seq (.asg 1 (.slc (.var 0) (.const .none) (.const (.int 8)))) <|
 .seq (.asg 2 (.bfn .sum (.var 1))) <|
 .seq (.asg 3 (.idx (.const (.str [97,45,33,93,94,92,91,42])) (.bin .mod (.var 2) (.const (.int 8))))) <|
 .seq (.asg 4 (.idx (.const (.str [98,46,38,63,126,124,35,10])) (.bin .mod (.bin .fdiv (.var 2) (.const (.int 8))) (.const (.int 8))))) <|
 .seq (.asg 5 (.call 14 (.cons (.var 3) (.cons (.var 4) .nil)))) <|
 .seq (.asgO 6 (.cons (.tuple (.cons (.const (.str [110,97,109,101])) (.cons (.bin .add (.const (.str [42])) (.var 3)) .nil))) (.cons (.tuple (.cons (.const (.str [110,97,109,101])) (.cons (.bin .add (.bin .add (.const (.str [91,33])) (.var 3)) (.const (.str [93,42]))) .nil))) .nil))) <|
 .seq (.asg 7 (.const (.int 2))) <|
 .seq (.fors 8 (.var 1) (
  .seq (.asg 9 (.idx (.list (.cons (.const (.str [110,97,109,101])) (.cons (.const (.str [110,97,109,101])) (.cons (.const (.str [110,97,109,101])) (.cons (.const (.str [110,97,109,101])) (.cons (.const (.str [110,111,116])) (.cons (.const (.str [97,110,100])) (.cons (.const (.str [111,114])) (.cons (.const (.str [108,101,115,115])) .nil))))))))) (.bin .mod (.var 8) (.const (.int 8))))) <|
  .seq (.ifs (.tcmp .eq (.var 9) (.const (.str [110,97,109,101]))) (
   .seq (.app 6 (.tuple (.cons (.var 9) (.cons (.call 15 (.cons (.bin .fdiv (.var 8) (.const (.int 8))) (.cons (.var 3) (.cons (.var 4) .nil)))) .nil)))) <|
   .seq (.aug 7 .add (.const (.int 1))) <| .skip) (
   .seq (.ifs (.tcmp .eq (.var 9) (.const (.str [110,111,116]))) (
    .seq (.app 6 (.tuple (.cons (.var 9) (.cons (.const (.str [])) .nil)))) <| .skip) (
    .seq (.ifs (.tcmp .gt (.var 7) (.const (.int 1))) (
     .seq (.app 6 (.tuple (.cons (.var 9) (.cons (.const (.str [])) .nil)))) <|
     .seq (.aug 7 .sub (.const (.int 1))) <| .skip) (.skip)) <| .skip)) <| .skip)) <| .skip)) <|
 .seq (.asg 10 (.bin .mod (.bin .add (.bin .fdiv (.var 2) (.const (.int 64))) (.bfn .len (.var 1))) (.bin .add (.bfn .len (.tvar 6)) (.const (.int 1))))) <| .skip
end
section
set_option backward.match.sparseCases false
noncomputable def fuel:Nat:=1000
noncomputable def noΓ:ZaC:=λ_ _=>none
noncomputable def ZjU:List D->Option D
 | [.str [c]]=>some (.str (Zff c))
 | _=>none
noncomputable def Zup:List D->Option D:=run noΓ fuel 1 4 Zc8
noncomputable def Zsq:List D->Option D:=run noΓ fuel 2 5 Zky
noncomputable def ZrH:List D->Option D:=run noΓ fuel 1 1 Zil
noncomputable def Zuz:List D->Option D:=run noΓ fuel 2 7 ZaB
noncomputable def ZnA:List D->Option D:=run noΓ fuel 1 2 Zih
noncomputable def Zn9:List D->Option D:=run noΓ fuel 2 4 Zev
noncomputable def ΓA:ZaC
 | 2=>ZjU
 | 4=>Zuz
 | 5=>Zup
 | 7=>Zsq
 | 9=>ZrH
 | 13=>ZnA
 | 14=>Zn9
 | _=>λ_=>none
noncomputable def ZuF:List D->Option D:=run ΓA fuel 3 14 ZcG
noncomputable def ZtQ:List D->Option D:=run ΓA fuel 1 5 ZcW
noncomputable def ZtT:List D->Option D:=run ΓA fuel 2 5 Ze4
noncomputable def Zoj:List D->Option D:=run ΓA fuel 2 6 ZcH
noncomputable def Zk9:List D->Option D:=run ΓA fuel 2 8 Zey
noncomputable def Znc:List D->Option D:=run ΓA fuel 3 5 ZfO
noncomputable def ΓB:ZaC
 | 3=>ZuF
 | 6=>ZtQ
 | 8=>ZtT
 | 10=>Zoj
 | 12=>Zk9
 | 15=>Znc
 | f=>ΓA f
noncomputable def ZsF:S:=.seq (.asg 2 (.call 3 (.cons (.var 0) (.cons (.var 1) (.cons (.const (.str [46])) .nil))))) (.seq (.ret (.call 4 (.cons (.var 2) (.cons (.var 1) .nil)))) .skip)
noncomputable def ZtM(ds:List D)(d:D):Prop:=∃x,ds=[x]∧∀g:Addr,∃σ',ex ΓB fuel ZsF ((Ze3 3 [x]).set 1 (.fz (.obj g)))=some (.ret d,σ')
open Classical in
noncomputable def ZoU(ds:List D):Option D:=if h:∃d,ZtM ds d then some h.choose else none
set_option tactic.hygienic true in
theorem ZpI{ds:List D}{d:D}(h:ZoU ds=some d):ZtM ds d:=by
 unfold ZoU at h
 split at h
 ·rename_i h'
  cases h
  exact h'.choose_spec
 ·cases h
theorem Zp4{ds:List D}{d:D}(h:ZtM ds d):ZoU ds=some d:=by
 have h':∃d,ZtM ds d:=⟨d,h⟩
 unfold ZoU
 erw[rwl (dif_pos h' ..) ?_]
 obtain⟨x,rfl,hx⟩:=h
 obtain⟨y,e,hy⟩:=h'.choose_spec
 cases e
 obtain⟨σ1,e1⟩:=hx 0
 obtain⟨σ2,e2⟩:=hy 0
 rw[e1] at e2
 cases e2
 rfl
noncomputable def Zmd:List D->Option D:=run ΓB fuel 1 8 Zdx
noncomputable def ΓC:ZaC
 | 1=>ZoU
 | 11=>Zmd
 | f=>ΓB f
noncomputable def ΓV(s:List D->Option D):ZaC
 | 17=>s
 | f=>ΓB f
noncomputable def ZcC:Nat->List D->Option D
 | 0=>λ_=>none
 | k+1=>run (ΓV (ZcC k)) fuel 3 8 Zhr
noncomputable def Zgw:List D->Option D:=run ΓC fuel 3 10 Zcp
noncomputable def ΓD:ZaC
 | 16=>Zgw
 | 17=>ZcC 12
 | f=>ΓC f
noncomputable def ZoC:List D->Option D:=run ΓD fuel 2 7 Zex
noncomputable def ΓE:ZaC
 | 18=>ZoC
 | f=>ΓD f
noncomputable def ZpG:List Str:=["script","numbers","total","x","y","names","tokens","depth","number","word","cut","step","asked","half"]
noncomputable def Zdi:X:=.call 16 (.cons (.var 0) (.cons (.var 1) (.cons (.var 2) .nil)))
noncomputable def Zfm:X:=.tuple (.cons (.var 0) (.cons (.call 6 (.cons (.var 1) .nil)) .nil))
noncomputable def Zlj:X:=.tcmp .ne (.var 13) (.call 18 (.cons (.slc (.var 12) (.const .none) (.var 10)) (.cons (.var 5) .nil)))
noncomputable def Zl4:X:=.call 18 (.cons (.var 12) (.cons (.var 5) .nil))
noncomputable def ZbO(f:D->D->Option D):List D->D->Option D
 | [],a=>some a
 | d::ds,a=>(f a d).bind (ZbO f ds)
theorem Zvi(f:D->D->Option D)(d a:D)(ds:List D):ZbO f (d::ds) a=(f a d).bind (ZbO f ds):=rfl
noncomputable def ZeK(f:D->D->Option D)(d:D):Option (Option D):=Zrx (two λa b=>(f a b).map some) d
noncomputable def Zbh(Γ:ZaC)(dn:D)(x:X)(a b:D):Option D:=ev Γ [.fz dn,.fz a,.fz b] x
noncomputable abbrev Za4(Γ:ZaC)(N:Nat)(m:Nat)(st:S)(xl xc tX rX:X)(x:D)(σ:Sg)(dn:D)(toks asked l1:List D)(d2 d3:D)(cut:Int):Prop:=(ex Γ N st (Ze3 m [x])=some (.next,σ))∧(14<=σ.length)∧(rd σ 5=some dn)∧(rdt σ 6=some (.list toks))∧(rd σ 10=some (.int cut))∧(toks.length<=16777216)∧(ZbX (ZeK λa b=>ev Γ [.fz a,.fz b] xc) toks=some asked)∧(ZbO (Zbh Γ dn xl) (slice toks none (some cut)) (.list [])=some (.list l1))∧(ZbO (Zbh Γ dn xl) (slice toks (some cut) none) (.list l1)=some d2)∧(eqD d2 d3=some true)∧(∀f:Addr,tv Γ (((σ.set 11 (.fz (.obj f))).set 12 (.fz (.list asked))).set 13 (.fz (.list l1))) tX=some false∧ev Γ (((σ.set 11 (.fz (.obj f))).set 12 (.fz (.list asked))).set 13 (.fz (.list l1))) rX=some d3)
theorem Za4.ex{Γ:ZaC}{N:Nat}{m:Nat}{st:S}{xl xc tX rX:X}{x:D}{σ:Sg}{dn:D}{toks asked l1:List D}{d2 d3:D}{cut:Int}(slf:Za4 Γ N m st xl xc tX rX x σ dn toks asked l1 d2 d3 cut):ex Γ N st (Ze3 m [x])=some (.next,σ):=slf.1
theorem Za4.len{Γ:ZaC}{N:Nat}{m:Nat}{st:S}{xl xc tX rX:X}{x:D}{σ:Sg}{dn:D}{toks asked l1:List D}{d2 d3:D}{cut:Int}(slf:Za4 Γ N m st xl xc tX rX x σ dn toks asked l1 d2 d3 cut):14<=σ.length:=slf.2.1
theorem Za4.h5{Γ:ZaC}{N:Nat}{m:Nat}{st:S}{xl xc tX rX:X}{x:D}{σ:Sg}{dn:D}{toks asked l1:List D}{d2 d3:D}{cut:Int}(slf:Za4 Γ N m st xl xc tX rX x σ dn toks asked l1 d2 d3 cut):rd σ 5=some dn:=slf.2.2.1
theorem Za4.h6{Γ:ZaC}{N:Nat}{m:Nat}{st:S}{xl xc tX rX:X}{x:D}{σ:Sg}{dn:D}{toks asked l1:List D}{d2 d3:D}{cut:Int}(slf:Za4 Γ N m st xl xc tX rX x σ dn toks asked l1 d2 d3 cut):rdt σ 6=some (.list toks):=slf.2.2.2.1
theorem Za4.h10{Γ:ZaC}{N:Nat}{m:Nat}{st:S}{xl xc tX rX:X}{x:D}{σ:Sg}{dn:D}{toks asked l1:List D}{d2 d3:D}{cut:Int}(slf:Za4 Γ N m st xl xc tX rX x σ dn toks asked l1 d2 d3 cut):rd σ 10=some (.int cut):=slf.2.2.2.2.1
theorem Za4.hz{Γ:ZaC}{N:Nat}{m:Nat}{st:S}{xl xc tX rX:X}{x:D}{σ:Sg}{dn:D}{toks asked l1:List D}{d2 d3:D}{cut:Int}(slf:Za4 Γ N m st xl xc tX rX x σ dn toks asked l1 d2 d3 cut):toks.length<=16777216:=slf.2.2.2.2.2.1
theorem Za4.ask{Γ:ZaC}{N:Nat}{m:Nat}{st:S}{xl xc tX rX:X}{x:D}{σ:Sg}{dn:D}{toks asked l1:List D}{d2 d3:D}{cut:Int}(slf:Za4 Γ N m st xl xc tX rX x σ dn toks asked l1 d2 d3 cut):ZbX (ZeK λa b=>ev Γ [.fz a,.fz b] xc) toks=some asked:=slf.2.2.2.2.2.2.1
theorem Za4.f1{Γ:ZaC}{N:Nat}{m:Nat}{st:S}{xl xc tX rX:X}{x:D}{σ:Sg}{dn:D}{toks asked l1:List D}{d2 d3:D}{cut:Int}(slf:Za4 Γ N m st xl xc tX rX x σ dn toks asked l1 d2 d3 cut):ZbO (Zbh Γ dn xl) (slice toks none (some cut)) (.list [])=some (.list l1):=slf.2.2.2.2.2.2.2.1
theorem Za4.f2{Γ:ZaC}{N:Nat}{m:Nat}{st:S}{xl xc tX rX:X}{x:D}{σ:Sg}{dn:D}{toks asked l1:List D}{d2 d3:D}{cut:Int}(slf:Za4 Γ N m st xl xc tX rX x σ dn toks asked l1 d2 d3 cut):ZbO (Zbh Γ dn xl) (slice toks (some cut) none) (.list l1)=some d2:=slf.2.2.2.2.2.2.2.2.1
theorem Za4.eq{Γ:ZaC}{N:Nat}{m:Nat}{st:S}{xl xc tX rX:X}{x:D}{σ:Sg}{dn:D}{toks asked l1:List D}{d2 d3:D}{cut:Int}(slf:Za4 Γ N m st xl xc tX rX x σ dn toks asked l1 d2 d3 cut):eqD d2 d3=some true:=slf.2.2.2.2.2.2.2.2.2.1
theorem Za4.fin{Γ:ZaC}{N:Nat}{m:Nat}{st:S}{xl xc tX rX:X}{x:D}{σ:Sg}{dn:D}{toks asked l1:List D}{d2 d3:D}{cut:Int}(slf:Za4 Γ N m st xl xc tX rX x σ dn toks asked l1 d2 d3 cut):∀f:Addr,tv Γ (((σ.set 11 (.fz (.obj f))).set 12 (.fz (.list asked))).set 13 (.fz (.list l1))) tX=some false∧ev Γ (((σ.set 11 (.fz (.obj f))).set 12 (.fz (.list asked))).set 13 (.fz (.list l1))) rX=some d3:=slf.2.2.2.2.2.2.2.2.2.2
structure Zo0 (Γ:ZaC) (N:Nat) (m:Nat) (st:S) (xl xc tX rX:X) (x:D):Prop where
 run:∃(σ:Sg) (dn:D) (toks asked l1:List D) (d2 d3:D) (cut:Int),Za4 Γ N m st xl xc tX rX x σ dn toks asked l1 d2 d3 cut
end
section
theorem ZeI{pos:Pos}{a b:Int}{c:Value}(l:List Value)(h:TriplesOk l):codeAmong pos (l++[rawInt a,rawInt b,c])=(codeAmong pos l).or (if(a==pos.line&&b==pos.col)=true then some c else none):=by
 fun_induction TriplesOk l with
 | case1=>simp[codeAmong,rawInt]
 | case2 x t y u z rest ih=>
  simp only[List.cons_append,codeAmong]
  split
  ·rfl
  ·exact ih h
 | case3 l h1 h2=>exact h.elim
set_option tactic.hygienic true in
theorem ZcI{p q:Pos}(h1:p.line=q.line)(h2:p.col=q.col)(l:List Value):codeAmong p l=codeAmong q l:=by
  fun_induction codeAmong p l with
  | case1 a t b u c r h=>rw[h1,h2] at h;unfold codeAmong;erw[rwl (if_pos h ..) ?_]
  | case2 a t b u c r h ih => rw [h1, h2] at h; conv => rhs; unfold codeAmong
                              erw[rwl (if_neg h ..) ?_];exact ih
  | case3 l h => unfold codeAmong; split
                 · rename_i a t b u c r;exact absurd rfl (h a t b u c r)
                 · rfl
theorem Zfn{h h':Heap}{c P:Addr}(x:CodeHd h c P)(k:Kp h h'):CodeHd h' c P:=by
 obtain⟨o,vs,file,tf,flags,tg,inF,text,tt,e1,r1,r⟩:=x
 exact⟨o,vs,file,tf,flags,tg,inF,text,tt,k _ _ (.ZaD r1) e1,r1,r⟩
noncomputable def ZiY(h:Heap)(cv:Value)(q:Str):Prop:=∃c o vs t,cv=.ref c∧h.get? c=some o∧o.cls=.type "code" ∧ o.data=.fields vs∧vs[1]? = some (.str q t)
theorem ZiY.rec{h:Heap}{cv:Value}{q:Str}(x:ZiY h cv q):h.CodeRec cv q:=let ⟨c,o,vs,t,e,g,_,r⟩:=x;⟨c,o,vs,t,e,g,r⟩
theorem ZiY.kp{h h':Heap}{cv:Value}{q:Str}(x:ZiY h cv q)(k:Kp h h'):ZiY h' cv q:=let ⟨c,o,vs,t,e,g,n,r⟩:=x;⟨c,o,vs,t,e,k _ _ (.ZaD n) g,n,r⟩
noncomputable def Za5(c P:Addr)(xs:List (Pos×Str))(h:Heap):Prop:=CodeHd h c P∧∃ps,h.get? P=some (tabObj ps)∧TriplesOk ps.toList∧∀pq∈xs,∀cv,codeAmong pq.1 ps.toList=some cv->ZiY h cv pq.2
theorem Za5.kp{c P:Addr}{xs:List (Pos×Str)}{h h':Heap}(x:Za5 c P xs h)(k:Kp h h')(e:∀o,h.get? P=some o->h'.get? P=some o):Za5 c P xs h':=
 let ⟨x1,ps,x2,x3,x4⟩:=x;⟨Zfn x1 k,ps,e _ x2,x3,λpq hp cv hc=>(x4 pq hp cv hc).kp k⟩
set_option tactic.hygienic true in
theorem Za5.snoc{c P:Addr}{xs:List (Pos×Str)}{h h':Heap}{ps:Array Value}{pos:Pos}{qual:Str}{c':Value}(C:CodeHd h c P)(ht:TriplesOk ps.toList)(hx:∀pq∈xs,∀cv,codeAmong pq.1 ps.toList=some cv->ZiY h cv pq.2)
  (hu:∀pq∈xs,pq.1.line=pos.line->pq.1.col=pos.col->pq.2=qual) (k:Kp h h') (hP:h'.get? P=some (tabObj (ps++#[rawInt pos.line,rawInt pos.col,c']))) (hc:ZiY h' c' qual):Za5 c P xs h':=by
 refine⟨Zfn C k,_,hP,by simpa using TriplesOk_snoc _ _ _ _ ht,λpq hp cv e=>?_⟩
 have e2:codeAmong pq.1 (ps.toList++[rawInt pos.line,rawInt pos.col,c'])=some cv:=by simpa using e
 rw[ZeI _ ht] at e2
 cases e3:codeAmong pq.1 ps.toList with
 | some d=>rw[e3] at e2;cases e2;exact(hx pq hp _ e3).kp k
 | none=>
  rw[e3] at e2
  simp only[Option.none_or] at e2
  split at e2
  ·rename_i hh
   cases e2
   simp only[Bool.and_eq_true,beq_iff_eq,Int.natCast_inj] at hh
   erw[rwl (hu pq hp hh.1.symm hh.2.symm ..) ?_]
   exact hc
  ·cases e2
theorem Kp.tab{h h':Heap}{P:Addr}{ps:Array Value}(hP:h.get? P=some (tabObj ps))(hx:Heap.ExtBut P h h'):Kp h h':=λb o n e=>hx b o (λq=>by subst q;rw[hP] at e;cases e;exact n _ rfl) e
section
variable {M:Model}{A:Around}{E:Value->Shared->Prop}{s:Shared}{name qual:Str}{params:Arguments}{body:Expr}{scope:Scope}{env:Env}{c P:Addr}{xs:List (Pos×Str)}{pos:Pos}{firstLine:Nat}{mg:Str->Option Value}
 {clos:List (Str×Addr)} {Q:Value->Shared->Prop}
noncomputable abbrev Made(P:Addr)(s:Shared)(h':Heap)(cv:Value)(qual:Str):Prop:=(Kp s.heap h')∧(∀b o,s.heap.get? b=some o->∃o',h'.get? b=some o')∧(∀b o,b≠P->s.heap.get? b=some o->h'.get? b=some o)∧(ZiY h' cv qual)
theorem Made.kp{P:Addr}{s:Shared}{h':Heap}{cv:Value}{qual:Str}(slf:Made P s h' cv qual):Kp s.heap h':=slf.1
theorem Made.ex{P:Addr}{s:Shared}{h':Heap}{cv:Value}{qual:Str}(slf:Made P s h' cv qual):∀b o,s.heap.get? b=some o->∃o',h'.get? b=some o':=slf.2.1
theorem Made.bt{P:Addr}{s:Shared}{h':Heap}{cv:Value}{qual:Str}(slf:Made P s h' cv qual):∀b o,b≠P->s.heap.get? b=some o->h'.get? b=some o:=slf.2.2.1
theorem Made.rc{P:Addr}{s:Shared}{h':Heap}{cv:Value}{qual:Str}(slf:Made P s h' cv qual):ZiY h' cv qual:=slf.2.2.2
theorem Zo4(T:Za5 c P xs s.heap)(hm:∃pq∈xs,pq.1.line=pos.line∧pq.1.col=pos.col∧pq.2=qual)(hu:∀pq∈xs,pq.1.line=pos.line->pq.1.col=pos.col->pq.2=qual)(hcl:closureFor scope env=pure clos)(hne:clos=[]∨clos≠[])(hge0:env.globals=mainGlobals)(hg:s.heap.Ns mainGlobals mg)(hcode:env.code=.ref c)(hgP:mainGlobals≠P)
  (hb:s.heap.BuiltinsAt mg P) (ht0:1<=s.toks)
  (k:∀cv ctv h' tk,Made P s h' cv qual->Za5 c P xs h'->1<=tk->
   Q (.ref h'.objs.size) { s with heap:=h'.push { cls:=.type "function",data:=.func (kla_fn name qual params body scope clos ((mg "__name__").getD .none) cv ctv) },toks:=tk }) :
  wpAny M A (makeFunction name qual params (.expr body) scope env [] [] [] pos firstLine) Q E s:=by
 obtain⟨C,ps,hP,ht,hx⟩:=T
 have hf0:∀cv,codeAmong pos ps.toList=some cv->ZiY s.heap cv qual:=λcv e=>by
  obtain⟨pq,hp,e1,e2,e3⟩:=hm
  erw[rwr (e3 ..) ?_]
  exact hx pq hp cv ((ZcI e1 e2 _).trans e)
 refine wrap ht0 ?_
 cases hf:codeAmong pos ps.toList with
 | some cv=>
  refine kla_makeFunctionHit (mg:=mg) hcl hge0 hg hcode C hP ht hf hb λctv h' tk hk hsz htk=>?_
  have kp:Kp s.heap h':=.of hk
  exact k cv ctv h' tk ⟨kp,λb o e=>⟨o,hk b o e⟩,λb o _ e=>hk b o e,(hf0 _ hf).kp kp⟩ ⟨Zfn C kp,ps,hk _ _ hP,ht,λpq hp cv e=>(hx pq hp cv e).kp kp⟩ htk
 | none=>
  erw[rwl (makeFunction_eq ..) ?_]
  simp only[List.zip_nil_right,List.filterMap_nil,List.isEmpty_nil,if_true,pure_bind]
  obtain⟨bm,ob,hbm,hne0,_,hneP,hbo,hcls,hdict,hdata⟩:=hb
  have main:∀(s':Shared) (ctv:Value),(∀b o,s.heap.get? b=some o->s'.heap.get? b=some o)->s'={ s with heap:=s'.heap,toks:=s'.toks }->
    wpAny M A (do
     let code ←functionCode env pos firstLine name qual params scope (.expr body)
     let bi ←builtinsFor env.globals env.builtins
     let nm ←nsGet env.globals "__name__"
     let d ←(pure Value.none:Sem Value)
     newObj (.type "function") (.func { name:=name,qualname:=qual,params:=params,body:=.expr body,scope:=scope,globals:=env.globals,closure:=clos,defaults:=.none,kwdefaults:=.none,doc:=d,pyModule:=nm.getD .none,code:=code,closureTuple:=ctv,builtins:=bi })) (λv s'=>1<=s'.toks->Q v s') E s':=by
   intro s' ctv hk hs'
   have C':=C.keeps hk
   have hP':=hk _ _ hP
   refine wpAny_bind (wpAny_functionCodeX hcode (C'.code hP' ht) (C'.tab hP') hf λc' h' tk hx' hge hlt _ hrec htb hc'=>?_)
   have hg':=(hg.keeps hk).extBut hx' hgP
   erw[rwl (hge0 ..) ?_]
   refine wpAny_bind (wpAny_builtinsFor hg' hbm hne0 (hx' _ _ hneP (hk _ _ hbo)) hcls hdict hdata ?_)
   refine wpAny_bind (wpAny_nsGet hg' ?_)
   have kp':Kp s'.heap h':=.tab hP' hx'
   have kp:Kp s.heap h':=(Kp.of hk).trans kp'
   have hr:ZiY h' (.ref c') qual:=by
    obtain⟨P',_,_,⟨⟨oc,vc,hoc,hcc,hdc,_⟩,_⟩⟩:=hc'
    obtain⟨c₂,o₂,vs₂,t₂,e₂,g₂,r₂,r₃⟩:=hrec
    cases e₂
    rw[hoc] at g₂;cases g₂
    exact⟨c',oc,vs₂,t₂,rfl,hoc,hcc,r₂,r₃⟩
   refine wpAny_bind (wpAny_pure (wpAny_newObj_type (λhtk=>?_) (by size_fits)))
   have:=k (.ref c') ctv h' tk ⟨kp,λb o e=>?_,λb o hb e=>hx' b o hb (hk b o e),hr⟩ (.snoc C ht hx hu kp htb.2 hr) htk
   ·erw[rwl (hs' ..) ?_];exact this
   ·by_cases q:b=P
    ·subst q;exact⟨_,htb.2⟩
    ·exact⟨o,hx' b o q (hk b o e)⟩
  unfold makeTail
  erw[rwl (hcl ..) ?_]
  refine wpAny_bind (wpAny_pure ?_)
  cases clos with
  | nil=>
   simp only[List.isEmpty_nil,if_true]
   exact wpAny_bind (wpAny_pure (main s .none (λ_ _ e=>e) rfl))
  | cons q r=>
   simp only[List.isEmpty_cons,Bool.false_eq_true,if_false]
   refine wpAny_bind (wpAny_newTextTuple ?_)
   exact main _ _ (λb o e=>Heap.get?_push_of_some _ e) (by rfl)
theorem ZsR(T:Za5 c P xs s.heap)(hm:∃pq∈xs,pq.1.line=pos.line∧pq.1.col=pos.col∧pq.2=qual)(hu:∀pq∈xs,pq.1.line=pos.line->pq.1.col=pos.col->pq.2=qual)(hcode:env.code=.ref c)(ht0:1<=s.toks)
  (k:∀cv h' tk,Made P s h' cv qual->Za5 c P xs h'->1<=tk->s.heap.objs.size<=h'.objs.size->Q cv { s with heap:=h',toks:=tk }) :
  wpAny M A (genexprCode env pos qual scope) Q E s:=by
 obtain⟨C,ps,hP,ht,hx⟩:=T
 have hf0:∀cv,codeAmong pos ps.toList=some cv->ZiY s.heap cv qual:=λcv e=>by
  obtain⟨pq,hp,e1,e2,e3⟩:=hm
  erw[rwr (e3 ..) ?_]
  exact hx pq hp cv ((ZcI e1 e2 _).trans e)
 refine wrap ht0 ?_
 cases hf:codeAmong pos ps.toList with
 | some cv=>exact wpAny_genexprCode_hit hcode (C.code hP ht) hf λhtk=>k cv s.heap s.toks ⟨.refl _,λb o e=>⟨o,e⟩,λ_ _ _ e=>e,hf0 _ hf⟩ ⟨C,ps,hP,ht,hx⟩ htk (Nat.le_refl _)
 | none=>
  refine wpAny_genexprCodeX hcode (C.code hP ht) (C.tab hP) hf λc' h' tk hx' hge hlt _ hrec htb hc' htk=>?_
  have kp:Kp s.heap h':=.tab hP hx'
  have hr:ZiY h' (.ref c') qual:=by
   obtain⟨P',_,_,⟨⟨oc,vc,hoc,hcc,hdc,_⟩,_⟩⟩:=hc'
   obtain⟨c₂,o₂,vs₂,t₂,e₂,g₂,r₂,r₃⟩:=hrec
   cases e₂
   rw[hoc] at g₂;cases g₂
   exact⟨c',oc,vs₂,t₂,rfl,hoc,hcc,r₂,r₃⟩
  refine k (.ref c') h' tk ⟨kp,λb o e=>?_,λb o hb e=>hx' b o hb e,hr⟩ (.snoc C ht hx hu kp htb.2 hr) htk (Nat.le_trans hge (Nat.le_of_lt hlt))
  by_cases q:b=P
  ·subst q;exact⟨_,htb.2⟩
  ·exact⟨o,hx' b o q e⟩
end
end
section
noncomputable def GY(C I l:Addr)(n:Nat)(R:Nat->Value->Prop):Protocol:=λm s₀ v s₁ kap=>
 R (n - 1 - m) v∧GenSince C [I] s₀ s₁∧∀s'':Shared,1<=s''.toks->(∀b∈[C,I,l],∀o,s₁.heap.get? b=some o->s''.heap.get? b=some o)->kap (.send .none) s''
noncomputable def ZuM(C I:Addr):GenEnd:=λn s₀ r s₁=>r=.ok .next∧(n=0∧GenSince C [I] s₀ s₁)
noncomputable abbrev ZcJ(elt iter:Expr)(x:Str)(px:Pos)(scope:Scope)(pos:Pos):Expr:=.GeneratorExp elt [⟨.Name x px,iter,[],0⟩] scope pos
section
variable {prog:Program}{w:World}{A:Around}
structure ZqG (prog:Program) (w:World) (cenv:Env) (x:Str) (elt:Expr) (items:Array Value) (R:Nat->Value->Prop) (D U:Nat):Prop where
 elt:∀(A':Around) E' i v (s₂:Shared) m₂,A'.handled=none->A'.depth<=D->A'.units<=U->items[i]? = some v->1<=s₂.toks->s₂.heap.Ns cenv.locals m₂->m₂ x=some v->wpAny (model prog w) A' (eval elt cenv) (λy s₃=>R i y∧Keeps s₂ s₃) E' s₂
theorem ZjX (elt iter : Expr) (x : Str) (px : Pos) (scope : Scope) (pos : Pos) (it : Value) (env : Env) (hco : env.scope.isCoroutine = false) : compTurn (ZcJ elt iter x px scope pos) 0 it .none env = (do
      standAt iter.pos
      match ←pyNext it with
      | none=>pure (.done .next)
      | some v=>
        assign (.Name x px) env v
        (do let v ←eval elt env;standAt elt.pos;let _ ←yieldValue v:Sem Unit)
        again (.compLoop (ZcJ elt iter x px scope pos) 0 it .none env)):=by
  erw[rwl (compTurn_gen ..) ?_]
  have hy:∀v,yieldOut env v=yieldValue v:=λv=>by simp only[yieldOut,hco,Bool.false_eq_true,if_false]
  simp only[hy]
  rfl
theorem Zn3{elt iter:Expr}{x:Str}{px:Pos}{scope:Scope}{pos:Pos}{I l:Addr}{items:Array Value}{R:Nat->Value->Prop}{cenv:Env}(hh:A.handled=none)(hx:cenv.kindOf x=some .local)
  (hp:(cenv.scope.kind==.class||(cenv.scope.kind==.module&&cenv.locals != cenv.globals))=false) (hco:cenv.scope.isCoroutine=false) (hCI:cenv.locals≠I) (hCl:cenv.locals≠l) (hlI:l≠I) (T:ZqG prog w cenv x elt items R (A.depth+1) (A.units+3)) :
  ∀(k i:Nat) (s₀ s:Shared) (m:Str->Option Value),items.size - i=k->i<=items.size->s.heap.IsListIter I l i->s.heap.IsList l items->s.heap.Ns cenv.locals m->1<=s.toks->GenSince cenv.locals [I] s₀ s->
   Seg (model prog w) A (ZuM cenv.locals I) (GY cenv.locals I l items.size R) (items.size - i) s₀ (.compLoop (ZcJ elt iter x px scope pos) 0 (.ref I) .none cenv) ((model prog w).den (.compLoop (ZcJ elt iter x px scope pos) 0 (.ref I) .none cenv)) [] s:=by
 have hh':(A.over (.compLoop (ZcJ elt iter x px scope pos) 0 (.ref I) .none cenv) []).handled=none:=hh
 have hdep':(A.over (.compLoop (ZcJ elt iter x px scope pos) 0 (.ref I) .none cenv) []).depth<=A.depth+1:=Nat.le_of_eq rfl
 have huni':(A.over (.compLoop (ZcJ elt iter x px scope pos) 0 (.ref I) .none cenv) []).units<=A.units+3:=Nat.le_of_eq rfl
 intro k
 induction k with
 | zero=>
  intro i s₀ s m hk hi hit hl hn ht hs
  have e:items.size - i=0:=hk
  erw[rwl (e ..) ?_]
  show Seg _ A _ _ _ s₀ _ ((compTurn (ZcJ elt iter x px scope pos) 0 (.ref I) .none cenv).onRaise (leaving cenv)) [] s
  erw[rwl (ZjX _ _ _ _ _ _ _ _ hco ..) (rwl (Sem.onRaise_eq_wrap ..) ?_)]
  refine seg_bind_wrap (wpAny_standAt ?_)
  have hle:items.size<=i:=Nat.le_of_sub_eq_zero hk
  refine seg_bind_wrap (wpAny_pyNext_list_end hh' hit hl (by first | exact hle | simpa using hle) λh' hs'=>?_)
  exact seg_end (.ok .next) ⟨rfl,rfl,hs.step (tk:=s.toks) λb o _ hw e=>hs' b o (λq=>hw (by simp[q])) e⟩
 | succ k ih=>
  intro i s₀ s m hk hi hit hl hn ht hs
  have hlt:i < items.size:=Nat.lt_of_sub_eq_succ hk
  have e:items.size - i=(items.size - (i+1))+1:=Zh0 hlt
  erw[rwl (e ..) ?_]
  show Seg _ A _ _ _ s₀ _ ((compTurn (ZcJ elt iter x px scope pos) 0 (.ref I) .none cenv).onRaise (leaving cenv)) [] s
  erw[rwl (ZjX _ _ _ _ _ _ _ _ hco ..) (rwl (Sem.onRaise_eq_wrap ..) ?_)]
  refine seg_bind_wrap (wpAny_standAt ?_)
  have hv:items[i]? = some items[i]:=Array.getElem?_eq_getElem hlt
  refine seg_bind_wrap (wpAny_pyNext_list_item hit hl hv λh₁ hit₁ hs₁=>?_)
  refine seg_bind_wrap (wpAny_assign_Name (wpAny_storeName_local hx (hn.sameBut hs₁ hCI) (λh₂ hn₂ hs₂=>?_) hp))
  have hit₂:h₂.IsListIter I l (i+1):=hit₁.at λo e=>hs₂.extBut _ o (Ne.symm hCI) e
  have hl₂:h₂.IsList l items:=(hl.extBut hs₁.extBut hlI).extBut hs₂.extBut (Ne.symm hCl)
  erw[rwl (Sem.bind_eq_wrap' ..) (rwl (Sem.bind_eq_wrap' ..) (rwl (Sem.wrap_wrap ..) (rwl (Sem.wrap_wrap ..) ?_)))]
  refine seg_wrap (wpAny_mono (wpAny_toks_of (n:=1) (Nat.le_succ_of_le ht) (T.elt _ _ i _ _ _ hh' hdep' huni' hv (Nat.le_succ_of_le ht) hn₂ (by simp))) (λy s₄ h₄=>?_) λ_ _ e=>e.2)
  obtain⟨ht₄,hR,h₄,tk₄,rfl,hk₄⟩:=h₄
  refine seg_at (seg_yield rfl rfl rfl ⟨?_,?_,λs'' ht'' hal=>?_⟩)
  ·have:=ZtA hlt
   erw[rwl (this ..) ?_];exact hR
  ·have:=hs.step (h':=h₄) (tk:=tk₄) λb o hC hw e=>hk₄ b o (hs₂.extBut b o hC (hs₁.extBut b o (λq=>hw (by simp[q])) e))
   exact this
  ·exact seg_again rfl (ih (i+1) s'' s'' _ (Nat.succ.inj (e.symm.trans hk)) hlt (hit₂.at λo e=>hal I (by simp) o (hk₄ _ o e)) (hl₂.at λo e=>hal l (by simp) o (hk₄ _ o e)) ((hn₂.keeps hk₄).at' λo e=>hal _ (by simp) o e) ht'' (GenSince.refl _ _ _))
theorem ZmL{elt iter:Expr}{x:Str}{px:Pos}{scope:Scope}{pos:Pos}{I l:Addr}{items:Array Value}{R:Nat->Value->Prop}{cenv:Env}(hh:A.handled=none)(hx:cenv.kindOf x=some .local)
  (hp:(cenv.scope.kind==.class||(cenv.scope.kind==.module&&cenv.locals != cenv.globals))=false) (hco:cenv.scope.isCoroutine=false) (hCI:cenv.locals≠I) (hCl:cenv.locals≠l) (hlI:l≠I) (T:ZqG prog w cenv x elt items R (A.depth+1) (A.units+3))
  (s:Shared) (m:Str->Option Value) (hit:s.heap.IsListIter I l 0) (hl:s.heap.IsList l items) (hn:s.heap.Ns cenv.locals m) (ht:1<=s.toks) :
  Seg (model prog w) A (ZuM cenv.locals I) (GY cenv.locals I l items.size R) items.size s (.compStart (ZcJ elt iter x px scope pos) 0 (.ref I) .none cenv) ((model prog w).den (.compStart (ZcJ elt iter x px scope pos) 0 (.ref I) .none cenv)) [] s:=by
 have hh':(A.over (.compStart (ZcJ elt iter x px scope pos) 0 (.ref I) .none cenv) []).handled=none:=hh
 have loop:=Zn3 (iter:=iter) (px:=px) (scope:=scope) (pos:=pos) hh hx hp hco hCI hCl hlI T items.size 0 s s m (Nat.sub_zero _) (Nat.zero_le _) hit hl hn ht (GenSince.refl _ _ _)
 rw[Nat.sub_zero] at loop
 show Seg _ A _ _ _ s _ ((compStart (ZcJ elt iter x px scope pos) 0 (.ref I) .none cenv).onRaise (leaving cenv)) [] s
 unfold compStart
 erw[rwl (Sem.onRaise_eq_wrap ..) ?_]
 show Seg _ A _ _ _ s _ ((ask >>= _).wrap _ _ _ _) [] s
 refine seg_bind_wrap (wpAny_askSetting ?_)
 split
 ·exact seg_again rfl loop
 ·first
   | exact seg_bind_wrap (wpAny_rule (seg_bind_wrap (wpAny_standAt (seg_bind_wrap (wpAny_pyIter_listiter hit (seg_again rfl loop))))))
   | (refine seg_bind_wrap (wpAny_rule ?_);show Seg _ A _ _ _ s _ ((standAt iter.pos >>= _).wrap _ _ _ _) [] s;exact seg_bind_wrap (wpAny_standAt (seg_bind_wrap (wpAny_pyIter_listiter hit (seg_again rfl loop)))))
noncomputable def Zug(prog:Program)(w:World)(A:Around)(a:Addr)(g:Nat)(C I l:Addr)(n:Nat)(R:Nat->Value->Prop)(j:Nat)(s:Shared):Prop:=
 s.heap.IsGen a g∧s.heap.NoLimit∧1<=s.toks∧∃gs,s.gens[g]? = some gs∧∀s'':Shared,1<=s''.toks->(∀b∈[C,I,l],∀o,s.heap.get? b=some o->s''.heap.get? b=some o)->
  gs.Goes (model prog w) A.in1 (ZuM C I) (GY C I l n R) (n - j) (.send .none) s''
theorem ZmR(hh:A.handled=none)(a:Addr)(g:Nat)(C I l:Addr)(n:Nat)(R:Nat->Value->Prop)(haC:a≠C)(haI:a≠I)(hroom:A.depth < recursionLimit)(hcC:cStatics≠C)(hcI:cStatics≠I) :
    WalksS prog w A a [a,C,I,l,cStatics] [C,I] (GenOnlyQ g) n R (Zug prog w A a g C I l n R) where
  sub:=λb hb=>by
    rcases List.mem_cons.mp hb with rfl | hb
    · simp
    · have:=List.mem_singleton.mp hb;subst this;simp
  grefl:=λ_=>.inl rfl
  gtrans:=λ_ _ _ x y=>x.trans y
  frame:=λj s h' tk st htk hk=>
    ⟨let ⟨o,nm,qn,ho,r⟩:=st.1;⟨o,nm,qn,hk a (by simp) o ho,r⟩,
     (let ⟨mc,hns,hnn⟩:=st.2.1;⟨mc,hns.at' λo e=>hk cStatics (by simp) o e,hnn⟩),Nat.le_trans st.2.2.1 htk,
     let ⟨gs,hgs,hgo⟩:=st.2.2.2;⟨gs,hgs,λs'' ht hal=>hgo s'' ht λb hb o e=>hal b hb o (hk b (by simp at hb ⊢;rcases hb with h | h | h<;>simp[h]) o e)⟩⟩
  item:=λj s Q E hj st hQ=>by
    obtain⟨hg,hl,ht,gs,hgs,hgo⟩:=st
    obtain⟨m,e,hm⟩:∃m,n - (j+1)=m∧n - j=m+1:=⟨_,rfl,Zh0 hj⟩
    rw[hm] at hgo
    refine wpAny_with_toks (Nat.le_refl s.toks) ?_
    refine wpAny_pyNext_genexpQ (P:=λn s₀ s₁=>n=0∧GenSince C [I] s₀ s₁) hh hl hroom hg hgs (hgo _ ht λ_ _ _ e=>e) (λv s₁ gs' hb hv=>?_) (λs₁ hp h' hk=>?_)
    · obtain⟨hF,⟨h₁,tk₁,rfl,hk₁⟩,hkap⟩:=hv
      have hidx:n - 1 - (m+1 - 1)=j:=e▸ZtA hj
      rw[hidx] at hF
      intro htk
      refine hQ v _ hF ⟨let ⟨o,nm,qn,ho,r⟩:=hg;⟨o,nm,qn,hk₁ a o haC (by simp[haI]) ho,r⟩,(let ⟨mc,hns,hnn⟩:=hl;⟨mc,hns.at' λo e=>hk₁ cStatics o hcC (by simp[hcI]) e,hnn⟩),Nat.le_trans ht htk,gs',setGen_self (gs:=.running) (setGen_self hgs),λs'' ht'' hal=>?_⟩
        ⟨λb o hb e=>hk₁ b o (λh=>hb (by simp[h])) (λh=>hb (by have:=List.mem_singleton.mp h;simp[this])) e,GenOnlyQ.of ((GenOnly.setGen s g .running).trans (GenOnly.setGen _ g gs')) (setGen_self (gs:=.running) (setGen_self hgs)) hb,rfl,rfl,htk⟩
      erw[rwl (e ..) ?_]
      exact hkap s'' ht'' hal
    · exact absurd hp.1 (Nat.succ_ne_zero m)
  done:=λs Q E st hQ=>by
    obtain⟨hg,hl,ht,gs,hgs,hgo⟩:=st
    rw[Nat.sub_self] at hgo
    refine wpAny_with_toks (Nat.le_refl s.toks) ?_
    refine wpAny_pyNext_genexpQ (P:=λn s₀ s₁=>n=0∧GenSince C [I] s₀ s₁) hh hl hroom hg hgs (hgo _ ht λ_ _ _ e=>e) (λv s₁ gs' hb hv=>?_) (λs₁ hp h' hk=>?_)
    · obtain⟨_,⟨h₁,tk₁,rfl,hk₁⟩,hkap⟩:=hv
      intro htk
      exact False.elim (hkap _ (Nat.le_trans ht htk) λ_ _ _ e=>e)
    · obtain⟨_,h₁,tk₁,rfl,hk₁⟩:=hp
      intro htk
      exact hQ _ ⟨λb o hb e=>hk b o (hk₁ b o (λh=>hb (by simp[h])) (λh=>hb (by have:=List.mem_singleton.mp h;simp[this])) e),GenOnlyQ.of ((GenOnly.setGen s g .running).trans (GenOnly.setGen _ g .finished)) (setGen_self (gs:=.running) (setGen_self hgs)) rfl,rfl,rfl,htk⟩
  self:=λ_ _ _ _ st hQ=>wpAny_pyIter_gen st.1 hQ
end
end
section
noncomputable abbrev Odd(F:Fp)(c P:Addr)(xs:List (Pos×Str))(mg:Str->Option Value):Prop:=(F.env.code=.ref c)∧(∀h,F.Gd h->Za5 c P xs h)∧(∀h h',F.Gd h->Kp h h'->(∀b o,b≠P->h.get? b=some o->h'.get? b=some o)->Za5 c P xs h'->F.Gd h')∧(mainGlobals≠P)∧(∀h,F.Gd h->h.BuiltinsAt mg P)∧(∀pq∈xs,∀pq'∈xs,pq.1.line=pq'.1.line->pq.1.col=pq'.1.col->pq.2=pq'.2)
theorem Odd.code{F:Fp}{c P:Addr}{xs:List (Pos×Str)}{mg:Str->Option Value}(slf:Odd F c P xs mg):F.env.code=.ref c:=slf.1
theorem Odd.tab{F:Fp}{c P:Addr}{xs:List (Pos×Str)}{mg:Str->Option Value}(slf:Odd F c P xs mg):∀h,F.Gd h->Za5 c P xs h:=slf.2.1
theorem Odd.set{F:Fp}{c P:Addr}{xs:List (Pos×Str)}{mg:Str->Option Value}(slf:Odd F c P xs mg):∀h h',F.Gd h->Kp h h'->(∀b o,b≠P->h.get? b=some o->h'.get? b=some o)->Za5 c P xs h'->F.Gd h':=slf.2.2.1
theorem Odd.nP{F:Fp}{c P:Addr}{xs:List (Pos×Str)}{mg:Str->Option Value}(slf:Odd F c P xs mg):mainGlobals≠P:=slf.2.2.2.1
theorem Odd.bi{F:Fp}{c P:Addr}{xs:List (Pos×Str)}{mg:Str->Option Value}(slf:Odd F c P xs mg):∀h,F.Gd h->h.BuiltinsAt mg P:=slf.2.2.2.2.1
theorem Odd.hu{F:Fp}{c P:Addr}{xs:List (Pos×Str)}{mg:Str->Option Value}(slf:Odd F c P xs mg):∀pq∈xs,∀pq'∈xs,pq.1.line=pq'.1.line->pq.1.col=pq'.1.col->pq.2=pq'.2:=slf.2.2.2.2.2
section
variable {prog:Program}{w:World}{F:Fp}{K:Addr->Prop}{ad:Nat->Bool->Addr}{σ:Sg}{s:Shared}{mg mb:Str->Option Value}{n:Nat}{A:Around}{E:Value->Shared->Prop}{c P:Addr}{xs:List (Pos×Str)}
theorem Zlv(sep:List Nat)(ls:List (List Nat)):(Txt.join ⟨sep.toArray⟩ (ls.map λl=>(⟨l.toArray⟩:Str))).cps.toList=ZbT sep ls:=by
 show(Builtin.Str.glued _ _).cps.toList=_
 erw[rwl (StrLaws.glued_eq_join ..) (rwl (Zdp ..) ?_)]
theorem Znd(G:Gr F.base mg mb F.Gd)(H:Fs F)(O:Odd F c P xs mg)(L:Lv A n)(f:Fm F K ad σ s){sep:List Nat}{t:Tok}{j:Nat}{yj:Str}{pj gpos px:Pos}{elt:Expr}{x:Str}{scope:Scope}{ds:List D}{txs:List (List Nat)}{Q:Value->Shared->Prop}
  (hj:rdt σ j=some (.list ds)) (hyj:F.nm[j]? = some yj) (d1:yj≠("__debug__" : Str)) (d2:yj≠("__classdict__" : Str)) (hmem:∃pq∈xs,pq.1.line=gpos.line∧pq.1.col=gpos.col∧pq.2=F.env.qual++("<genexpr>" : Str))
  (hco:scope.isCoroutine=false) (hcl:closureFor scope F.env=pure []) (hcell:∀y∈scope.names,y.2≠.cell) (h0:scope.names.lookup (".0" : Str)=some NameKind.local) (hx:scope.names.lookup x=some .local) (hkind:scope.kind=.function)
  (hsep:sep.length<=4) (hl1:txs.length<=1000000) (hl2:(txs.map (·.length)).sum<=1000000) (hlen:txs.length=ds.length)
  (hT:∀(C:Addr) (code:Value) (vs:List Value) (h:Heap),Zad (λ_=>True) h vs ds->ZqG prog w (genEnv scope [] C code builtinsNs F.env) x elt vs.toArray (λi y=>∃l t,txs[i]? = some l∧y=.str ⟨l.toArray⟩ t) (A.depth+1) (A.units+6))
  (k:∀v s',Gw s s'->Ok F.Gd s'->Rd (Pq F K ad σ) s'.heap v (.str (ZbT sep txs))->Q v s') :
  wpAny (model prog w) A (eval (ZcJ elt (.Name yj pj) x px scope gpos) F.env) (λv s₁=>wpAny (model prog w) A (call (.builtin "str.join") [.str ⟨sep.toArray⟩ t,v]) Q E s₁) E s:=by
 obtain⟨y',lv,hy',hvar,hrd⟩:=(f.ZcE H).ZtK j _ hj
 rw[hyj] at hy';cases hy'
 obtain⟨l,vs,rfl,hpl,hra,hz⟩:=hrd.Zbq
 refine wpAny_GeneratorExp_make hco hcl hcell h0 hkind (by have:=L.dp;have e:recursionLimit=1000:=rfl;lia) ?_ (λ_=>rfl)
 refine Zcn (ZfC H) hvar d1 d2 (wpAny_pyIter_list hpl.isList ?_)
 have sI:=Zau s.heap
 have kI:∀b o,s.heap.get? b=some o->(s.heap.push { cls:=.type "list_iterator",data:=.fields #[.ref l,.int 0 0] }).get? b=some o:=λ_ _ e=>Heap.get?_push_of_some _ e
 have hit:(s.heap.push { cls:=.type "list_iterator",data:=.fields #[.ref l,.int 0 0] }).IsListIter s.heap.objs.size l 0:=⟨_,Heap.get?_push_size _ rfl,rfl,rfl⟩
 generalize hI:s.heap.objs.size=I at *
 generalize hh1:s.heap.push { cls:=.type "list_iterator",data:=.fields #[.ref l,.int 0 0] }=h1 at *
 have ok1:Ok F.Gd { s with heap:=h1 }:=⟨G.keeps f.ok.gd kI,f.ok.tk⟩
 refine⟨G.lim _ ok1.gd,ZsR (c:=c) (P:=P) (xs:=xs) (O.tab _ ok1.gd) hmem (λpq hp e1 e2=>(by obtain⟨qq,hq,f1,f2,f3⟩:=hmem;erw[rwr (f3 ..) ?_];exact O.hu pq hp _ hq (e1.trans f1.symm) (e2.trans f2.symm))) O.code f.ok.tk λcv h2 tk2 Md T2 htk2 hsz2=>?_⟩
 have Gd2:F.Gd h2:=O.set _ _ ok1.gd Md.kp Md.bt T2
 obtain⟨bm,ob,b1,b2,b3,b4,b5,b6,b7,b8⟩:=O.bi _ Gd2
 refine wpAny_builtinsFor (by erw[rwl (H.gl ..) ?_];exact G.g _ Gd2) b1 b2 b5 b6 b7 b8 ?_
 intro h3 hns3 hsb3
 dsimp only at hns3 hsb3 ⊢
 have sC:=Zau h2
 have kC:∀b o,h2.get? b=some o->h3.get? b=some o:=λb o e=>hsb3.extBut b o (λq=>by rw[q,sC] at e;cases e) (Heap.get?_push_of_some _ e)
 generalize hC:h2.objs.size=C at *
 have sa:=Zau h3
 generalize hgen:({ cls:=.type "generator",data:=.fields #[.int s.gens.size 0,.str "<genexpr>" (tk2+1),.str (F.env.qual++("<genexpr>" : Str)) (tk2+1+1)] }:Obj)=og
 have kG:∀b o,h3.get? b=some o->(h3.push og).get? b=some o:=λ_ _ e=>Heap.get?_push_of_some _ e
 have hgenAt:(h3.push og).get? h3.objs.size=some og:=Heap.get?_push_size _ (by subst hgen;rfl)
 generalize ha:h3.objs.size=a at *
 generalize hh4:h3.push og=h4 at *
 have kl:l≠I:=λq=>by obtain⟨_,e⟩:=hpl;rw[q,sI] at e;cases e
 have kp12:Kp s.heap h2:=(Kp.of kI).trans Md.kp
 have kp14:Kp s.heap h4:=(kp12.trans (.of kC)).trans (.of kG)
 have ex14:∀b o,s.heap.get? b=some o->∃o',h4.get? b=some o':=λb o e=>by
  obtain⟨o',e'⟩:=Md.ex b o (kI b o e)
  exact⟨o',kG _ _ (kC _ _ e')⟩
 have Gd4:F.Gd h4:=G.keeps (G.keeps Gd2 kC) kG
 obtain⟨oI,eI,cI,dI⟩:=hit
 have eI2:h2.get? I=some oI:=Md.kp _ _ (.ZaD cI) eI
 have hpl2:h2.PlainList l vs.toArray:=Zbo hpl kp12
 have hCI:C≠I:=λq=>by rw[q,eI2] at sC;cases sC
 have hCl:C≠l:=λq=>by obtain⟨_,e⟩:=hpl2;rw[q] at sC;rw[sC] at e;cases e
 have haC:a≠C:=λq=>by obtain⟨o,es,ep,e,_⟩:=hns3;rw[←q,sa] at e;cases e
 have haI:a≠I:=λq=>by have:=kC _ _ eI2;rw[←q,sa] at this;cases this
 have hlim4:=G.lim _ Gd4
 obtain⟨mc,hnsc,hnc⟩:=G.lim _ f.ok.gd
 obtain⟨oc,esc,epc,ecs,edc,_⟩:=hnsc
 have hcI:cStatics≠I:=λq=>by rw[q,sI] at ecs;cases ecs
 have hcC:cStatics≠C:=λq=>by have:=kp12 _ _ (.Zeo edc) ecs;rw[q,sC] at this;cases this
 have sC0:s.heap.get? C=none:=by
  cases e:s.heap.get? C with
  | none=>rfl
  | some o=>obtain⟨o',e'⟩:=Md.ex _ _ (kI _ _ e);rw[sC] at e';cases e'
 have hd1:A.in1.in1.depth < recursionLimit:=by have:=L.dp;have e:recursionLimit=1000:=rfl;show A.depth < _;lia
 have W:=ZmR (prog:=prog) (w:=w) (A:=A.in1.in1) L.hd a s.gens.size C I l vs.toArray.size (λi y=>∃l t,txs[i]? = some l∧y=.str ⟨l.toArray⟩ t) haC haI hd1 hcC hcI
 have hvl:vs.length=ds.length:=hra.length
 refine wrap (by show 1<=tk2+1+1+1;lia) ?_
 refine SC.joinGen (n:=vs.toArray.size) W (λi s' st=>st.1.typeIs) ?_ ?_ (by simp) (λi v hv=>let ⟨l,t,_,e⟩:=hv;⟨_,t,e⟩) ?_ (by simp;erw[rwl (hvl ..) (rwr (hlen ..) (rwl (szv ..) ?_))];lia)
 ·have hgt:(s.gens.push (GenState.fresh (.compStart (ZcJ elt (.Name yj pj) x px scope gpos) 0 (.ref I) .none (genEnv scope [] C cv builtinsNs F.env))))[s.gens.size]? = some (.fresh (.compStart (ZcJ elt (.Name yj pj) x px scope gpos) 0 (.ref I) .none (genEnv scope [] C cv builtinsNs F.env))):=Array.getElem?_push_size ..
  refine⟨⟨og,_,_,hgenAt,by subst hgen;rfl,by subst hgen;rfl,by subst hgen;rfl⟩,hlim4,by show 1<=tk2+1+1+1;lia,_,hgt,λs'' ht'' hal=>⟨rfl,?_⟩⟩
  erw[rwl (Nat.sub_zero ..) ?_]
  have hns4:h4.Ns C (λy=>if y = ".0" then some (.ref I) else none):=hns3.keeps kG
  refine ZmL (A:=A.in1.in1.in1) (cenv:=genEnv scope [] C cv builtinsNs F.env) L.hd hx (by simp[genEnv,hkind]) hco hCI hCl kl (hT C cv vs s.heap (hra.mono λ_ _ _ e _=>⟨trivial,e⟩)) s'' _ ?_ ?_ (hns4.at' λo e=>hal C (by simp) o e) ht''
  ·exact⟨oI,hal I (by simp) _ (kG _ _ (kC _ _ eI2)),cI,dI⟩
  ·obtain⟨n1,e1⟩:=hpl2
   exact⟨_,hal l (by simp) _ (kG _ _ (kC _ _ e1)),rfl,n1,rfl⟩
 ·intro b hb
  show b < h4.objs.size
  have hC4:∃o,h4.get? C=some o:=by obtain⟨o,es,ep,e,_⟩:=hns3;exact⟨o,kG _ _ e⟩
  have hl4:∃o,h4.get? l=some o:=by obtain⟨n1,e1⟩:=hpl2;exact⟨_,kG _ _ (kC _ _ e1)⟩
  simp only[List.mem_cons,List.not_mem_nil,or_false] at hb
  rcases hb with rfl | rfl | rfl | rfl | rfl
  ·exact Heap.lt_size hgenAt
  ·exact Heap.lt_size hC4.choose_spec
  ·exact Heap.lt_size (kG _ _ (kC _ _ eI2))
  ·exact Heap.lt_size hl4.choose_spec
  ·exact Heap.lt_size (kp14 _ _ (.Zeo edc) ecs)
 ·intro s' lt hm hacc
  have e1:lt.map (·.1)=txs.map λl=>(⟨l.toArray⟩:Str):=by
   have hsz:lt.length=vs.length:=by simpa[strValues] using hacc.1
   apply List.ext_getElem?
   intro i
   by_cases hi:i < vs.length
   ·have hi':i < lt.length:=by lia
    obtain⟨l2,t2,h2,h3⟩:=hacc.2 i (.str lt[i].1 lt[i].2) (by simp[strValues,List.getElem?_eq_getElem hi'])
    injection h3 with h3 _
    simp[List.getElem?_eq_getElem hi',h2,h3]
   ·rw[List.getElem?_eq_none (by simp;lia),List.getElem?_eq_none (by simp;lia)]
  erw[rwl (e1 ..) ?_]
  have h4':txs.length * sep.length<=1000000 * 4:=Nat.mul_le_mul hl1 hsep
  refine⟨joinOk_of ?_,λt' k' hk'=>?_⟩
  ·erw[rwl (List.map_map ..) (rwl (List.length_map ..) (rwl (str_len ..) ?_))]
   have:(txs.map ((λx:Str=>x.length) ∘ λl=>(⟨l.toArray⟩:Str)))=txs.map (·.length):=by
    apply List.map_congr_left;intro a _;exact str_len a
   erw[rwl (this ..) ?_];lia
  ·have hWI:∀b o,NT o->s.heap.get? b=some o->s'.heap.get? b=some o:=λb o nn e=>hm.heap b o (λq=>by
    simp only[List.mem_cons,List.not_mem_nil,or_false] at q
    rcases q with q | q
    ·rw[q,sC0] at e;cases e
    ·rw[q,sI] at e;cases e) (kp14 _ _ nn e)
   have gw:Gw s { s' with toks:=k' }:=⟨hWI,λb o e=>?_,hm.os,λg=>AllBare.movedS (s':=s') (AllBare.push g rfl) hm⟩
   ·have Gd5:F.Gd s'.heap:=G.keep _ _ Gd4 λb o hb e=>hm.heap b o (λq=>by
     simp only[List.mem_cons,List.not_mem_nil,or_false] at q
     rcases q with q | q
     ·obtain⟨oc,es,ep,e2,ed,_⟩:=hns3
      rw[q,kG _ _ e2] at e;cases e
      rcases hb with hb | hb
      ·obtain⟨_,e5⟩:=G.there _ _ f.ok.gd hb;rw[q,sC0] at e5;cases e5
      ·exact hb (.inl ⟨es,ep,ed⟩)
     ·rw[q,kG _ _ (kC _ _ eI2)] at e;cases e
      rcases hb with hb | hb
      ·obtain⟨_,e5⟩:=G.there _ _ f.ok.gd hb;rw[q,sI] at e5;cases e5
      ·exact hb (.inr (.inr (.inr (.inl cI))))) e
    refine k _ _ gw ⟨Gd5,?_⟩ (Zhx (Zlv sep txs) ?_)
    ·exact hk'
    ·have:=ZeV sep txs
     erw[rwl (szv ..) ?_];lia
   ·obtain⟨o',e'⟩:=ex14 b o e
    exact⟨o',hm.heap b o' (λq=>by
     simp only[List.mem_cons,List.not_mem_nil,or_false] at q
     rcases q with q | q
     ·rw[q,sC0] at e;cases e
     ·rw[q,sI] at e;cases e) e'⟩
end
end
section
section
variable {prog:Program}{w:World}{env:Env}{h:Heap}
noncomputable def TQ(prog:Program)(w:World)(env:Env)(h:Heap)(e:Expr)(l:List Nat):Prop:=∀(A:Around) (E:Value->Shared->Prop) (s:Shared) (Q:Value->Shared->Prop),s.heap=h->1<=s.toks->(∀t tk,1<=tk->Q (.str ⟨l.toArray⟩ t) { s with toks:=tk })->wpAny (model prog w) A (eval e env) Q E s
theorem Zrm{x:Str}{l:List Nat}(e:x.cps.toList=l):x=⟨l.toArray⟩:=by subst e;rfl
theorem ZrU{z:List Nat}{c:Nat}(h:(!(z==[c]))=true):((⟨#[c]⟩:Str)==⟨z.toArray⟩)=false:=by
 refine beq_eq_false_iff_ne.mpr λq=>?_
 have e:z=[c]:=(congrArg (λx:Str=>x.cps.toList) q).symm
 rw[e,beq_self_eq_true] at h
 exact nf h
theorem ZlQ{nm:List Str}{fn:Nat->Str}{sc:Scope}{b:X}{c z:Nat}{zs l:List Nat}{e:Expr}(hm:mt nm fn sc false (.repl b c z zs) e=true)(hl:l.length<=1000000)(hz:zs.length<=8)(hb:∀o,mt nm fn sc false b o=true->TQ prog w env h o l) :
  TQ prog w env h e (Zbd c (z::zs) l):=by
 intro A E s Q hh ht k
 refine Zby (show ZcY _ _ e=true from hm) λeo ap as pos m2 m3 hm=>Zl6 hm λp q hm=>Zi6 hm λm4 m5 m6 m7=>?_
 have p1:=ZdK m4
 have p2:=ZdK m5
 refine wpAny_Call_method (T := "str") (id := "str.replace") (ZaQ m2) (by erw[rwl (Zab p1 ..) (rwl (Zab p2 ..) (rwl (Zam ..) ?_))];rfl) m3 PySem.F.plainAttrs_str PySem.F.slot_str_replace PySem.F.type_str_replace ?_
 refine hb eo m7 A E s _ hh ht λt tk htk=>⟨rfl,Zbw,?_⟩
 erw[rwl (Zab p1 ..) (rwl (Zab p2 ..) (rwl (Zam ..) (rwl (Zah ..) (rwl (Zah ..) (rwl (Zay ..) ?_)))))]
 refine Calls.callWith_builtin rfl (Calls.evalArgs_plain (Calls.spliced_cons (Zbm m4 (Calls.spliced_cons (Zbm m5 (Calls.spliced_nil ?_))))))
 refine wrap (Nat.le_succ_of_le (Nat.le_succ_of_le htk)) (SC.replaceW (hu:=Nat.ne_of_gt htk) (hv:=Nat.succ_ne_zero tk) (huv:=Nat.ne_of_lt (Nat.lt_succ_self tk)) (hyz:=ZrU m6) (hx:=?_) (hz:=?_) λt' k' ht'=>?_)
 ·exact Nat.le_trans (Nat.le_of_eq (str_len _)) (Nat.le_trans hl (by decide))
 ·exact Nat.le_trans (Nat.le_of_eq (str_len _)) (Nat.succ_le_succ (Nat.le_trans hz (by decide)))
 ·erw[rwl (Zrm (ZdC ⟨l.toArray⟩ c (z::zs)) ..) ?_]
  exact k t' k' ht'
theorem ZtH{nm:List Str}{fn:Nat->Str}{sc:Scope}{u:Nat}{x:Str}{l:List Nat}{t:Tok}{e:Expr}{m:Str->Option Value}(hm:mt nm fn sc false (.var u) e=true)(hx:nm[u]? = some x)(hk:env.scope.kind=.function)(hl:env.kindOf x=some .local)(hn:h.Ns env.locals m)(hv:m x=some (.str ⟨l.toArray⟩ t)) :
  TQ prog w env h e l:=by
 intro A E s Q hh ht k
 refine Zl5 (show mtv nm u e=true from hm) λy p hy h1 h2=>?_
 rw[hx] at hy
 rw[←Option.some.inj hy] at h1 h2 ⊢
 exact Zcn hk (.inl ⟨hl,m,hh▸hn,hv⟩) h1 h2 (k t s.toks ht)
theorem Zuv{Γ:ZaC}{σ:Sg}{nm:List Str}{fn:Nat->Str}{sc:Scope}{e:X}{t:Nat}{d r:D}{x:Str}{elt:Expr}{m:Str->Option Value}(hq:Zl1 (λb _ _ _=>Zl1 (λb _ _ _=>ZuR (λu=>u==t) b) b) e=true)(hm:mt nm fn sc false e elt=true)(hv:ev Γ (σ.set t (.fz d)) e=some r)
  (hx:nm[t]? = some x) (hk:env.scope.kind=.function) (hl:env.kindOf x=some .local) (hn:h.Ns env.locals m) (hmx:∀l,d=.str l->∃tk,m x=some (.str ⟨l.toArray⟩ tk)):∃l,r=.str l∧TQ prog w env h elt l:=by
 revert hm hv
 refine Zlt hq λb c z zs hq=>Zlt hq λb c1 z1 zs1 hq=>Ztu hq λu hq=>eqb hq λhm hv=>?_
 refine Zac (show(((rd (σ.set t (.fz d)) t).bind _).bind _)=some r from hv) λd2 h2 hv=>Zac h2 λd1 h1 h2=>?_
 revert h2
 refine ZbG (show Zd4 _ d2=_ from hv) λl2 hv=>ifS hv λc2 hv=>eqs hv λh2=>?_
 revert h1
 refine ZbG (show Zd4 _ d1=_ from h2) λl1 h2=>ifS h2 λc1 h2 h1=>?_
 rcases ZoJ h1 with⟨_,e1⟩ | ⟨hne,_⟩
 ·obtain⟨tk,hmv⟩:=hmx l1 e1.symm
  exact⟨_,rfl,ZlQ hm c2.1 c2.2 λo ho=>D.str.inj (Option.some.inj h2)▸ZlQ ho c1.1 c1.2 λo2 ho2=>ZtH ho2 hx hk hl hn hmv⟩
 ·exact absurd rfl hne
end
end
section
theorem ZoG{ds:List D}{ls:List (List Nat)}(h:strs? ds=some ls):ls.length=ds.length:=by erw[rwl (Zcs h ..) (rwl (List.length_map ..) ?_)]
theorem ZgV{g:D->Option D}:∀{ds rs:List D},ZbX (λd=>(g d).map some) ds=some rs->rs.length=ds.length∧∀(i:Nat) d,ds[i]? = some d->∃r,g d=some r∧rs[i]? = some r
 | [],rs,h=>eqs h ⟨rfl,λi d e=>nn e⟩
 | d::ds,rs,h=>Zac (show((g d).map some).bind _=some rs from h) λr h1 h=>by
  revert h
  refine Zds h1 λr0 h0 h=>Zds h λys h2=>?_
  obtain⟨e1,e2⟩:=ZgV h2
  exact⟨congrArg Nat.succ e1,λi d' e=>match i with
   | 0=>⟨r0,Option.some.inj e▸h0,rfl⟩
   | i+1=>e2 i d' e⟩
theorem ZiK{ls:List (List Nat)}{i:Nat}{l:List Nat}(h:(ls.map D.str)[i]? = some (.str l)):ls[i]? = some l:=ZdW ((List.getElem?_map ..).symm.trans h) λ_ hx e=>D.str.inj e▸hx
section
variable {prog:Program}{w:World}{F:Fp}{K:Addr->Prop}{ad:Nat->Bool->Addr}{σ:Sg}{s:Shared}{mg mb:Str->Option Value}{Γ:ZaC}{fn:Nat->Str}{fa:Nat->Addr}{n N:Nat}{A:Around}{E:Value->Shared->Prop}{c P:Addr}{xs:List (Pos×Str)}
theorem Zhn{scope:Scope}{x:Str}(h:ZjF scope x=true):(∀y∈scope.names,y.2≠.cell)∧(∀z,(z,NameKind.free) ∉ scope.names)∧scope.names.lookup (".0" : Str)=some .local∧scope.names.lookup x=some .local∧scope.kind=.function∧scope.isCoroutine=false:=
 Zm2 h λh1 h2 h3 h4 h5=>⟨λy hy=>bne_iff_ne.mp (Zbu (List.all_eq_true.mp h1 y hy)),λ_ hz=>bne_iff_ne.mp (Za6 (List.all_eq_true.mp h1 _ hz)) rfl,eq_of_beq h2,eq_of_beq h3,eq_of_beq h4,ZfK h5⟩
theorem ZcP{cells:List (Str×Addr)}:∀{names:List (Str×NameKind)} {acc:List (Str×Addr)},(∀z,(z,NameKind.free) ∉ names)->Zb8 cells names acc=acc
 | [],_,_=>rfl
 | (n,k)::r,acc,h=>by
  have hk:(k==NameKind.free)=false:=beq_eq_false_iff_ne.mpr λq=>h n (q▸List.mem_cons_self)
  erw[rwl (ZpJ ..) (rwl (hk ..) ?_)]
  exact ZcP λz hz=>h z (List.mem_cons_of_mem _ hz)
theorem Zqn(G:Gr F.base mg mb F.Gd)(H:Fs F)(O:Odd F c P xs mg)(hn2:2<=n){ys:List (Nat×Nat×Bool)}(hq:∀gl gc,(gl,gc,true)∈ys->∃pq∈xs,pq.1.line=gl∧pq.1.col=gc∧pq.2=F.env.qual++("<genexpr>" : Str))
  {i t gl gc:Nat} {sep:List Nat} {e it:X} (hg:(gl,gc,true)∈ys):S1 prog w F Γ fn n N (.asgJ i sep t e it gl gc):=by
 intro st K ad σ A s E Q fl σ' hm L f hv k
 revert k
 refine Zpb (show(ev Γ σ (.joing (.const (.str sep)) t e it)).map _=_ from hv) λd hd=>Zac (show((ev Γ σ it).bind itemsOf).bind _=some d from hd) λds hds hd=>Zac hd λrs hrs hd=>Zac (show(strs? rs).bind _=some d from hd) λls hls hd=>ifS hd λhlim hd=>eqs hd λk=>?_
 refine ZbU (show ZbZ _ st=true from hm) λt' v p hm=>Zbg hm λm1 hm=>Zby hm λso ap as pos mb m5 hm=>ZfN hm λg hm=>Zd2 hm λm2 m3 hm=>Zsr hm λelt gens scope gpos hm=>Zi6 hm λm9 m10 m12 hm=>ZfN hm λc hm=>?_
 obtain⟨tg,iter,ifs,asy⟩:=c
 refine Zm2 hm λn0 n1 m6 m7 m8=>eqb (show(asy==0)=true from n0) (ZcD (show ifs.isEmpty=true from n1) (Zbx (show Zcv _ tg=true from m8) λx px m8=>Zbg m8 λe8 m11=>?_))
 revert hds
 refine Zt4 (show qTv _ it=true from m6) λj m6 hds=>Zac (show(rdt σ j).bind itemsOf=_ from hds) λdl hj hi=>?_
 revert hj
 refine ZkK hi λhl hj=>ZfI m1 λy p hy hk=>Zl5 (show mtv F.nm j iter=true from m6) λyj pj hyj d1 d2=>?_
 obtain⟨g1,g2,g3,g4,g5,g6⟩:=Zhn m11
 obtain⟨hlen,hget⟩:=ZgV hrs
 refine wpAny_Assign_Name (wpAny_Call_method (T := "str") (id := "str.join") (ZaQ mb) rfl m5 PySem.F.plainAttrs_str PySem.F.slot_str_join PySem.F.type_str_join (Zbm m2 ⟨rfl,Zbw,?_⟩)) rfl
 have gt:Gw s { s with toks:=s.toks+1 }:=.tok ..
 have ft:=f.grow gt ⟨f.ok.gd,Nat.le_succ_of_le f.ok.tk⟩
 erw[rwl (Zab (show Zai (ZcJ elt (.Name yj pj) x px scope gpos)=true from rfl) ..) (rwl (Zam ..) (rwl (Zah ..) (rwl (Zay ..) ?_)))]
 refine Calls.callWith_builtin rfl (Calls.evalArgs_plain (Calls.spliced_cons (wpAny_mono (Znd (t:=s.toks) (sep:=sep) (txs:=ls) G H O L ft hj hyj d1 d2 (let ⟨pq,h1,h2,h3,h4⟩:=hq gl gc hg;⟨pq,h1,h2.trans (eq_of_beq m9).symm,h3.trans (eq_of_beq m10).symm,h4⟩) g6
  ((ZbM λz hz=>absurd hz (g2 z)).trans (by erw[rwl (ZcP g2 ..) ?_])) g1 g3 g4 g5 (of_decide_eq_true m3) hlim.1 hlim.2.2 ((ZoG hls).trans hlen) (λC code vs h hra=>⟨λA' E' i' v s₂ m₂ hA hD hU hv ht hns hm₂=>?_⟩) λv s' gw ok r=>?_) (λv s' q=>Calls.spliced_nil q) λ_ _ q=>q)))
 ·obtain⟨d,hdi,rv⟩:=hra.Zu5 ((List.getElem?_toArray ..).symm.trans hv)
  obtain⟨r,hr,hri⟩:=hget i' d hdi
  obtain⟨lr,e1,T2⟩:=Zuv (env:=genEnv scope [] C code builtinsNs F.env) (h:=s₂.heap) m7 m12 hr (eq_of_beq e8) g5 g4 hns λl e=>let ⟨_,tk,q⟩:=(e▸rv:Rd _ _ v (.str l)).str_inv;⟨tk,hm₂.trans (congrArg some q)⟩
  rw[Zcs hls,e1] at hri
  exact T2 A' E' s₂ _ rfl ht λt tk _=>⟨⟨_,t,ZiK hri,rfl⟩,s₂.heap,tk,rfl,λ_ _ e=>e⟩
 ·exact(ft.grow gw ok).Zc0 G H hy hk r λs₃ f₃ t₃=>k ad s₃ f₃ ((gt.stp.trans gw.stp).trans t₃)
end
end
section
open PySem.Sre
noncomputable def Zcb:Array Nat:=#[14,14,4,1,1,9,0,64,0,1342177280,0,0,0,0,0,17,0,13,11,9,0,64,0,1342177280,0,0,0,0,0,17,1,1]
noncomputable def Ze2(c:Nat):Bool:=c==38||c==126||c==124
theorem Zn5(c:Nat):(decide (c < 256)&&((#[0,64,0,1342177280,0,0,0,0]:Array Nat).getD (c / 32) 0).testBit (c % 32))=Ze2 c:=by
 rcases Nat.lt_or_ge c 256 with h | h
 ·revert c
  decide +kernel
 ·have h1:decide (c < 256)=false:=by simp;lia
  have h2:Ze2 c=false:=by unfold Ze2;simp;lia
  erw[rwl (h1 ..) (rwl (h2 ..) ?_)];rfl
theorem ZnC(i k:Nat)(hi:i=5∨i=19)(hk:k < 8):Zcb.getD (i+(1+k)) 0=(#[0,64,0,1342177280,0,0,0,0]:Array Nat).getD k 0:=by
 rcases hi with rfl | rfl
 ·revert k;decide +kernel
 ·revert k;decide +kernel
theorem Zve(i c:Nat)(hi:i=5∨i=19)(seen:Sre.Seen):∃seen',inSet Zcb c 32 i true seen=.ok (Ze2 c,seen'):=by
 have hb:(decide (c < 256)&&(Zcb.getD (i+(1+c / 32)) 0).testBit (c % 32))=Ze2 c:=by
  erw[rwr (Zn5 c ..) ?_]
  rcases Nat.lt_or_ge c 256 with h | h
  ·rw[ZnC i (c / 32) hi (by lia)]
  ·have:decide (c < 256)=false:=by simp;lia
   erw[rwl (this ..) ?_];rfl
 have e:∃s1 s2,inSet Zcb c 32 i true seen=if(decide (c < 256)&&(Zcb.getD (i+(1+c / 32)) 0).testBit (c % 32))=true then .ok (true,s1) else .ok (false,s2):=by
  rcases hi with rfl | rfl<;>exact⟨_,_,rfl⟩
 obtain⟨s1,s2,e⟩:=e
 rw[hb] at e
 cases h:Ze2 c with
 | true=>rw[h] at e;exact⟨s1,e⟩
 | false=>rw[h] at e;exact⟨s2,e⟩
noncomputable def mk0(text:Array Nat)(p lim last:Nat):M:={ code:=Zcb,text,lim,start:=p,lastStart:=last,pc:=15,pos:=p,handed:=p,marks:=#[none,none],seen:=({}:Sre.Seen).add 14 }
theorem ZkP(text:Array Nat)(p lim:Nat)(h:p<=lim):forSearch Zcb text 1 p lim false=if lim - p < 1 then(mk0 text p lim 0).say false else(mk0 text p lim lim).attemptFrom p true:=by
 have e:forSearch Zcb text 1 p lim false=if(decide (p > lim)||decide (lim - p < 1))=true then(mk0 text p lim 0).say false else(mk0 text p lim lim).attemptFrom p true:=rfl
 erw[rwl (e ..) (rwl (show decide (p > lim)=false from decide_eq_false (Nat.not_lt.mpr h) ..) (rwl (Bool.false_or ..) ?_))]
 simp only[decide_eq_true_eq]
theorem Zfh(m:M)(hc:m.code=Zcb):∀(fuel s:Nat) (seen:Sre.Seen),m.lim - s < fuel->∃seen',M.admitted m fuel s seen=.ok ((List.range' s (m.lim - s)).find? (λi=>Ze2 (m.text.getD i 0)),seen')
 | 0,s,seen,h=>absurd h (Nat.not_lt_zero _)
 | fuel+1,s,seen,h=>by
  unfold M.admitted
  by_cases hs:s≥m.lim
  ·erw[rwl (if_pos hs ..) (rwl (Nat.sub_eq_zero_of_le hs ..) ?_)];exact⟨seen,rfl⟩
  ·erw[rwl (if_neg hs ..) (rwl (hc ..) ?_)]
   obtain⟨seen1,e1⟩:=Zve 5 (m.text.getD s 0) (.inl rfl) seen
   have e2:inSet Zcb (m.text.getD s 0) Zcb.size 5 true seen=.ok (Ze2 (m.text.getD s 0),seen1):=e1
   erw[rwl (e2 ..) (rwl (Zh0 (Nat.lt_of_not_le hs) ..) (rwl (List.range'_succ ..) (rwl (List.find?_cons ..) ?_)))]
   cases Ze2 (m.text.getD s 0) with
   | true=>exact⟨seen1,rfl⟩
   | false=>exact Zfh m hc fuel (s+1) seen1 (Nat.lt_of_succ_lt_succ (Nat.lt_of_le_of_lt (Nat.le_of_eq (Zh0 (Nat.lt_of_not_le hs)).symm) h))
noncomputable def mk1(text:Array Nat)(p lim s:Nat)(seen:Sre.Seen):M:={ mk0 text p lim lim with mustAdvance:=false,seen,start:=s,pos:=s,handed:=s,lastmark:=-1,lastindex:=-1,frames:=[{ wait:=.nextStart,pc:=15,pos:=s,outermost:=true }],weight:=1,pc:=15,outermost:=true }
theorem Zkf(text:Array Nat)(p lim:Nat)(h:p<=lim):∃seen,(mk0 text p lim lim).attemptFrom p true=match (List.range' p (lim - p)).find? (λi=>Ze2 (text.getD i 0)) with
  | some s=>mk1 text p lim s seen
  | none=>({ mk0 text p lim lim with seen }:M).say false:=by
 obtain⟨seen,e⟩:=Zfh (mk0 text p lim lim) rfl (lim+1 - p) p (mk0 text p lim lim).seen (by show lim - p < _;erw[rwl (Nat.succ_sub h ..) ?_];exact Nat.lt_succ_self _)
 refine⟨seen,?_⟩
 unfold M.attemptFrom
 have hf:(mk0 text p lim lim).hasFirstSet=true:=rfl
 erw[rwl (hf ..) ?_]
 simp only[Bool.not_true,Bool.false_eq_true,if_false]
 show(match M.admitted (mk0 text p lim lim) (lim+1 - p) p (mk0 text p lim lim).seen with
  | .ok (some s,seen)=>({ mk0 text p lim lim with mustAdvance:=false,seen }:M).attemptAt s true
  | .ok (none,seen)=>({ mk0 text p lim lim with seen }:M).say false
  | .error why=>(mk0 text p lim lim).stick why)=_
 have e':M.admitted (mk0 text p lim lim) (lim+1 - p) p (mk0 text p lim lim).seen=.ok ((List.range' p (lim - p)).find? (λi=>Ze2 (text.getD i 0)),seen):=e
 cases hq:(List.range' p (lim - p)).find? (λi=>Ze2 (text.getD i 0)) with
 | none=>rw[hq] at e';erw[rwl (e' ..) ?_]
 | some s=>rw[hq] at e';erw[rwl (e' ..) ?_];rfl
theorem ZjT(text:Array Nat)(p lim last:Nat)(seen:Sre.Seen):∃m,M.runFor 4 (({ mk0 text p lim last with seen }:M).say false)=m∧m.outcome=some .failed:=⟨_,rfl,rfl⟩
theorem ZoD(text:Array Nat)(p lim s:Nat)(seen:Sre.Seen)(hs:s < lim)(ho:Ze2 (text.getD s 0)=true):∃m,M.runFor 4 (M.runFor 4 (mk1 text p lim s seen))=m∧(M.runFor 4 (mk1 text p lim s seen)).outcome=none∧m.outcome=some .matched∧m.start=s∧m.handed=s+1∧m.lastmark=1∧m.lastindex=1∧m.marks = #[some s,some (s+1)]:=by
 obtain⟨seen2,e2⟩:=Zve 19 (text.getD s 0) (.inr rfl) ((seen.add 17).add 13)
 rw[ho] at e2
 let m2:M:={ mk1 text p lim s (seen.add 17) with marks:=#[some s,none],lastmark:=0,pc:=17 }
 let m3:M:={ m2 with seen:=seen2,pc:=29,pos:=s+1 }
 let m4:M:={ m3 with seen:=seen2.add 17,marks:=#[some s,some (s+1)],lastmark:=1,lastindex:=1,pc:=31 }
 let m5:M:=({ m4 with seen:=(seen2.add 17).add 1,handed:=s+1 }:M).say true
 have h1:(mk1 text p lim s seen).step=m2:=rfl
 have h2:m2.step=m3:=by
  have hr:m2.step=m2.exec:=rfl
  have ha:accepts Zcb 17 (text.getD s 0) ((seen.add 17).add 13)=.ok (true,seen2):=e2
  have hx:m2.exec=if s≥lim then({ m2 with seen:=(seen.add 17).add 13 }:M).say false else match accepts Zcb 17 (text.getD s 0) ((seen.add 17).add 13) with
   | .error why=>({ m2 with seen:=(seen.add 17).add 13 }:M).stick why
   | .ok (false,seen)=>({ m2 with seen }:M).say false
   | .ok (true,seen)=>{ m2 with seen,pc:=17+itemWidth Zcb 17,pos:=s+1 }:=rfl
  rw[hr,hx,if_neg (by lia),ha]
  rfl
 have h3:m3.step=m4:=by
  have a1:m3.step=m3.exec:=rfl
  have a2:m3.exec=M.mark { m3 with seen:=seen2.add 17 } 1:=rfl
  rw[a1,a2]
  unfold M.mark
  rfl
 have h4:m4.step=m5:=rfl
 have r1:M.runFor 4 (mk1 text p lim s seen)=m5:=by
  show M.runFor 3 ((mk1 text p lim s seen).step)=m5
  rw[h1]
  show M.runFor 2 (m2.step)=m5
  rw[h2]
  show M.runFor 1 (m3.step)=m5
  rw[h3]
  exact h4
 rw[r1]
 exact⟨_,rfl,rfl,rfl,rfl,rfl,rfl,rfl,rfl⟩
end
section
open PySem.Sre PySem.Builtin.Re
section
variable {M':Model}{A:Around}{E:Value->Shared->Prop}{s:Shared}
theorem Zla{m:M}{Q:Option M->Shared->Prop}{m1 m2:M}(h1:M.runFor 4 m=m1)(h2:m1.outcome.isSome=true∨(m1.outcome.isSome=false∧M.runFor 4 m1=m2∧m2.outcome.isSome=true))
  (k:∀m3,(m3=m1∧m1.outcome.isSome=true)∨(m3=m2∧m1.outcome.isSome=false)->(m3.outcome=some .matched∧Q (some m3) s)∨(m3.outcome=some .failed∧Q none s)):wpAny M' A (reRunToEnd m) Q E s:=by
 unfold reRunToEnd
 have tail:∀m3:M,((m3.outcome=some .matched∧Q (some m3) s)∨(m3.outcome=some .failed∧Q none s))->wpAny M' A (do
   for i in List.range Sre.names.size do
    if m3.seen.has i then rule (Sre.names.getD i "")
   match m3.outcome with
   | some .matched=>pure (some m3)
   | some .failed=>pure none
   | some (.stuck why)=>unsupported s!"_sre:{why}"
   | none=>unsupported "internal:sre:no-outcome") Q E s:=by
  intro m3 h
  refine wpAny_bind (wpAny_forIn_list _ (λ_ _ s'=>s'=s) _ (λi r b s' hs'=>?_) (λb s' hs'=>?_) _ _ rfl)
  ·subst hs'
   split
   ·exact wpAny_bind (wpAny_rule (wpAny_pure rfl))
   ·exact wpAny_pure rfl
  ·subst hs'
   rcases h with⟨e,q⟩ | ⟨e,q⟩
   ·erw[rwl (e ..) ?_];exact wpAny_pure q
   ·erw[rwl (e ..) ?_];exact wpAny_pure q
 have e64:(2:Nat) ^ 64=(2 ^ 64 - 2)+1+1:=by decide
 have ed:∀(t:Nat) (m:M),reDrive (t+1) m=(if(m.runFor 4).outcome.isSome=true then pure (m.runFor 4) else do rule "sre.turn";reDrive t (m.runFor 4)):=λ_ _=>rfl
 refine wpAny_bind ?_
 erw[rwl (e64 ..) (rwl (ed ..) (rwl (h1 ..) ?_))]
 rcases h2 with h2 | ⟨h2,h3,h4⟩
 ·erw[rwl (if_pos h2 ..) ?_]
  exact wpAny_pure (tail _ (k _ (.inl ⟨rfl,h2⟩)))
 ·rw[if_neg (by erw[rwl (h2 ..) ?_];decide)]
  refine wpAny_bind (wpAny_rule ?_)
  erw[rwl (ed ..) (rwl (h3 ..) (rwl (if_pos h4 ..) ?_))]
  exact wpAny_pure (tail _ (k _ (.inr ⟨rfl,h2⟩)))
noncomputable abbrev ZbK(m:M)(i:Nat):Prop:=(m.start=i)∧(m.handed=i+1)∧(m.lastmark=1)∧(m.lastindex=1)∧(m.marks = #[some i,some (i+1)])
theorem ZbK.st{m:M}{i:Nat}(slf:ZbK m i):m.start=i:=slf.1
theorem ZbK.hd{m:M}{i:Nat}(slf:ZbK m i):m.handed=i+1:=slf.2.1
theorem ZbK.lm{m:M}{i:Nat}(slf:ZbK m i):m.lastmark=1:=slf.2.2.1
theorem ZbK.li{m:M}{i:Nat}(slf:ZbK m i):m.lastindex=1:=slf.2.2.2.1
theorem ZbK.mks{m:M}{i:Nat}(slf:ZbK m i):m.marks = #[some i,some (i+1)]:=slf.2.2.2.2
set_option tactic.hygienic true in
theorem Zf6{t:ReTarget}{p:Nat}{Q:Option M->Shared->Prop}(hc:t.code=Zcb)(hg:t.groups=1)(hp:p<=t.lim)
  (h0:(List.range' p (t.lim - p)).find? (λi=>Ze2 (t.text.getD i 0))=none->Q none s)
  (h1:∀i,(List.range' p (t.lim - p)).find? (λi=>Ze2 (t.text.getD i 0))=some i->∀m,ZbK m i->Q (some m) s):wpAny M' A (reNextFound t p false) Q E s:=by
 unfold reNextFound
 erw[rwl (hc ..) (rwl (hg ..) (rwl (ZkP t.text p t.lim hp ..) ?_))]
 split
 ·rename_i hl
  have hz:t.lim - p=0:=Nat.lt_one_iff.mp hl
  obtain⟨m,e1,e2⟩:=ZjT t.text p t.lim 0 (mk0 t.text p t.lim 0).seen
  refine Zla (m1:=m) (m2:=m) e1 (.inl (by erw[rwl (e2 ..) ?_];rfl)) λm3 h=>?_
  rcases h with⟨rfl,_⟩ | ⟨rfl,_⟩<;>exact .inr ⟨e2,h0 (by erw[rwl (hz ..) ?_];rfl)⟩
 ·obtain⟨seen,e⟩:=Zkf t.text p t.lim hp
  erw[rwl (e ..) ?_]
  cases hf:(List.range' p (t.lim - p)).find? (λi=>Ze2 (t.text.getD i 0)) with
  | none=>
   obtain⟨m,e1,e2⟩:=ZjT t.text p t.lim t.lim seen
   refine Zla (m1:=m) (m2:=m) e1 (.inl (by erw[rwl (e2 ..) ?_];rfl)) λm3 h=>?_
   rcases h with⟨rfl,_⟩ | ⟨rfl,_⟩<;>exact .inr ⟨e2,h0 hf⟩
  | some i=>
   have hi:=List.find?_some hf
   have hm:=List.mem_range'_1.mp (List.mem_of_find?_eq_some hf)
   obtain⟨m,e1,e2,e3,f1,f2,f3,f4,f5⟩:=ZoD t.text p t.lim i seen (ZvX hm) hi
   refine Zla (m1:=M.runFor 4 (mk1 t.text p t.lim i seen)) (m2:=m) rfl (.inr ⟨by erw[rwl (e2 ..) ?_];rfl,e1,by erw[rwl (e3 ..) ?_];rfl⟩) λm3 h=>?_
   rcases h with⟨rfl,h⟩ | ⟨rfl,_⟩
   ·rw[e2] at h;cases h
   ·exact .inl ⟨e3,h1 i hf m3 ⟨f1,f2,f3,f4,f5⟩⟩
end
end
section
theorem ZdD(c:Nat)(r:List Nat):Zel (c::r)=(if Ze2 c=true then [92,c] else [c])++Zel r:=by
 unfold Zel
 erw[rwl (List.flatMap_cons ..) ?_]
 congr 1
 unfold Ze2
 simp only[Bool.or_eq_true,beq_iff_eq,or_assoc]
theorem find_none(l:List Nat):∀(k p:Nat),l.length - p=k->(List.range' p (l.length - p)).find? (λi=>Ze2 (l.toArray.getD i 0))=none->Zel (l.drop p)=l.drop p
 | 0,p,h,_=>by erw[rwl (List.drop_of_length_le (Nat.le_of_sub_eq_zero h) ..) ?_];rfl
 | k+1,p,h,e=>by
  have hp:p < l.length:=Nat.lt_of_sub_eq_succ h
  rw[h,List.range'_succ,List.find?_cons] at e
  have hd:=List.drop_eq_getElem_cons hp
  have hg:l.toArray.getD p 0=l[p]:=by simp[hp]
  rw[hg] at e
  cases ho:Ze2 l[p] with
  | true=>rw[ho] at e;cases e
  | false=>
   rw[ho] at e
   have ih:=find_none l k (p+1) (congrArg Nat.pred h) (by erw[rwl (show l.length - (p+1)=k from congrArg Nat.pred h ..) ?_];exact e)
   erw[rwl (hd ..) (rwl (ZdD ..) (rwl (ho ..) (rwl (ih ..) ?_)))]
   rfl
theorem find_some(l:List Nat):∀(k p i:Nat),l.length - p=k->(List.range' p (l.length - p)).find? (λi=>Ze2 (l.toArray.getD i 0))=some i->
  p<=i∧∃h:i < l.length,Ze2 l[i]=true∧Zel (l.drop p)=(l.drop p).take (i - p)++([92,l[i]]++Zel (l.drop (i+1)))
 | 0,p,i,h,e=>by rw[h] at e;cases e
 | k+1,p,i,h,e=>by
  have hp:p < l.length:=Nat.lt_of_sub_eq_succ h
  rw[h,List.range'_succ,List.find?_cons] at e
  have hd:=List.drop_eq_getElem_cons hp
  have hg:l.toArray.getD p 0=l[p]:=by simp[hp]
  rw[hg] at e
  cases ho:Ze2 l[p] with
  | true=>
   rw[ho] at e
   cases e
   refine⟨Nat.le_refl _,hp,ho,?_⟩
   erw[rwl (Nat.sub_self ..) (rwl (List.take_zero ..) (rwl (hd ..) (rwl (ZdD ..) (rwl (ho ..) ?_))))]
   rfl
  | false=>
   rw[ho] at e
   obtain⟨h1,h2,h3,h4⟩:=find_some l k (p+1) i (congrArg Nat.pred h) (by erw[rwl (show l.length - (p+1)=k from congrArg Nat.pred h ..) ?_];exact e)
   refine⟨Nat.le_of_succ_le h1,h2,h3,?_⟩
   erw[rwl (hd ..) (rwl (ZdD ..) (rwl (ho ..) (rwl (h4 ..) (rwl (Zh0 h1 ..) (rwl (List.take_succ_cons ..) ?_)))))]
   rfl
end
section
open PySem.Sre PySem.Builtin.Re
noncomputable def Zeh(h:Heap)(a:Addr):Prop:=∃o b fs,h.get? a=some o∧o.cls=.type "re.Pattern" ∧ o.data=.fields fs∧fs.getD 5 .none=.ref b∧fs.getD 2 .none=.int 1 0∧fs.getD 6 .none=.int 0 0∧Zm0 h b (Zcb.map λ(k:Nat)=>Value.int (k:Int) 0)
noncomputable def ZmM(a:Addr)(l:List Nat)(t:Tok):ReTarget:={ pattern:=.ref a,string:=.str ⟨l.toArray⟩ t,code:=Zcb,text:=l.toArray,kind:=0,groups:=1,pos:=0,lim:=l.length }
section
variable {M':Model}{A:Around}{E:Value->Shared->Prop}{s:Shared}
theorem ZcK{a:Addr}{l:List Nat}{t:Tok}{Q:ReTarget->Shared->Prop}(hp:Zeh s.heap a)(k:Q (ZmM a l t) s):wpAny M' A (reWholeTarget (.ref a) (.str ⟨l.toArray⟩ t)) Q E s:=by
 obtain⟨o,b,fs,e1,e2,e3,e4,e5,e6,n,e7⟩:=hp
 unfold reWholeTarget
 refine wpAny_bind (wpAny_fieldsOf e1 e3 ?_)
 refine wpAny_bind (wpAny_of_eq (a:=(l.toArray,0)) rfl ?_)
 dsimp only
 erw[rwl (e4 ..) (rwl (e5 ..) (rwl (e6 ..) ?_))]
 refine wpAny_bind (wpAny_of_eq (a:=()) rfl ?_)
 unfold reRawItems
 refine wpAny_bind (wpAny_bind (wpAny_seqItems e7 rfl (wpAny_pure ?_)))
 refine wpAny_pure ?_
 have:(((some (Zcb.map λ(k:Nat)=>Value.int (k:Int) 0)).getD #[]).map reRawOf).map (·.toNat)=Zcb:=by decide +kernel
 erw[rwl (this ..) ?_]
 exact k
end
end
section
open PySem.Sre PySem.Builtin.Re
noncomputable def Zeb(i:Nat):Obj:={ cls:=.type "tuple",data:=.seq #[rawInt i,rawInt (i+1:Nat),rawInt i,rawInt (i+1:Nat)] }
noncomputable def Zc6(a b:Addr)(l:List Nat)(t:Tok):Obj:={ cls:=.type "re.Match",data:=.fields #[.str ⟨l.toArray⟩ t,.ref a,rawInt 0,rawInt l.length,rawInt 1,.ref b] }
section
variable {M':Model}{A:Around}{E:Value->Shared->Prop}{s:Shared}
theorem ZlK{a:Addr}{l:List Nat}{t:Tok}{i:Nat}{m:M}(hm:ZbK m i){Q:Value->Shared->Prop}
  (k:Q (.ref (s.heap.push (Zeb i)).objs.size) { s with heap:=(s.heap.push (Zeb i)).push (Zc6 a s.heap.objs.size l t) }):wpAny M' A (reNewMatch (.ref a) (.str ⟨l.toArray⟩ t) 1 0 l.length m) Q E s:=by
 obtain⟨h1,h2,h3,h4,h5⟩:=hm
 unfold reNewMatch
 erw[rwl (h1 ..) (rwl (h2 ..) (rwl (h3 ..) (rwl (h4 ..) (rwl (h5 ..) ?_))))]
 dsimp only
 rw[if_neg (by
  show ¬((true&&decide (i+1 < i))||false)=true
  simp)]
 refine wpAny_bind (wpAny_newTuple ?_ (by show 4<=_;erw[rwl (szv ..) ?_];lia))
 unfold newFields
 refine wpAny_newObj_type ?_ (by size_fits)
 exact k
end
end
section
set_option maxRecDepth 100000
open PySem.Sre PySem.Builtin.Re
theorem Zdf:entryFor table "re.Pattern.sub.loop" = some Builtin.«re.Pattern.sub.loop» := entryFor_of_tree (by kernel_rfl)
theorem Zdh{as:Args}:(Code.builtin "re.Pattern.sub.loop" as).quiet=true:=Code.quiet_builtin _ (by decide +kernel)
theorem Zgu:PySem.Slot "re.Pattern" "sub" "re.Pattern.sub" :=
 .of (owner := "re.Pattern") (n := "sub") (by erw[rwl (typeLookup_type ..) (rwl (builtinLookup_eq_fast ..) ?_)];kernel_rfl) (by decide +kernel) (by decide +kernel) (by decide +kernel)
  (by first | exact .inl (by decide +kernel) | exact .inr (by decide +kernel)) (by erw[rwl (isSubtype_type ..) ?_];kernel_rfl)
theorem ZmS:entryFor table "re.Pattern.sub" = some Builtin.«re.Pattern.sub» := entryFor_of_tree (by kernel_rfl)
theorem Zok(a b c:Value):argsOk "re.Pattern.sub" ⟨[a,b,c],[]⟩:=by unfold argsOk;kernel_rfl
theorem Znf:typeOf (.builtin "re.Pattern.sub")=pure (.type "method_descriptor"):=by show builtinType _=_;erw[rwl (builtinType_eq_fast ..) ?_];kernel_rfl
theorem Zeg:PySem.Slot "re.Match" "group" "re.Match.group" :=
 .of (owner := "re.Match") (n := "group") (by erw[rwl (typeLookup_type ..) (rwl (builtinLookup_eq_fast ..) ?_)];kernel_rfl) (by decide +kernel) (by decide +kernel) (by decide +kernel)
  (by first | exact .inl (by decide +kernel) | exact .inr (by decide +kernel)) (by erw[rwl (isSubtype_type ..) ?_];kernel_rfl)
theorem Zio:entryFor table "re.Match.group" = some Builtin.«re.Match.group» := entryFor_of_tree (by kernel_rfl)
theorem Zkm(a b:Value):argsOk "re.Match.group" ⟨[a,b],[]⟩:=by unfold argsOk;kernel_rfl
theorem Zkg:typeOf (.builtin "re.Match.group")=pure (.type "method_descriptor"):=by show builtinType _=_;erw[rwl (builtinType_eq_fast ..) ?_];kernel_rfl
theorem Zgo:PlainAttrs "re.Pattern" :=
 ⟨⟨"object.__getattribute__",by erw[rwl (typeLookup_type ..) (rwl (builtinLookup_eq_fast ..) ?_)];kernel_rfl,by decide +kernel⟩,by erw[rwl (typeLookup_type ..) (rwl (builtinLookup_eq_fast ..) ?_)];kernel_rfl⟩
theorem ZiQ:PlainAttrs "re.Match" :=
 ⟨⟨"object.__getattribute__",by erw[rwl (typeLookup_type ..) (rwl (builtinLookup_eq_fast ..) ?_)];kernel_rfl,by decide +kernel⟩,by erw[rwl (typeLookup_type ..) (rwl (builtinLookup_eq_fast ..) ?_)];kernel_rfl⟩
end
section
open PySem.Sre PySem.Builtin.Re
section
variable {prog:Program}{w:World}{base:Addr->Prop}{mg mb:Str->Option Value}{Gd:Heap->Prop}
noncomputable def ZjW(prog:Program)(w:World)(Gd:Heap->Prop)(a:Addr)(l:List Nat)(t:Tok)(fv:Value)(n:Nat):Prop:=∀(A:Around) (E:Value->Shared->Prop) (s:Shared) (Q:Value->Shared->Prop) (i:Nat) (b f:Addr),Lv A n->Ok Gd s->i < l.length->
 s.heap.get? b=some (Zeb i)->s.heap.get? f=some (Zc6 a b l t)->Zeh s.heap a->(∀v s',Gw s s'->Ok Gd s'->(∃u,v=.str ⟨[92,l.toArray.getD i 0].toArray⟩ u)->Q v s')->wpAny (model prog w) A (call fv [.ref f]) Q E s
theorem Zln{h h':Heap}{a:Addr}(x:Zeh h a)(k:Kp h h'):Zeh h' a:=by
 obtain⟨o,b,fs,e1,e2,e3,e4,e5,e6,e7⟩:=x
 exact⟨o,b,fs,k _ _ (.ZaD e2) e1,e2,e3,e4,e5,e6,ZnV e7 k⟩
noncomputable abbrev ZdF(a:Addr)(l:List Nat)(t:Tok)(fv:Value)(nn p:Nat)(D:Addr):Args:=⟨[.ref a,.str ⟨l.toArray⟩ t,fv,rawInt 1,rawInt 0,rawInt nn,rawInt p,rawInt p,.bool false,.ref D,.bool false],[]⟩
theorem Zho(a:Addr)(l:List Nat)(t:Tok)(fv:Value)(nn p:Nat)(D:Addr):Builtin.«re.Pattern.sub.loop» (ZdF a l t fv nn p D)=(do
  let t' ←reWholeTarget (.ref a) (.str ⟨l.toArray⟩ t)
  match ←reNextFound t' p false with
  | some m=>
   if p < m.start then updateSeq D (·.push (←reSlice t'.text t'.kind p m.start))
   let found ←reNewMatch (.ref a) (.str ⟨l.toArray⟩ t) t'.groups 0 t'.lim m
   let item ←holding [found] (call fv [found])
   if item != .none then updateSeq D (·.push item)
   again (.builtin "re.Pattern.sub.loop" ⟨[.ref a,.str ⟨l.toArray⟩ t,fv,rawInt 1,rawInt 0,rawInt ((nn:Int)+1),rawInt m.handed,rawInt m.handed,.bool (m.handed==m.start),.ref D,.bool false],[]⟩)
  | none=>
   if p < t'.lim then updateSeq D (·.push (←reSlice t'.text t'.kind p t'.lim))
   let joiner ←reSlice t'.text t'.kind 0 0
   let text ←if((←seqItems? (.ref D)).getD #[]).isEmpty then pure joiner
    else call (.builtin (if t'.kind==0 then "str.join" else "bytes.join")) [joiner,.ref D]
   ret text):=by
 rfl
end
end
section
open PySem.Sre PySem.Builtin.Re
section
variable {prog:Program}{w:World}{base:Addr->Prop}{mg mb:Str->Option Value}{Gd:Heap->Prop}
noncomputable def Zr8:Addr->Prop:=λ_=>True
theorem Zem(G:Gr base mg mb Gd){A:Around}{E:Value->Shared->Prop}{s:Shared}{D:Addr}{vs:List Value}{v:Value}{Q:Unit->Shared->Prop}(hb : ¬base D)(ok:Ok Gd s)(hD:s.heap.PlainList D vs.toArray)(hz:vs.length<=16777216)
  (k:∀h',GwB (λb=>b=D) s { s with heap:=h' }->Ok Gd { s with heap:=h' }->h'.PlainList D (vs++[v]).toArray->Heap.SameBut D s.heap h'->Q () { s with heap:=h' }):wpAny (model prog w) A (updateSeq D (·.push v)) Q E s:=by
 obtain⟨n,ho⟩:=id hD
 have e:s.heap.update D (Obj.mapSeq (·.push v))=s.heap.update D (Obj.mapSeq (·.push v)):=rfl
 refine wpAny_updateSeq ho rfl (k _ (.of_same (tk:=s.toks) (Heap.SameBut.update ..).extBut rfl) ⟨?_,ok.tk⟩ ⟨n+1,?_⟩ (Heap.SameBut.update ..)) (by simp;erw[rwl (szv ..) ?_];omega) (by simp;erw[rwl (szv ..) ?_];omega)
 ·obtain⟨o,e,m,_⟩:=Mut.plain hD
  exact G.same ok.gd hb e m (Heap.SameBut.update ..).extBut
 ·rw[Heap.get?_update_self _ ho (by erw[rwl (Obj.mapSeq_push_plain ..) ?_];rfl),Obj.mapSeq_push_plain]
  simp
end
end
section
open PySem.Sre PySem.Builtin.Re
theorem ZeP{P P':Addr->Prop}{h h':Heap}:∀{vs:List Value} {txs:List (List Nat)},Zad P h vs (txs.map .str)->Zad P' h' vs (txs.map .str)
 | [],[],_=>.nil
 | v::vs,x::xs,.cons r rs=>by
  obtain⟨hl,t,rfl⟩:=r.str_inv
  exact .cons (.str _ _ hl) (ZeP rs)
theorem ZkR{h h':Heap}{a D:Addr}{its:Array Value}(x:Zeh h a)(hD:h.PlainList D its)(hs:Heap.ExtBut D h h'):Zeh h' a:=by
 obtain⟨o,b,fs,e1,e2,e3,e4,e5,e6,n,e7⟩:=x
 obtain⟨m,e8⟩:=hD
 refine⟨o,b,fs,hs a o (λq=>?_) e1,e2,e3,e4,e5,e6,n,hs b _ (λq=>?_) e7⟩
 ·rw[q,e8] at e1;cases e1;simp at e2
 ·rw[q,e8] at e7;simp at e7
theorem ZhD:∀ls:List (List Nat),ZbT [] ls=ls.flatten
 | []=>rfl
 | [x]=>by simp[ZkL,ZmH,Zid]
 | x::y::r=>by
  have:=ZhD (y::r)
  simp only[ZkL,ZmH,Zid,List.append_nil,this,List.flatten_cons]
end
section
open PySem.Sre PySem.Builtin.Re
section
variable {prog:Program}{w:World}{base:Addr->Prop}{mg mb:Str->Option Value}{Gd:Heap->Prop}
theorem ldp{l:List Nat}(hl:l.length<=1000)(p:Nat):(l.drop p).length<=16777216:=Nat.le_trans (List.length_drop▸Nat.sub_le _ _) (Nat.le_trans hl (by decide))
theorem ltd{l:List Nat}(hl:l.length<=1000)(p k:Nat):((l.drop p).take k).length<=16777216:=Nat.le_trans (List.length_take_le' _ _) (ldp hl p)
theorem Zcm{M':Model}{A:Around}{E:Value->Shared->Prop}{s:Shared}{l:List Nat}{b e:Nat}{Q:Value->Shared->Prop}(hl:l.length<=1000)(k:Q (.str ⟨((l.drop b).take (e - b)).toArray⟩ s.toks) { s with toks:=s.toks+1 }):wpAny M' A (reSlice l.toArray 0 b e) Q E s:=by
 have e1:(⟨l.toArray.extract b e⟩:Str)=⟨((l.drop b).take (e - b)).toArray⟩:=by simp
 show wpAny M' A (mkStr ⟨l.toArray.extract b e⟩) Q E s
 erw[rwl (e1 ..) ?_]
 refine wpAny_mkStr k ?_
 erw[rwl (str_len ..) (rwl (szv ..) ?_)]
 exact ltd hl b _
end
end
section
open PySem.Sre PySem.Builtin.Re
section
variable {prog:Program}{w:World}{base:Addr->Prop}{mg mb:Str->Option Value}{Gd:Heap->Prop}
theorem Zmg(G:Gr base mg mb Gd){A:Around}{E:Value->Shared->Prop}{s:Shared}{D:Addr}{txs:List (List Nat)}{vs:List Value}{jt:Tok}{n:Nat}{Q:Value->Shared->Prop}(L:Lv A n)(ok:Ok Gd s)(hD:s.heap.PlainList D vs.toArray)(hr:Zad Zr8 s.heap vs (txs.map .str))(h1:txs.length<=4000)(h2:(txs.map (·.length)).sum<=4000)
  (k:∀u s',Gw s s'->Ok Gd s'->Q (.str ⟨(txs.flatten).toArray⟩ u) s') :
  wpAny (model prog w) A (call (.builtin "str.join") [.str ⟨([]:List Nat).toArray⟩ jt,.ref D]) Q E s:=by
 refine ZoO (P:=Zr8) (sep:=[]) ok (.of (.str [] jt (by erw[rwl (szv ..) ?_];simp))) hD.isList hr (by lia) (by simp) (by lia) λv s' g o r=>?_
 rw[ZhD] at r
 obtain⟨_,u,rfl⟩:=r.str_inv
 exact k u s' g o
end
end
section
open PySem.Sre PySem.Builtin.Re
section
variable {prog:Program}{w:World}{base:Addr->Prop}{mg mb:Str->Option Value}{Gd:Heap->Prop}
theorem Zjo{A:Around}{n:Nat}{args:Args}(L:Lv A (n+1)):Lv (A.under (.builtin "re.Pattern.sub.loop" args)) n:=by
 have e:A.under (.builtin "re.Pattern.sub.loop" args)=A.in1:=Around.under_plain rfl rfl
 erw[rwl (e ..) ?_]
 exact⟨L.hd,by have:=L.dp;show A.depth+n<=900;lia,by have:=L.un;show A.units+1+3 * n<=9000;lia⟩
end
end
section
open PySem.Sre PySem.Builtin.Re
section
variable {prog:Program}{w:World}{base:Addr->Prop}{mg mb:Str->Option Value}{Gd:Heap->Prop}
theorem ZeX(G:Gr base mg mb Gd){A:Around}{E:Value->Shared->Prop}{D:Addr}{l:List Nat}{n:Nat}{s:Shared}{txs:List (List Nat)}{vs:List Value}{Q:PySem.Fin->Shared->Prop}(hl:l.length<=1000)(L:Lv A n)(ok:Ok Gd s)
  (hD:s.heap.PlainList D vs.toArray) (hr:Zad Zr8 s.heap vs (txs.map .str)) (h1:txs.length<=4000) (h2:(txs.map (·.length)).sum<=4000)
  (k:∀u s',Gw s s'->Ok Gd s'->Q (.done (.ret (.str ⟨txs.flatten.toArray⟩ u))) s') :
  wpAny (model prog w) A (do
   let joiner ←reSlice l.toArray 0 0 0
   let text ←if((←seqItems? (.ref D)).getD #[]).isEmpty then pure joiner
    else call (.builtin (if(0:Nat)==0 then "str.join" else "bytes.join")) [joiner,.ref D]
   ret text) Q E s:=by
 refine wpAny_bind (Zcm hl ?_)
 have e0:((l.drop 0).take (0 - 0))=[]:=by simp
 erw[rwl (e0 ..) ?_]
 have g₁:Gw s { s with toks:=s.toks+1 }:=.tok ..
 have ok₁:Ok Gd { s with toks:=s.toks+1 }:=⟨ok.gd,Nat.le_succ_of_le ok.tk⟩
 obtain⟨n0,hD0⟩:=id hD
 refine wpAny_bind (wpAny_seqItems hD0 rfl ?_)
 dsimp only[Option.getD_some]
 by_cases hv:vs.toArray.isEmpty=true
 ·erw[rwl (if_pos hv ..) ?_]
  have e1:vs=[]:=by simpa using hv
  subst e1
  have e2:txs=[]:=by
   have:=hr.length
   simpa using this.symm
  subst e2
  exact wpAny_bind (wpAny_pure (wpAny_pure (k _ _ g₁ ok₁)))
 ·erw[rwl (if_neg hv ..) ?_]
  refine wpAny_bind (Zmg (s:={ s with toks:=s.toks+1 }) G L ok₁ hD hr h1 h2 λu s' g o=>?_)
  exact wpAny_pure (k u s' (g₁.trans g) o)
end
end
section
open PySem.Sre PySem.Builtin.Re
section
variable {prog:Program}{w:World}{base:Addr->Prop}{mg mb:Str->Option Value}{Gd:Heap->Prop}
theorem Zi4:∀l:List Nat,(Zel l).length<=2 * l.length
 | []=>Nat.zero_le _
 | c::r=>by
  have:=Zi4 r
  erw[rwl (ZdD ..) (rwl (List.length_append ..) (rwl (List.length_cons ..) ?_))]
  split<;>simp<;>lia
theorem Zn2(G:Gr base mg mb Gd){a D:Addr}{l:List Nat}{t:Tok}{fv:Value}{n:Nat}(hf:ZjW prog w Gd a l t fv n)(hl:l.length<=1000)(hb : ¬base D) :
  ∀(k:Nat) (A:Around) (R:Result->Shared->Prop) (s:Shared) (vs:List Value) (txs:List (List Nat)) (nn p:Nat),l.length - p<=k->p<=l.length->Lv A (n+1)->Ok Gd s->Zeh s.heap a->
   s.heap.PlainList D vs.toArray->Zad Zr8 s.heap vs (txs.map .str)->txs.length<=2 * p->(txs.map (·.length)).sum<=2 * p->
   (∀u s',GwB (λb=>b=D) s s'->Ok Gd s'->R (.ok (.ret (.str ⟨(txs.flatten++Zel (l.drop p)).toArray⟩ u))) s')->
   codeAny (model prog w) A (.builtin "re.Pattern.sub.loop" (ZdF a l t fv nn p D)) R s:=by
 intro k
 induction k with
 | zero=>
  intro A R s vs txs nn p hk hp L ok hpa hD hr h1 h2 kont
  refine codeAny_builtin Zdf ?_
  erw[rwl (Zho ..) ?_]
  have L1:=Zjo (args:=ZdF a l t fv nn p D) L
  refine wpAny_bind (ZcK hpa ?_)
  refine wpAny_bind (Zf6 rfl rfl hp (λhnone=>?_) (λi hi m hm=>?_))
  ·dsimp only[ZmM]
   refine wpAny_ite_split (λhc=>absurd (show p < l.length from hc) (by lia)) λ_=>?_
   refine ZeX (txs:=txs) G hl L1 ok hD hr (by lia) (by lia) λu s' g o=>?_
   have e:Zel (l.drop p)=[]:=by rw[List.drop_of_length_le (by lia)];rfl
   rw[e,List.append_nil] at kont
   exact kont u s' g.toB o
  ·have e:(ZmM a l t).lim - p=0:=by show l.length - p=0;lia
   rw[e] at hi
   cases hi
 | succ k ih=>
  intro A R s vs txs nn p hk hp L ok hpa hD hr h1 h2 kont
  refine codeAny_builtin Zdf ?_
  erw[rwl (Zho ..) ?_]
  have L1:=Zjo (args:=ZdF a l t fv nn p D) L
  refine wpAny_bind (ZcK hpa ?_)
  have hvl:vs.length=txs.length:=by simpa using hr.length
  refine wpAny_bind (Zf6 rfl rfl hp (λhnone=>?_) (λi hi m hm=>?_))
  ·have e:Zel (l.drop p)=l.drop p:=find_none l _ p rfl hnone
   dsimp only[ZmM]
   rw[e] at kont
   refine wpAny_ite_split (λhpl=>?_) (λhpl=>?_)
   ·replace hpl:p < l.length:=hpl
    refine wpAny_bind (Zcm hl ?_)
    have e1:(l.drop p).take (l.length - p)=l.drop p:=List.take_of_length_le (by simp)
    erw[rwl (e1 ..) ?_]
    have g₁:Gw s { s with toks:=s.toks+1 }:=.tok ..
    have ok₁:Ok Gd { s with toks:=s.toks+1 }:=⟨ok.gd,Nat.le_succ_of_le ok.tk⟩
    refine wpAny_bind (Zem (s:={ s with toks:=s.toks+1 }) G hb ok₁ hD (by lia) λh' g₂ ok₂ hD₂ _=>?_)
    refine ZeX (txs:=txs++[l.drop p]) G hl L1 ok₂ hD₂ (by
     erw[rwl (List.map_append ..) ?_]
     exact(ZeP hr).append (.cons (.str _ _ (by erw[rwl (szv ..) ?_];exact ldp hl p)) .nil)) (by simp;lia) (by simp;lia) λu s' g o=>?_
    have e2:(txs++[l.drop p]).flatten=txs.flatten++l.drop p:=by simp
    erw[rwl (e2 ..) ?_]
    exact kont u s' ((g₁.toB.trans g₂).trans g.toB) o
   ·replace hpl : ¬p < l.length:=hpl
    refine ZeX (txs:=txs) G hl L1 ok hD hr (by lia) (by lia) λu s' g o=>?_
    have e2:l.drop p=[]:=List.drop_of_length_le (by lia)
    rw[e2,List.append_nil] at kont
    exact kont u s' g.toB o
  ·obtain⟨hpi,hil,hop,hsub⟩:=find_some l _ p i rfl hi
   dsimp only[ZmM]
   erw[rwl (hm.st ..) (rwl (hm.hd ..) ?_)]
   have main:∀(s₁:Shared) (vs₁:List Value) (txs₁:List (List Nat)),GwB (λb=>b=D) s s₁->Ok Gd s₁->Zeh s₁.heap a->s₁.heap.PlainList D vs₁.toArray->Zad Zr8 s₁.heap vs₁ (txs₁.map .str)->txs₁.length<=2 * p+1->(txs₁.map (·.length)).sum<=p+i->txs₁.flatten=txs.flatten++(l.drop p).take (i - p)->
     wpAny (model prog w) (A.under (.builtin "re.Pattern.sub.loop" (ZdF a l t fv nn p D))) (do
      let found ←reNewMatch (.ref a) (.str ⟨l.toArray⟩ t) 1 0 l.length m
      let item ←holding [found] (call fv [found])
      if item != .none then updateSeq D (·.push item)
      again (.builtin "re.Pattern.sub.loop" ⟨[.ref a,.str ⟨l.toArray⟩ t,fv,rawInt 1,rawInt 0,rawInt ((nn:Int)+1),rawInt ((i+1:Nat):Int),rawInt ((i+1:Nat):Int),.bool (i+1==i),.ref D,.bool false],[]⟩))
      (λfin s'=>match fin with | .done f=>R (.ok f) s' | .again c'=>c'.quiet=true∧codeAny (model prog w) A c' R s') (λe s'=>R (.error e) s') s₁:=by
    intro s₁ vs₁ txs₁ g₁ ok₁ hpa₁ hD₁ hr₁ t1 t2 t3
    refine wpAny_bind (ZlK hm ?_)
    have g₂:Gw s₁ { s₁ with heap:=(s₁.heap.push (Zeb i)).push (Zc6 a s₁.heap.objs.size l t) }:=.of_keep (tk:=s₁.toks) λ_ _ e=>Heap.get?_push_of_some _ (Heap.get?_push_of_some _ e)
    have ok₂:Ok Gd { s₁ with heap:=(s₁.heap.push (Zeb i)).push (Zc6 a s₁.heap.objs.size l t) }:=⟨G.keeps ok₁.gd λ_ _ e=>Heap.get?_push_of_some _ (Heap.get?_push_of_some _ e),ok₁.tk⟩
    refine wpAny_bind (wpAny_holding (hf _ _ _ _ i s₁.heap.objs.size _ L1 ok₂ hil (Heap.get?_push_of_some _ (Heap.get?_push_size _ rfl)) (Heap.get?_push_size _ rfl) (Zln hpa₁ g₂.kp) λv s₃ g₃ ok₃ hv=>?_))
    obtain⟨u,rfl⟩:=hv
    have e1:((Value.str ⟨[92,l.toArray.getD i 0].toArray⟩ u) != .none)=true:=rfl
    erw[rwl (if_pos e1 ..) ?_]
    have g₂₃:=g₂.trans g₃
    refine wpAny_bind (Zem G hb ok₃ (Zbo hD₁ g₂₃.kp) (by have:=hr₁.length;simp at this;lia) λh' g₄ ok₄ hD₄ hs₄=>?_)
    have e2:((nn:Int)+1)=((nn+1:Nat):Int):=by lia
    have e3:(i+1==i)=false:=by simp
    erw[rwl (e2 ..) (rwl (e3 ..) ?_)]
    refine wpAny_pure ⟨Zdh,?_⟩
    have gi:l.toArray.getD i 0=l[i]:=by simp[hil]
    rw[gi] at hD₄
    refine ih A R _ _ (txs₁++[[92,l[i]]]) (nn+1) (i+1) (Zr0 hk hpi) hil L ok₄ (ZkR (Zln hpa₁ g₂₃.kp) (Zbo hD₁ g₂₃.kp) hs₄.extBut) hD₄ (by
     erw[rwl (List.map_append ..) ?_]
     exact(ZeP hr₁).append (.cons (.str _ _ (by erw[rwl (szv ..) ?_];simp)) .nil)) (by simp;lia) (by simp;lia) λu' s' g₅ ok₅=>?_
    have e4:(txs₁++[[92,l[i]]]).flatten++Zel (l.drop (i+1))=txs.flatten++Zel (l.drop p):=by
     erw[rwl (hsub ..) (rwl (List.flatten_append ..) (rwl (t3 ..) ?_))];simp
    erw[rwl (e4 ..) ?_]
    exact kont u' s' (((g₁.trans g₂₃.toB).trans g₄).trans g₅) ok₅
   refine wpAny_ite_split (λhpi'=>?_) (λhpi'=>?_)
   ·refine wpAny_bind (Zcm hl ?_)
    have ok₁:Ok Gd { s with toks:=s.toks+1 }:=⟨ok.gd,Nat.le_succ_of_le ok.tk⟩
    have g₁:Gw s { s with toks:=s.toks+1 }:=.tok ..
    refine wpAny_bind (Zem (s:={ s with toks:=s.toks+1 }) G hb ok₁ hD (by lia) λh' g₂ ok₂ hD₂ hs₂=>?_)
    refine main _ _ (txs++[(l.drop p).take (i - p)]) (g₁.toB.trans g₂) ok₂ (ZkR hpa hD hs₂.extBut) hD₂ (by
     erw[rwl (List.map_append ..) ?_]
     exact(ZeP hr).append (.cons (.str _ _ (by erw[rwl (szv ..) ?_];exact ltd hl p _)) .nil)) (by simp;lia) (by simp only[List.map_append,List.map_cons,List.map_nil,List.sum_append,List.sum_cons,List.sum_nil,List.length_take,List.length_drop,Nat.add_zero];exact Zuf h2 hpi) (by simp)
   ·have e0:i=p:=Nat.le_antisymm (Nat.not_lt.mp hpi') hpi
    exact main s vs txs (.refl _ _) ok hpa hD hr (by lia) (by lia) (by erw[rwl (e0 ..) ?_];simp)
end
end
section
open PySem.Sre PySem.Builtin.Re
section
variable {prog:Program}{w:World}{base:Addr->Prop}{mg mb:Str->Option Value}{Gd:Heap->Prop}{A:Around}{E:Value->Shared->Prop}{s:Shared}
theorem Zqj{a b f:Addr}{l:List Nat}{t ti:Tok}{i:Nat}{Q:Value->Shared->Prop}(hl:l.length<=1000)(hi:i < l.length)(hb:s.heap.get? b=some (Zeb i))(hf:s.heap.get? f=some (Zc6 a b l t))
  (k:Q (.str ⟨[l.toArray.getD i 0].toArray⟩ s.toks) { s with toks:=s.toks+1 }):wpAny (model prog w) A (call (.builtin "re.Match.group") [.ref f,.int 1 ti]) Q E s:=by
 refine wpAny_call (codeAny_call_builtin Zeg.plain Zio (Zeg.check _ _ _ _ _ _ _ _ ⟨_,hf,rfl⟩ (Zkm _ _) ?_))
 show wpAny _ _ (do
  let x ←reFound (.ref f)
  ret (←reGroupText x (←reGroupNumber x (.int 1 ti)) .none)) _ _ s
 unfold reFound
 refine wpAny_bind (wpAny_bind (wpAny_fieldsOf hf rfl ?_))
 unfold reRawItems
 refine wpAny_bind (wpAny_bind (wpAny_seqItems (a:=b) hb rfl (wpAny_pure ?_)))
 refine wpAny_pure ?_
 unfold reGroupNumber
 refine wpAny_bind (wpAny_bind (wpAny_of_eq (a:=some 1) rfl ?_))
 dsimp only[Option.isSome]
 erw[rwl (if_pos rfl ..) ?_]
 refine wpAny_bind (wpAny_of_eq (a:=1) rfl ?_)
 refine wpAny_ite_split (λh=>by simp[reRawOf] at h) λ_=>?_
 refine wpAny_pure ?_
 unfold reGroupText
 dsimp only
 have e1:((((some (#[rawInt i,rawInt (i+1:Nat),rawInt i,rawInt (i+1:Nat)]:Array Value)).getD #[]).map reRawOf).getD (2 * Int.toNat 1) (-1))=(i:Int):=by simp[reRawOf,rawInt,Array.getD]
 have e2:((((some (#[rawInt i,rawInt (i+1:Nat),rawInt i,rawInt (i+1:Nat)]:Array Value)).getD #[]).map reRawOf).getD (2 * Int.toNat 1+1) (-1))=((i+1:Nat):Int):=by simp[reRawOf,rawInt,Array.getD]
 rw[e1,e2,if_neg (by simp;lia)]
 refine wpAny_bind (wpAny_bind (wpAny_of_eq (a:=(l.toArray,0)) rfl ?_))
 dsimp only
 refine Zcm hl ?_
 have e3:((l.drop (i:Int).toNat).take (((i+1:Nat):Int).toNat - (i:Int).toNat))=[l.toArray.getD i 0]:=by
  have a1:(i:Int).toNat=i:=by lia
  have a2:((i+1:Nat):Int).toNat=i+1:=by lia
  rw[a1,a2,show i+1 - i=1 by lia,List.drop_eq_getElem_cons hi,List.take_succ_cons,List.take_zero]
  simp[hi]
 erw[rwl (e3 ..) ?_]
 exact wpAny_pure k
theorem ZuG(G:Gr base mg mb Gd){a:Addr}{l:List Nat}{t:Tok}{fv:Value}{n:Nat}{Q:Value->Shared->Prop}(hf:ZjW prog w Gd a l t fv n)(hfv:s.TypeIs fv "function")(hl:l.length<=1000)(L:Lv A (n+2))(ok:Ok Gd s)(hp:Zeh s.heap a)
  (k:∀u s',Gw s s'->Ok Gd s'->Q (.str ⟨(Zel l).toArray⟩ u) s'):wpAny (model prog w) A (call (.builtin "re.Pattern.sub") [.ref a,fv,.str ⟨l.toArray⟩ t]) Q E s:=by
 obtain⟨op,bp,fp,e1,e2,_⟩:=id hp
 refine wpAny_call (codeAny_call_builtin Zgu.plain ZmS (Zgu.check _ _ _ _ _ _ _ _ ⟨_,e1,e2⟩ (Zok _ _ _) ?_))
 show wpAny _ _ (reSubstitute "re.Pattern.sub" "sub" false ⟨[.ref a,fv,.str ⟨l.toArray⟩ t],[]⟩) _ _ s
 unfold reSubstitute
 dsimp only
 refine wpAny_bind (wpAny_of_eq (a:=[some fv,some (.str ⟨l.toArray⟩ t),none]) rfl ?_)
 dsimp only
 refine wpAny_bind (wpAny_pure ?_)
 refine wpAny_bind (wpAny_specialOf (r:=some (.builtin "function.__call__")) hfv (by erw[rwl (typeLookup_type ..) (rwl (builtinLookup_eq_fast ..) ?_)];kernel_rfl) ?_)
 dsimp only[Option.isSome]
 erw[rwl (if_pos rfl ..) ?_]
 refine wpAny_bind (wpAny_pure ?_)
 erw[rwl (if_pos rfl ..) ?_]
 refine wpAny_bind (wpAny_pure ?_)
 dsimp only
 refine wpAny_bind (wpAny_holding (ZcK hp ?_))
 refine wpAny_ite_split (λ_=>?_) (λh=>absurd rfl h)
 unfold reNotHeld
 refine wpAny_bind (wpAny_bind (wpAny_isInstance_val (T := "str") (b:=false) rfl (by erw[rwl (isSubtype_type ..) ?_];kernel_rfl) ?_))
 rw[if_neg (by decide)]
 refine wpAny_bind (wpAny_pure ?_)
 refine wpAny_pure ?_
 refine wpAny_bind (wpAny_newList ?_ (by size_fits))
 refine wpAny_pure ⟨Zdh,?_⟩
 have sD:=Zau s.heap
 have hk:∀b o,s.heap.get? b=some o->(s.heap.push { cls:=.type "list",data:=.seq #[] }).get? b=some o:=λ_ _ e=>Heap.get?_push_of_some _ e
 have g₁:Gw s { s with heap:=s.heap.push { cls:=.type "list",data:=.seq #[] } }:=.of_keep (tk:=s.toks) hk
 have ok₁:Ok Gd { s with heap:=s.heap.push { cls:=.type "list",data:=.seq #[] } }:=⟨G.keeps ok.gd hk,ok.tk⟩
 refine Zn2 G hf hl (G.fresh ok.gd sD) l.length A _ _ [] [] 0 0 (by lia) (by lia) (L.le (by lia)) ok₁ (Zln hp g₁.kp) ⟨0,Heap.get?_push_size _ rfl⟩ .nil (by simp) (by simp) λu s' g o=>?_
 rw[List.flatten_nil,List.nil_append,List.drop_zero] at *
 exact k u s' (GwB.Zvy g₁ g λb hb=>by erw[rwl (hb ..) ?_];exact sD) o
end
end
section
theorem Zfk{ps:List Str}:∀{vs:List Value},vs.length=ps.length->∀n∈ps,((ps.zip vs).lookup n).isNone=false:=by
 induction ps with
 | nil=>intro vs _ n h;cases h
 | cons p ps ih=>
  intro vs hl n h
  cases vs with
  | nil=>cases hl
  | cons v vs=>
   erw[rwl (List.zip_cons_cons ..) (rwl (List.lookup_cons ..) ?_)]
   by_cases q:n==p
   ·erw[rwl (q ..) ?_];rfl
   ·have q':(n==p)=false:=by simpa using q
    erw[rwl (q' ..) ?_]
    refine ih (by simpa using hl) n ?_
    rcases List.mem_cons.mp h with rfl | h
    ·simp at q
    ·exact h
theorem Zf8{α β:Type}{f g:α->Option β}:∀{l:List α},(∀x∈l,f x=g x)->l.filterMap f=l.filterMap g
 | [],_=>rfl
 | x::l,h=>by erw[rwl (List.filterMap_cons ..) (rwl (List.filterMap_cons ..) (rwl (h x List.mem_cons_self ..) (rwl (Zf8 λy hy=>h y (List.mem_cons_of_mem _ hy) ..) ?_)))]
theorem ZfW:∀{ps:List Str} {vs:List Value},ps.Nodup->vs.length=ps.length->ps.filterMap (λn=>((ps.zip vs).lookup n).map (n,·))=ps.zip vs
 | [],[],_,_=>rfl
 | [],_::_,_,h=>by cases h
 | _::_,[],_,h=>by cases h
 | p::ps,v::vs,hn,hl=>by
  obtain⟨h1,h2⟩:=List.nodup_cons.mp hn
  have ih:=ZfW h2 (vs:=vs) (by simpa using hl)
  rw[List.zip_cons_cons,List.filterMap_cons]
  simp only[List.lookup_cons,beq_self_eq_true,Option.map_some]
  congr 1
  conv=>rhs;rw[←ih]
  refine Zf8 λn hm=>?_
  have q:(n==p)=false:=beq_eq_false_iff_ne.mpr λe=>h1 (e▸hm)
  rw[q]
theorem Zq4{fd:FuncData}{as:List Arg}{vals:List Value}(hp:fd.params=⟨[],as,none,[],[],none,[]⟩)(hd:fd.defaults=.none)(hk:fd.kwdefaults=.none)(hn:(as.map (·.arg)).Nodup)(hl:vals.length=as.length):bindArgs fd ⟨vals,[]⟩=pure ((as.map (·.arg)).zip vals):=by
 have e1:seqItems? Value.none=pure none:=rfl
 have e2:((as.map (·.arg)).filter λn=>(((as.map (·.arg)).zip vals).lookup n).isNone)=[]:=by
  erw[rwl (propext (List.filter_eq_nil_iff ..)) ?_]
  intro n hn
  rw[Zfk (by simpa using hl) n hn]
  decide
 have e3:List.take as.length (as.map (·.arg))=as.map (·.arg):=List.take_of_length_le (by simp)
 have e4:=ZfW hn (vs:=vals) (by simpa using hl)
 obtain⟨nm,qu,pr,bo,sc,gl,cl,de,kd,dc,pm,an,cd,ct,bi⟩:=fd
 dsimp only at hp hd hk
 subst hp hd hk
 unfold bindArgs
 simp only[e1]
 simp[e2,e3,hl]
 simp at e4
 erw[rwl (e4 ..) ?_]
end
section
open PySem.Sre PySem.Builtin.Re
noncomputable abbrev Zh7(scope:Scope)(m:Str):Prop:=(∀z∈scope.names,z.2≠.cell)∧(∀z,(z,NameKind.free) ∉ scope.names)∧(scope.names.lookup m=some .local)∧(scope.kind=.function)∧(scope.isCoroutine=false)∧(scope.isGenerator=false)∧(m≠("__debug__" : Str))
theorem Zh7.nc{scope:Scope}{m:Str}(slf:Zh7 scope m):∀z∈scope.names,z.2≠.cell:=slf.1
theorem Zh7.nf{scope:Scope}{m:Str}(slf:Zh7 scope m):∀z,(z,NameKind.free) ∉ scope.names:=slf.2.1
theorem Zh7.l{scope:Scope}{m:Str}(slf:Zh7 scope m):scope.names.lookup m=some .local:=slf.2.2.1
theorem Zh7.k{scope:Scope}{m:Str}(slf:Zh7 scope m):scope.kind=.function:=slf.2.2.2.1
theorem Zh7.c{scope:Scope}{m:Str}(slf:Zh7 scope m):scope.isCoroutine=false:=slf.2.2.2.2.1
theorem Zh7.g{scope:Scope}{m:Str}(slf:Zh7 scope m):scope.isGenerator=false:=slf.2.2.2.2.2.1
theorem Zh7.d{scope:Scope}{m:Str}(slf:Zh7 scope m):m≠("__debug__" : Str):=slf.2.2.2.2.2.2
@[elab_as_elim] theorem ZlD{α:Type}{o:Option α}{G:Option α->Prop}(h:o.isNone=true)(k:G none):G o:=by
 cases o with
 | none=>exact k
 | some=>exact nf h
@[elab_as_elim] theorem Zli{params:Arguments}{scope:Scope}{m:Str}{G:Arguments->Prop}(h:Zsd params scope m=true)(k:∀yp,Zh7 scope m->G ⟨[],[⟨m,none,yp⟩],none,[],[],none,[]⟩):G params:=by
 obtain⟨a,b,c,d,e,f,g⟩:=params
 refine Zu1 h λh1 h2 h3 h4 h5 h6 h7 h8 h9=>ZcD (show a.isEmpty=true from h1) (ZfN (show b1 _ b=true from h2) λy h2=>ZlD (show c.isNone=true from h3) (ZcD (show d.isEmpty=true from h4) (ZcD (show e.isEmpty=true from h5) (ZlD (show f.isNone=true from h6) (ZcD (show g.isEmpty=true from h7) ?_)))))
 obtain⟨z,an,yp⟩:=y
 have S:Zh7 scope m:=Zm2 h9 λa b c d e=>⟨λz hz=>bne_iff_ne.mp (Zbu (List.all_eq_true.mp h8 z hz)),λ_ hz=>bne_iff_ne.mp (Za6 (List.all_eq_true.mp h8 _ hz)) rfl,eq_of_beq a,eq_of_beq b,ZfK c,ZfK d,bne_iff_ne.mp e⟩
 exact Zbg h2 λx y=>eqb (show(z==m)=true from x) (ZlD (show an.isNone=true from y) (k yp S))
section
variable {prog:Program}{w:World}{base:Addr->Prop}{mg mb:Str->Option Value}{Gd:Heap->Prop}{A:Around}{E:Value->Shared->Prop}{s:Shared}
theorem bind1{nm0 qual y:Str}{yp:Pos}{body:Expr}{scope:Scope}{pm cv ctv v:Value}:bindArgs (kla_fn nm0 qual ⟨[],[⟨y,none,yp⟩],none,[],[],none,[]⟩ body scope [] pm cv ctv) ⟨[v],[]⟩=pure [(y,v)]:=
 Zq4 (as:=[⟨y,none,yp⟩]) rfl rfl rfl (List.nodup_cons.mpr ⟨List.not_mem_nil,List.nodup_nil⟩) rfl
theorem Zkc{i:Int}{e:Expr}(h:mtc (.int i) e=true):Zai e=true:=or2 (show(qC _ e||Zl3 _ _ e)=true from h) (λh=>Znw h λ_ _=>rfl) λh=>Zfg h λ_ _ _=>rfl
theorem Zob{A:Around}{n:Nat}(L:Lv A n):A.depth < recursionLimit:=Nat.lt_of_lt_of_le (Nat.lt_succ_of_le (Nat.le_trans (Nat.le_add_right _ _) L.dp)) (Nat.le_of_ble_eq_true rfl)
theorem ZnP(G:Gr base mg mb Gd){a fa:Addr}{l:List Nat}{t:Tok}(hl:l.length<=1000){nm0 qual:Str}{params:Arguments}{body:Expr}{scope:Scope}{pm cv ctv:Value}(hB:ZtS params scope body=true)
  (hfo:∀h,Gd h->h.get? fa=some { cls:=.type "function",data:=.func (kla_fn nm0 qual params body scope [] pm cv ctv) }) (hcr:∀h,Gd h->h.CodeRec cv qual):ZjW prog w Gd a l t (.ref fa) 3:=by
 intro A E s Q i b f L ok hi hb hf _ k
 have hfo:=hfo _ ok.gd
 revert hfo
 refine ZmV (show Zrv _ body=true from hB) λlb op r pB hB=>Zd2 hB λh0 hlb hB=>eqb h0 (Zf5 hB λes pb hB=>Zl6 hB λc emp hB=>Zbg hB λhemp hB=>Zby hB λmo p2 as p3 mc hln hB=>ZfN hB λone hB=>Zbg hB λhone hB=>Zbx hB λm p1 hlam=>Zli hlam λyp S hfo=>?_)
 refine wpAny_call (kla_callFunE (Zob L) hfo rfl S.c S.g rfl (hcr _ ok.gd) (wpAny_of_eq (a:=[(m,.ref f)]) bind1 ?_))
 refine wpAny_newFunctionEnv S.nc (λz hz=>List.mem_singleton.mp hz▸S.l) (λh₁ hns hsb=>?_) S.k
 have hk₁:∀b o,s.heap.get? b=some o->h₁.get? b=some o:=λb o e=>hsb.extBut b o (Nat.ne_of_lt (Heap.lt_size e)) (Heap.get?_push_of_some _ e)
 have Gd₁:Gd h₁:=G.keeps ok.gd hk₁
 refine⟨G.lim _ Gd₁,kla_codeExpr (wpAny_BinOp (Zbm hlb ?_))⟩
 erw[rwl (arm_eval_BoolOp ..) ?_]
 have p1':=Zkc hone
 have g₁:Gw s { s with heap:=h₁,toks:=s.toks+1 }:=.of_keep hk₁
 have okT:Ok Gd { s with heap:=h₁,toks:=s.toks+1+1 }:=⟨Gd₁,Nat.le_succ_of_le (Nat.le_succ_of_le ok.tk)⟩
 refine wpAny_bind (wpAny_Call_method (T := "re.Match") (id := "re.Match.group") (ZaQ rfl) (by erw[rwl (Zab p1' ..) (rwl (Zam ..) ?_)];rfl) hln ZiQ Zeg Zkg (wpAny_Name (wpAny_loadName_local S.k S.l hns (v:=.ref f) List.lookup_cons_self ⟨⟨_,hk₁ _ _ hf,rfl⟩,λa' e=>⟨Zc6 a b l t,(congrArg h₁.get? (Value.ref.inj e)).symm.trans (hk₁ _ _ hf),rfl⟩,?_⟩) (beq_eq_false_iff_ne.mpr S.d)))
 erw[rwl (Zab p1' ..) (rwl (Zam ..) (rwl (Zah ..) (rwl (Zay ..) ?_)))]
 refine Calls.callWith_builtin rfl (Calls.evalArgs_plain (Calls.spliced_cons ?_))
 refine Zjd (Γ:=λ_ _=>none) (nm:=[]) (fn:=λ_ => "") (n:=0) (prog:=prog) (w:=w) G (.int 1) scope true one _ [] _ (λ_=>True) _ _ _ (.int 1) hone ?_ ?_ okT (λa h=>absurd trivial h) rfl λv s₂ g₂ o₂ r₂=>(RdX.str rfl r₂).Za0 λti=>?_
 ·exact⟨rfl,S.k,rfl,rfl,λn h=>absurd rfl (S.nc _ (mem_lookup h)),λi d h=>(by cases i<;>cases h),λi d h=>(by cases i<;>cases h)⟩
 ·exact⟨L.hd,by have:=L.dp;show A.depth+1+0<=900;lia,by have:=L.un;show A.units+3+3 * 0<=9000;lia⟩
 refine Calls.spliced_nil (Zqj hl hi (g₂.kp _ _ (.ZaD rfl) (hk₁ _ _ hb)) (g₂.kp _ _ (.ZaD rfl) (hk₁ _ _ hf)) ?_)
 have okT₂:Ok Gd { s₂ with toks:=s₂.toks+1 }:=⟨o₂.gd,Nat.le_succ_of_le o₂.tk⟩
 refine wpAny_bind (wpAny_standAt (wpAny_bind (wpAny_holding ?_)))
 refine Zn1 (Gd:=Gd) (P:=λ_=>True) (a:=.str [l.toArray.getD i 0]) (b:=true) (.of (.str _ _ (Nat.le_of_ble_eq_true rfl))) okT₂ rfl λs₃ g₃ o₃ he=>wpAny_pure ?_
 refine wrap o₃.tk (add_str (λt' tk ht=>?_) (Nat.le_of_ble_eq_true rfl))
 exact k _ _ ((((g₁.trans (.tok _ _)).trans g₂).trans (.tok _ _)).trans (g₃.trans (.tok _ _))) ⟨o₃.gd,ht⟩ ⟨_,rfl⟩
end
end
section
set_option backward.match.sparseCases false
open PySem.Sre PySem.Builtin.Re
section
variable {prog:Program}{w:World}{F:Fp}{K:Addr->Prop}{ad:Nat->Bool->Addr}{σ:Sg}{s:Shared}{mg mb:Str->Option Value}{Γ:ZaC}{fn:Nat->Str}{fa:Nat->Addr}{n N:Nat}{A:Around}{E:Value->Shared->Prop}{c P:Addr}{xs:List (Pos×Str)}
theorem ZoT{base:Addr->Prop}{Gd:Heap->Prop}(G:Gr base mg mb Gd){I:Heap->Prop}(hI:∀h h',I h->(∀b o,¬Mut o->h.get? b=some o->h'.get? b=some o)->I h'):Gr base mg mb (λh=>Gd h∧I h):=⟨(λ_ _ x k=>⟨G.keep _ _ x.1 k,hI _ _ x.2 λb o m e=>k b o (.inr m) e⟩),
(λh b x=>G.there h b x.1),
(λh x=>G.g h x.1),
(λh x=>G.b h x.1),
(λh x=>G.lim h x.1),
G.bi⟩
theorem Zki{o:Obj}(hc:o.cls=.type "function" ∨ o.cls=.type "code")(hd:(∃x,o.data=.func x)∨∃x,o.data=.fields x) : ¬Mut o:=by
 have dd:∀{x:Data},o.data=x->(match x with | .func _=>True | .fields _=>True | _=>False):=λe=>by
  rcases hd with⟨_,h⟩ | ⟨_,h⟩
  ·exact(h.symm.trans e)▸trivial
  ·exact(h.symm.trans e)▸trivial
 have cc:∀{x:String},o.cls=.type x->x = "function" ∨ x = "code" := λe=>hc.elim (λh=>.inl (Value.type.inj (e.symm.trans h))) λh=>.inr (Value.type.inj (e.symm.trans h))
 rintro(⟨_,_,h⟩ | ⟨_,_,h⟩ | ⟨_,h⟩ | h | h)
 ·exact dd h
 ·exact dd h
 ·exact dd h
 ·exact absurd (cc h) (by decide)
 ·exact absurd (cc h) (by decide)
theorem ZnG{params:Arguments}{scope:Scope}{body:Expr}(h:ZtS params scope body=true):(∀z,(z,NameKind.free) ∉ scope.names)∧∀{env:Env},defaultsOf params env=([],[]):=
 ZmV (show Zrv _ body=true from h) λlb op r pB hB=>Zd2 hB λh0 hlb hB=>Zf5 hB λes pb hB=>Zl6 hB λc emp hB=>Zbg hB λhemp hB=>Zby hB λmo p2 as p3 mc hln hB=>ZfN hB λone hB=>Zbg hB λhone hB=>Zbx hB λm p1 hlam=>Zli hlam λyp S=>⟨S.nf,rfl⟩
theorem ZkA{base:Addr->Prop}{Gd:Heap->Prop}(G:Gr base mg mb Gd){h:Heap}{pa v0:Addr}{l:List Nat}{t:Tok}(hl:l.length<=1000){nm0 qual:Str}{params:Arguments}{body:Expr}{scope:Scope}{pm cv ctv:Value}(hB:ZtS params scope body=true)
  (hv:h.get? v0=some { cls:=.type "function",data:=.func (kla_fn nm0 qual params body scope [] pm cv ctv) }) (rc:ZiY h cv qual):∃I:Heap->Prop,I h∧Gr base mg mb (λh=>Gd h∧I h)∧ZjW prog w (λh=>Gd h∧I h) pa l t (.ref v0) 3:=by
 obtain⟨cc,oc,vsc,tc,c1,c2,c3,c4,c5⟩:=rc
 have G':=ZoT G (I:=λh=>h.get? v0=some { cls:=.type "function",data:=.func (kla_fn nm0 qual params body scope [] pm cv ctv) }∧h.get? cc=some oc) λ_ _ x k=>⟨k _ _ (Zki (.inl rfl) (.inl ⟨_,rfl⟩)) x.1,k _ _ (Zki (.inr c3) (.inr ⟨_,c4⟩)) x.2⟩
 exact⟨_,⟨hv,c2⟩,G',ZnP G' hl hB (λh x=>x.2.1) λh x=>⟨cc,oc,vsc,tc,c1,x.2.2,c4,c5⟩⟩
theorem Zrg(G:Gr F.base mg mb F.Gd)(H:Fs F){x:X}(ax:All prog w F.base F.Gd Γ F.nm fn n x)(O:Odd F c P xs mg)(hn:6<=n){ys:List (Nat×Nat×Bool)}(hq:∀gl gc,(gl,gc,false)∈ys->∃pq∈xs,pq.1.line=gl∧pq.1.col=gc∧pq.2=F.env.qual++("<lambda>" : Str))
  {pa:Addr} (hpg:mg ("_twin_re_1" : Str)=some (.ref pa)) (hpa:∀h,F.Gd h->Zeh h pa∧∃o,h.get? pa=some o∧o.dict=none)
  {i gl gc:Nat} (hg:(gl,gc,false)∈ys):S1 prog w F Γ fn n N (.asgR i x gl gc):=by
 intro st K ad σ A s E Q fl σ' hm L f hv k
 revert k
 refine Zpb (show(ev Γ σ (.resub x)).map _=_ from hv) λd hd=>Zac (show(ev Γ σ x).bind _=some d from hd) λdl hdl hd=>?_
 revert hdl
 refine ZbG hd λls hd=>ifS hd λhlen hd=>eqs hd λhdl k=>?_
 refine ZbU (show ZbZ _ st=true from hm) λt' v p hm=>Zd2 hm λm1 m2 hm=>Zby hm λo ap as pos mc m6 hm=>Zl6 hm λlm a hm=>Zi6 hm λm3 m9 m10 hm=>ZfI m1 λy p hy hk=>?_
 refine Zbx m3 λo op m3=>Zbg m3 λm3 m4=>?_
 revert m4
 refine eqb m3 λm4=>ZrY hm λparams body scope lpos hm=>Zd2 hm λm7 m8 hB=>?_
 obtain⟨hpat0,opat,hopat,hopd⟩:=hpa _ f.ok.gd
 obtain⟨_,_,_,q1,q2,_⟩:=id hpat0
 refine wpAny_Assign_Name (wpAny_Call_method (T := "re.Pattern") (id := "re.Pattern.sub") (ZaQ rfl) (by erw[rwl (Zab (show Zai (.Lambda params body scope lpos)=true from rfl) ..) (rwl (Zab m9 ..) (rwl (Zam ..) ?_))];rfl) m6 Zgo Zgu Znf
  (ZcR G f.ok.gd (f.ZcE H) m4 hpg (by decide) ⟨⟨_,q1,q2⟩,λa' e=>⟨opat,(congrArg s.heap.get? (Value.ref.inj e)).symm.trans hopat,hopd⟩,?_⟩)) rfl
 erw[rwl (Zab (show Zai (.Lambda params body scope lpos)=true from rfl) ..) (rwl (Zab m9 ..) (rwl (Zam ..) (rwl (Zah ..) (rwl (Zah ..) (rwl (Zay ..) ?_)))))]
 refine Calls.callWith_builtin rfl (Calls.evalArgs_plain (Calls.spliced_cons ?_))
 obtain⟨nf,sk⟩:=ZnG hB
 have hcl:closureFor scope F.env=pure []:=(ZbM λz hz=>absurd hz (nf z)).trans (by erw[rwl (ZcP nf ..) ?_])
 obtain⟨pq,h1,h2,h3,h4⟩:=hq gl gc hg
 have h2:=h2.trans (eq_of_beq m7).symm
 have h3:=h3.trans (eq_of_beq m8).symm
 refine kla_eval sk (Zo4 (c:=c) (P:=P) (xs:=xs) (mg:=mg) (O.tab _ f.ok.gd) ⟨pq,h1,h2,h3,h4⟩ (λpq' hp' a1 a2=>(O.hu pq' hp' pq h1 (a1.trans h2.symm) (a2.trans h3.symm)).trans h4) hcl (.inl rfl) H.gl (G.g _ f.ok.gd) O.code O.nP (O.bi _ f.ok.gd) f.ok.tk λcv ctv h' tk Md T2 htk=>?_)
 have Gd2:F.Gd h':=O.set _ _ f.ok.gd Md.kp Md.bt T2
 have kF:∀b o,h'.get? b=some o->(h'.push { cls:=.type "function",data:=.func (kla_fn "<lambda>" (F.env.qual ++ "<lambda>") params body scope [] ((mg "__name__").getD .none) cv ctv) }).get? b=some o:=λ_ _ e=>Heap.get?_push_of_some _ e
 have gw:Gw s { s with heap:=h'.push { cls:=.type "function",data:=.func (kla_fn "<lambda>" (F.env.qual ++ "<lambda>") params body scope [] ((mg "__name__").getD .none) cv ctv) },toks:=tk }:=⟨Md.kp.trans (.of kF),λb o e=>let ⟨o',e'⟩:=Md.ex b o e;⟨o',kF _ _ e'⟩,rfl,id⟩
 refine Calls.spliced_cons (ZdV H ax m10 m2 L (f.grow gw ⟨G.keeps Gd2 kF,htk⟩) hdl λv s₂ f₂ g₂ r₂=>r₂.Zba λt hl=>Calls.spliced_nil ?_)
 have hv₂:=g₂.kp _ _ (.ZaD rfl) (Heap.get?_push_size h' rfl)
 obtain⟨I,hI,G',RO⟩:=ZkA (prog:=prog) (w:=w) G (pa:=pa) (t:=t) hlen hB hv₂ (Md.rc.kp ((Kp.of kF).trans g₂.kp))
 refine ZuG G' RO ⟨_,hv₂,rfl⟩ hlen (L.le (Nat.le_trans (Nat.le_of_ble_eq_true rfl) hn)) ⟨⟨f₂.ok.gd,hI⟩,f₂.ok.tk⟩ (hpa _ f₂.ok.gd).1 λu s₃ g₃ o₃=>?_
 exact(f₂.grow g₃ ⟨o₃.gd.1,o₃.tk⟩).Zc0 G H hy hk (d:=.str (Zel ls)) (.str _ _ (Nat.le_trans (Zi4 ls) (Nat.le_trans (Nat.mul_le_mul_left 2 hlen) (Nat.le_of_ble_eq_true rfl)))) λs₄ f₄ t₄=>k ad s₄ f₄ (((gw.trans g₂).trans g₃).stp.trans t₄)
end
end
section
noncomputable def ZhG(prog:Program)(w:World)(Gd:Heap->Prop)(fv:Value)(n:Nat)(href:Heap)(W P1:Addr->Prop)(sem:D->D->Option D):Prop:=
 ∀a b d,sem a b=some d->∀(A:Around) (P:Addr->Prop) (s:Shared) (va vb:Value) (E Q:Value->Shared->Prop),Lv A n->Ok Gd s->KpB W href s.heap->Pf P s.heap->(∀x,P1 x->P x)->Rd P s.heap va a->Rd P s.heap vb b->
  (∀v s',Gw s s'->Ok Gd s'->Rd P s'.heap v d->Q v s')->wpAny (model prog w) A (call fv [va,vb]) Q E s
noncomputable abbrev Za9(env:Env):Prop:=(env.scope.kind=.function)∧(env.globals=mainGlobals)∧(env.builtins=builtinsNs)∧(env.kindOf "function" = some .local)∧(env.kindOf "sequence" = some .local)∧(env.kindOf "initial" = some .local)∧(env.kindOf "it" = some .local)∧(env.kindOf "value" = some .local)∧(env.kindOf "element" = some .local)
theorem Za9.kd{env:Env}(slf:Za9 env):env.scope.kind=.function:=slf.1
theorem Za9.gl{env:Env}(slf:Za9 env):env.globals=mainGlobals:=slf.2.1
theorem Za9.bu{env:Env}(slf:Za9 env):env.builtins=builtinsNs:=slf.2.2.1
theorem Za9.k1{env:Env}(slf:Za9 env):env.kindOf "function" = some .local:=slf.2.2.2.1
theorem Za9.k2{env:Env}(slf:Za9 env):env.kindOf "sequence" = some .local:=slf.2.2.2.2.1
theorem Za9.k3{env:Env}(slf:Za9 env):env.kindOf "initial" = some .local:=slf.2.2.2.2.2.1
theorem Za9.k4{env:Env}(slf:Za9 env):env.kindOf "it" = some .local:=slf.2.2.2.2.2.2.1
theorem Za9.k5{env:Env}(slf:Za9 env):env.kindOf "value" = some .local:=slf.2.2.2.2.2.2.2.1
theorem Za9.k6{env:Env}(slf:Za9 env):env.kindOf "element" = some .local:=slf.2.2.2.2.2.2.2.2
section
variable {prog:Program}{w:World}{base:Addr->Prop}{mg mb:Str->Option Value}{Gd:Heap->Prop}{A:Around}{s:Shared}
theorem Zb6{env:Env}{n:Str}{v:Value}{p:Pos}{m:Str->Option Value}{E:Value->Shared->Prop}{Q:Value->Shared->Prop}(hk:env.scope.kind=.function)(hl:env.kindOf n=some .local)(hn:s.heap.Ns env.locals m)(e:m n=some v)(hd:n≠("__debug__" : Str))(h:Q v s):wpAny (model prog w) A (eval (.Name n p) env) Q E s:=
 wpAny_Name (wpAny_loadName_local hk hl hn e h) (beq_eq_false_iff_ne.mpr hd)
noncomputable abbrev RS(P S base W:Addr->Prop)(href:Heap)(C I:Addr):Prop:=(¬P C)∧(¬P I)∧(¬S C)∧(C≠I)∧(¬base C)∧(¬base I)∧(∀b,(b=C∨b=I)->W b∨href.get? b=none)
theorem RS.pC{P S base W:Addr->Prop}{href:Heap}{C I:Addr}(slf:RS P S base W href C I) : ¬P C:=slf.1
theorem RS.pI{P S base W:Addr->Prop}{href:Heap}{C I:Addr}(slf:RS P S base W href C I) : ¬P I:=slf.2.1
theorem RS.sC{P S base W:Addr->Prop}{href:Heap}{C I:Addr}(slf:RS P S base W href C I) : ¬S C:=slf.2.2.1
theorem RS.cI{P S base W:Addr->Prop}{href:Heap}{C I:Addr}(slf:RS P S base W href C I):C≠I:=slf.2.2.2.1
theorem RS.bC{P S base W:Addr->Prop}{href:Heap}{C I:Addr}(slf:RS P S base W href C I) : ¬base C:=slf.2.2.2.2.1
theorem RS.bI{P S base W:Addr->Prop}{href:Heap}{C I:Addr}(slf:RS P S base W href C I) : ¬base I:=slf.2.2.2.2.2.1
theorem RS.hW{P S base W:Addr->Prop}{href:Heap}{C I:Addr}(slf:RS P S base W href C I):∀b,(b=C∨b=I)->W b∨href.get? b=none:=slf.2.2.2.2.2.2
noncomputable abbrev RB(P S W:Addr->Prop)(Gd:Heap->Prop)(href:Heap)(C I:Addr)(s:Shared)(m:Str->Option Value)(v:Value)(acc:D)(rem:List D)(s₂:Shared):Prop:=(s₂.heap.Ns C m)∧(Rd P s₂.heap v acc)∧(It P S s₂.heap I rem)∧(Ok Gd s₂)∧(Pf P s₂.heap)∧(KpB W href s₂.heap)∧(GwB (λb=>b=C∨b=I) s s₂)
theorem RB.ns{P S W:Addr->Prop}{Gd:Heap->Prop}{href:Heap}{C I:Addr}{s:Shared}{m:Str->Option Value}{v:Value}{acc:D}{rem:List D}{s₂:Shared}(slf:RB P S W Gd href C I s m v acc rem s₂):s₂.heap.Ns C m:=slf.1
theorem RB.rv{P S W:Addr->Prop}{Gd:Heap->Prop}{href:Heap}{C I:Addr}{s:Shared}{m:Str->Option Value}{v:Value}{acc:D}{rem:List D}{s₂:Shared}(slf:RB P S W Gd href C I s m v acc rem s₂):Rd P s₂.heap v acc:=slf.2.1
theorem RB.it{P S W:Addr->Prop}{Gd:Heap->Prop}{href:Heap}{C I:Addr}{s:Shared}{m:Str->Option Value}{v:Value}{acc:D}{rem:List D}{s₂:Shared}(slf:RB P S W Gd href C I s m v acc rem s₂):It P S s₂.heap I rem:=slf.2.2.1
theorem RB.ok{P S W:Addr->Prop}{Gd:Heap->Prop}{href:Heap}{C I:Addr}{s:Shared}{m:Str->Option Value}{v:Value}{acc:D}{rem:List D}{s₂:Shared}(slf:RB P S W Gd href C I s m v acc rem s₂):Ok Gd s₂:=slf.2.2.2.1
theorem RB.hP{P S W:Addr->Prop}{Gd:Heap->Prop}{href:Heap}{C I:Addr}{s:Shared}{m:Str->Option Value}{v:Value}{acc:D}{rem:List D}{s₂:Shared}(slf:RB P S W Gd href C I s m v acc rem s₂):Pf P s₂.heap:=slf.2.2.2.2.1
theorem RB.hk{P S W:Addr->Prop}{Gd:Heap->Prop}{href:Heap}{C I:Addr}{s:Shared}{m:Str->Option Value}{v:Value}{acc:D}{rem:List D}{s₂:Shared}(slf:RB P S W Gd href C I s m v acc rem s₂):KpB W href s₂.heap:=slf.2.2.2.2.2.1
theorem RB.hg{P S W:Addr->Prop}{Gd:Heap->Prop}{href:Heap}{C I:Addr}{s:Shared}{m:Str->Option Value}{v:Value}{acc:D}{rem:List D}{s₂:Shared}(slf:RB P S W Gd href C I s m v acc rem s₂):GwB (λb=>b=C∨b=I) s s₂:=slf.2.2.2.2.2.2
section
variable {P S W:Addr->Prop}{href:Heap}{C I:Addr}{m m':Str->Option Value}{v v':Value}{acc acc':D}{rem:List D}{s₂ s₃:Shared}
theorem RS.kT(X:RS P S base W href C I){a b:Heap}(y:KpB W href a)(x:KpB (λb=>b=C∨b=I) a b):KpB W href b:=λb o n z e=>x b o n (λz'=>(X.hW b z').elim z λq=>nn (q.symm.trans e)) (y b o n z e)
theorem RB.gw(B:RB P S W Gd href C I s m v acc rem s₂)(g:Gw s₂ s₃)(o:Ok Gd s₃)(r:Rd P s₃.heap v' acc'):RB P S W Gd href C I s m v' acc' rem s₃:=
 ⟨Zj1 B.ns g.kp,r,B.it.mono λb ob n _ e=>g.kp b ob n e,o,B.hP.kp g.kp,B.hk.trans g.kp.toB,B.hg.trans g.toB⟩
theorem RB.set(G:Gr base mg mb Gd)(X:RS P S base W href C I)(B:RB P S W Gd href C I s m v acc rem s₂){h:Heap}{tk:Tok}(hs:Heap.ExtBut C s₂.heap h)(hn:h.Ns C m')(ht:1<=tk):RB P S W Gd href C I s m' v acc rem { s₂ with heap:=h,toks:=tk }:=
 have g:GwB (λb=>b=C∨b=I) s₂ { s₂ with heap:=h,toks:=tk }:=.of_same hs (.inl rfl)
 ⟨hn,B.rv.but X.pC hs,B.it.mono λb ob _ q e=>hs b ob (λx=>q.elim (λq=>X.pC (x▸q)) λq=>q.elim (λq=>X.sC (x▸q)) λq=>X.cI (x.symm.trans q)) e,
  ⟨let ⟨_,e,m,_⟩:=Mut.ns B.ns;G.same B.ok.gd X.bC e m hs,ht⟩,B.hP.same hs (let ⟨o,e,_,n⟩:=Mut.ns hn;⟨o,n,e⟩),X.kT B.hk g.kp,B.hg.trans g⟩
theorem RB.next(G:Gr base mg mb Gd)(X:RS P S base W href C I){d:List D}(B:RB P S W Gd href C I s m v acc d s₂){h:Heap}{tk:Tok}(hs:Heap.ExtBut I s₂.heap h)(hi:It P S h I rem)(ht:1<=tk):RB P S W Gd href C I s m v acc rem { s₂ with heap:=h,toks:=tk }:=
 have g:GwB (λb=>b=C∨b=I) s₂ { s₂ with heap:=h,toks:=tk }:=.of_same hs (.inr rfl)
 ⟨B.ns.extBut hs X.cI,B.rv.but X.pI hs,hi,⟨let ⟨_,e,m,_⟩:=B.it.mut;G.same B.ok.gd X.bI e m hs,ht⟩,B.hP.same hs (let ⟨o,e,_,n⟩:=hi.mut;⟨o,n,e⟩),X.kT B.hk g.kp,B.hg.trans g⟩
end
theorem Ziq(G:Gr base mg mb Gd){env:Env}(X:Za9 env){I fa:Addr}{n:Nat}{fo:Obj}{fd:FuncData}{href:Heap}{W P1 P S:Addr->Prop}{sem:D->D->Option D}(hst:ZhG prog w Gd (.ref fa) n href W P1 sem)
  (hfd:fo.data=.func fd) (hfn:NT fo) (hWfa : ¬W fa) (hfo:href.get? fa=some fo) (Y:RS P S base W href env.locals I) (hP1:∀x,P1 x->P x)
  {p1 p2 p3 p4 p5 p6 p7:Pos} {R:Result->Shared->Prop} (L:Lv A n) {ds:List D} {acc d:D} (hd:ZbO sem ds acc=some d) {m:Str->Option Value} {v:Value} (hm:m "function" = some (.ref fa)) (hmv:m "value" = some v) {s₀:Shared} (B:RB P S W Gd href env.locals I s m v acc ds s₀)
  (k:∀v' s' m',GwB (λb=>b=env.locals∨b=I) s s'->Ok Gd s'->s'.heap.Ns env.locals m'->m' "value" = some v'->Rd P s'.heap v' d->R (.ok .next) s') :
  codeAny (model prog w) A (.forLoop (.Name "element" p1) (.ref I) [.Assign [.Name "value" p2] (.Call (.Name "function" p3) [.Name "value" p4,.Name "element" p5] [] p6) p7] [] env) R s₀:=by
 refine codeAny_forLoop_any (λc s₂=>∃rem acc m v,RB P S W Gd href env.locals I s m v acc rem s₂∧c=rem.length∧ZbO sem rem acc=some d∧m "function" = some (.ref fa)∧m "value" = some v)
  (λc s₂ h=>?_) ds.length ⟨ds,acc,m,v,B,rfl,hd,hm,hmv⟩
 obtain⟨rem,acc,m,v,B,e0,hd,hm,hmv⟩:=h
 refine wrap B.ok.tk ?_
 cases rem with
 | nil=>
  rw[←Option.some.inj (show some acc=some d from hd)] at k
  exact B.it.done L.hd λh' hs ht=>wpAny_execs_nil (k v _ m (B.hg.trans (.of_same (tk:=s₂.toks) hs (.inr rfl))) ⟨let ⟨_,e,m,_⟩:=B.it.mut;G.same B.ok.gd Y.bI e m hs,ht⟩ (B.ns.extBut hs Y.cI) hmv (B.rv.but Y.pI hs))
 | cons x rem=>
  obtain⟨acc',h1,hd⟩:=bind_some hd
  refine B.it.next Y.pI λvx h' tk rx hit hs ht=>?_
  have B₃:=B.next (tk:=tk) G Y hs.extBut hit ht
  refine wpAny_pure (wpAny_assign_Name (wpAny_storeName_local X.k6 B₃.ns (λh₄ hn₄ hs₄=>?_) (by erw[rwl (X.kd ..) ?_];rfl)))
  have B₄:=B₃.set (tk:=tk+1) G Y hs₄.extBut hn₄ (Nat.le_succ_of_le ht)
  have mf:(if("function" : Str) = "element" then some vx else m "function")=some (.ref fa):=(if_neg (by decide)).trans hm
  refine wpAny_execs_cons (wpAny_Assign_Name (wpAny_Call_NameR (Zb6 X.kd X.k1 B₄.ns mf (by decide) ?_)) rfl)
  erw[rwl (Zab (show Zai (.Name "value" p4)=true from rfl) ..) (rwl (Zab (show Zai (.Name "element" p5)=true from rfl) ..) (rwl (Zam ..) (rwl (Zah ..) (rwl (Zah ..) (rwl (Zay ..) ?_)))))]
  refine Calls.callWith_function (o:=fo) (fd:=fd) (Calls.evalArgs_plain (Calls.spliced_cons (Zb6 X.kd X.k5 B₄.ns ((if_neg (by decide)).trans hmv) (by decide) (Calls.spliced_cons (Zb6 (s:={ s₂ with heap:=h₄,toks:=tk+1 }) X.kd X.k6 B₄.ns (if_pos rfl) (by decide) (Calls.spliced_nil ⟨⟨B₄.hk _ _ hfn hWfa hfo,hfd⟩,?_⟩))))))
  refine hst acc x acc' h1 A P _ v vx _ _ L B₄.ok B₄.hk B₄.hP hP1 B₄.rv ((rx.but Y.pI hs.extBut).but Y.pC hs₄.extBut) λv₅ s₅ g₅ o₅ r₅=>?_
  have B₅:=B₄.gw g₅ o₅ r₅
  exact wpAny_storeName_local X.k5 B₅.ns (λh₆ hn₆ hs₆=>wpAny_execs_nil ⟨rem.length,e0▸Nat.lt_succ_self _,rem,acc',_,v₅,B₅.set G Y hs₆.extBut hn₆ (Nat.le_succ_of_le o₅.tk),rfl,hd,(if_neg (by decide)).trans mf,if_pos rfl⟩) (by erw[rwl (X.kd ..) ?_];rfl)
end
end
section
section
variable {prog:Program}{w:World}{base:Addr->Prop}{mg mb:Str->Option Value}{Gd:Heap->Prop}{A:Around}{s:Shared}
theorem Zif(G:Gr base mg mb Gd){env:Env}(X:Za9 env){I fa im:Addr}{n:Nat}{fo:Obj}{fd:FuncData}{href:Heap}{W P1 P S:Addr->Prop}{sem:D->D->Option D}(hst:ZhG prog w Gd (.ref fa) n href W P1 sem)
  (hfd:fo.data=.func fd) (hfn:NT fo) (hWfa : ¬W fa) (hfo:href.get? fa=some fo) (Y:RS P S base W href env.locals I) (hP1:∀x,P1 x->P x)
  (him:mg ("_initial_missing" : Str)=some (.ref im)) (himb:base im) (kim:env.kindOf "_initial_missing" = some .globalImplicit)
  {q1 q2 q3 q4 q5 q6 q7 q8 q9 p1 p2 p3 p4 p5 p6 p7:Pos} {tryS:List Stmt} {E:Value->Shared->Prop} {Q:Flow->Shared->Prop} (L:Lv A n) {ds l0:List D} {d:D} (hd:ZbO sem ds (.list l0)=some d) {m:Str->Option Value} {v:Value} (hm:m "function" = some (.ref fa)) (hmi:m "initial" = some v) (hmt:m "it" = some (.ref I)) (hvi:v≠.ref im) {s₀:Shared} (B:RB P S W Gd href env.locals I s m v (.list l0) ds s₀)
  (k:∀v' s',GwB (λb=>b=env.locals∨b=I) s s'->Ok Gd s'->Rd P s'.heap v' d->Q (.ret v') s') :
  wpAny (model prog w) A (execs [.If (.Compare (.Name "initial" q1) [.Is] [.Name "_initial_missing" q2] q3) tryS [.Assign [.Name "value" q4] (.Name "initial" q5) q6] q7,
   .For (.Name "element" p1) (.Name "it" q8) [.Assign [.Name "value" p2] (.Call (.Name "function" p3) [.Name "value" p4,.Name "element" p5] [] p6) p7] [] q9,
   .Return (some (.Name "value" q1')) q2'] env) Q E s₀:=by
 obtain⟨il,vs0,ev,_,⟨nil,eil⟩,_,_⟩:=B.rv.Zbq
 obtain⟨oim,eim⟩:=G.there _ _ B.ok.gd himb
 refine wpAny_execs_cons (wpAny_If (wpAny_isTrue_Compare1 (Zb6 X.kd X.k3 B.ns hmi (by decide) (Calls.Name_function_global X.kd kim (Calls.loadGlobal_global (X.gl▸G.g _ B.ok.gd) him ?_) (by decide))) rfl))
 erw[rwl (ev ..) ?_]
 refine wpAny_is_ref_other (λq=>hvi (ev.trans (congrArg Value.ref q))) eil eim (by simp) (wpAny_truthy_bool ?_)
 refine wpAny_execs_cons (wpAny_Assign_Name (Zb6 X.kd X.k3 B.ns hmi (by decide) ?_) rfl)
 refine wpAny_storeName_local X.k5 B.ns (λh₁ hn₁ hs₁=>wpAny_execs_nil ?_) (by erw[rwl (X.kd ..) ?_];rfl)
 have B₁:=B.set (tk:=s₀.toks+1) G Y hs₁.extBut hn₁ (Nat.le_succ_of_le B.ok.tk)
 refine wpAny_execs_cons (wpAny_For (Zb6 (s:={ s₀ with heap:=h₁,toks:=s₀.toks+1 }) X.kd X.k4 B₁.ns ((if_neg (by decide)).trans hmt) (by decide) (It.self B₁.it ?_)) (λ_=>rfl))
 exact Ziq G X hst hfd hfn hWfa hfo Y hP1 L hd ((if_neg (by decide)).trans hm) (if_pos rfl) B₁ λv' s' m' g' o' hn' hmv' r'=>wpAny_execs_cons (wpAny_Return_some (Zb6 X.kd X.k5 hn' hmv' (by decide) (k v' s' g' o' r')))
noncomputable abbrev ZaE(Gd:Heap->Prop)(base:Addr->Prop)(mg:Str->Option Value)(fd:FuncData)(o:Obj)(a im:Addr):Prop:=(∀h,Gd h->h.get? a=some o)∧(o.data=.func fd)∧(∀h,Gd h->h.CodeRec fd.code fd.qualname)∧(fd.closure=[])∧(fd.globals=mainGlobals)∧(fd.builtins=builtinsNs)∧(∀(M:Model) (A:Around) (s:Shared) (x y z:Value) (E:Value->Shared->Prop) (Q:List (Str×Value)->Shared->Prop),Gd s.heap->Q [("function",x),("sequence",y),("initial",z)] s->wpAny M A (bindArgs fd ⟨[x,y,z],[]⟩) Q E s)∧(fd.scope.isCoroutine=false)∧(fd.scope.isGenerator=false)∧(fd.scope.kind=.function)∧(∀y∈fd.scope.names,y.2≠.cell)∧(fd.scope.names.lookup ("function" : Str)=some .local)∧(fd.scope.names.lookup ("sequence" : Str)=some .local)∧(fd.scope.names.lookup ("initial" : Str)=some .local)∧(fd.scope.names.lookup ("it" : Str)=some .local)∧(fd.scope.names.lookup ("value" : Str)=some .local)∧(fd.scope.names.lookup ("element" : Str)=some .local)∧(fd.scope.names.lookup ("iter" : Str)=some .globalImplicit)∧(fd.scope.names.lookup ("_initial_missing" : Str)=some .globalImplicit)∧(mg ("_initial_missing" : Str)=some (.ref im))∧(base im)
theorem ZaE.ob{Gd:Heap->Prop}{base:Addr->Prop}{mg:Str->Option Value}{fd:FuncData}{o:Obj}{a im:Addr}(slf:ZaE Gd base mg fd o a im):∀h,Gd h->h.get? a=some o:=slf.1
theorem ZaE.da{Gd:Heap->Prop}{base:Addr->Prop}{mg:Str->Option Value}{fd:FuncData}{o:Obj}{a im:Addr}(slf:ZaE Gd base mg fd o a im):o.data=.func fd:=slf.2.1
theorem ZaE.cr{Gd:Heap->Prop}{base:Addr->Prop}{mg:Str->Option Value}{fd:FuncData}{o:Obj}{a im:Addr}(slf:ZaE Gd base mg fd o a im):∀h,Gd h->h.CodeRec fd.code fd.qualname:=slf.2.2.1
theorem ZaE.cl{Gd:Heap->Prop}{base:Addr->Prop}{mg:Str->Option Value}{fd:FuncData}{o:Obj}{a im:Addr}(slf:ZaE Gd base mg fd o a im):fd.closure=[]:=slf.2.2.2.1
theorem ZaE.gl{Gd:Heap->Prop}{base:Addr->Prop}{mg:Str->Option Value}{fd:FuncData}{o:Obj}{a im:Addr}(slf:ZaE Gd base mg fd o a im):fd.globals=mainGlobals:=slf.2.2.2.2.1
theorem ZaE.bu{Gd:Heap->Prop}{base:Addr->Prop}{mg:Str->Option Value}{fd:FuncData}{o:Obj}{a im:Addr}(slf:ZaE Gd base mg fd o a im):fd.builtins=builtinsNs:=slf.2.2.2.2.2.1
theorem ZaE.bi{Gd:Heap->Prop}{base:Addr->Prop}{mg:Str->Option Value}{fd:FuncData}{o:Obj}{a im:Addr}(slf:ZaE Gd base mg fd o a im):∀(M:Model) (A:Around) (s:Shared) (x y z:Value) (E:Value->Shared->Prop) (Q:List (Str×Value)->Shared->Prop),Gd s.heap->Q [("function",x),("sequence",y),("initial",z)] s->wpAny M A (bindArgs fd ⟨[x,y,z],[]⟩) Q E s:=slf.2.2.2.2.2.2.1
theorem ZaE.co{Gd:Heap->Prop}{base:Addr->Prop}{mg:Str->Option Value}{fd:FuncData}{o:Obj}{a im:Addr}(slf:ZaE Gd base mg fd o a im):fd.scope.isCoroutine=false:=slf.2.2.2.2.2.2.2.1
theorem ZaE.gen{Gd:Heap->Prop}{base:Addr->Prop}{mg:Str->Option Value}{fd:FuncData}{o:Obj}{a im:Addr}(slf:ZaE Gd base mg fd o a im):fd.scope.isGenerator=false:=slf.2.2.2.2.2.2.2.2.1
theorem ZaE.kd{Gd:Heap->Prop}{base:Addr->Prop}{mg:Str->Option Value}{fd:FuncData}{o:Obj}{a im:Addr}(slf:ZaE Gd base mg fd o a im):fd.scope.kind=.function:=slf.2.2.2.2.2.2.2.2.2.1
theorem ZaE.nc{Gd:Heap->Prop}{base:Addr->Prop}{mg:Str->Option Value}{fd:FuncData}{o:Obj}{a im:Addr}(slf:ZaE Gd base mg fd o a im):∀y∈fd.scope.names,y.2≠.cell:=slf.2.2.2.2.2.2.2.2.2.2.1
theorem ZaE.k1{Gd:Heap->Prop}{base:Addr->Prop}{mg:Str->Option Value}{fd:FuncData}{o:Obj}{a im:Addr}(slf:ZaE Gd base mg fd o a im):fd.scope.names.lookup ("function" : Str)=some .local:=slf.2.2.2.2.2.2.2.2.2.2.2.1
theorem ZaE.k2{Gd:Heap->Prop}{base:Addr->Prop}{mg:Str->Option Value}{fd:FuncData}{o:Obj}{a im:Addr}(slf:ZaE Gd base mg fd o a im):fd.scope.names.lookup ("sequence" : Str)=some .local:=slf.2.2.2.2.2.2.2.2.2.2.2.2.1
theorem ZaE.k3{Gd:Heap->Prop}{base:Addr->Prop}{mg:Str->Option Value}{fd:FuncData}{o:Obj}{a im:Addr}(slf:ZaE Gd base mg fd o a im):fd.scope.names.lookup ("initial" : Str)=some .local:=slf.2.2.2.2.2.2.2.2.2.2.2.2.2.1
theorem ZaE.k4{Gd:Heap->Prop}{base:Addr->Prop}{mg:Str->Option Value}{fd:FuncData}{o:Obj}{a im:Addr}(slf:ZaE Gd base mg fd o a im):fd.scope.names.lookup ("it" : Str)=some .local:=slf.2.2.2.2.2.2.2.2.2.2.2.2.2.2.1
theorem ZaE.k5{Gd:Heap->Prop}{base:Addr->Prop}{mg:Str->Option Value}{fd:FuncData}{o:Obj}{a im:Addr}(slf:ZaE Gd base mg fd o a im):fd.scope.names.lookup ("value" : Str)=some .local:=slf.2.2.2.2.2.2.2.2.2.2.2.2.2.2.2.1
theorem ZaE.k6{Gd:Heap->Prop}{base:Addr->Prop}{mg:Str->Option Value}{fd:FuncData}{o:Obj}{a im:Addr}(slf:ZaE Gd base mg fd o a im):fd.scope.names.lookup ("element" : Str)=some .local:=slf.2.2.2.2.2.2.2.2.2.2.2.2.2.2.2.2.1
theorem ZaE.k7{Gd:Heap->Prop}{base:Addr->Prop}{mg:Str->Option Value}{fd:FuncData}{o:Obj}{a im:Addr}(slf:ZaE Gd base mg fd o a im):fd.scope.names.lookup ("iter" : Str)=some .globalImplicit:=slf.2.2.2.2.2.2.2.2.2.2.2.2.2.2.2.2.2.1
theorem ZaE.k8{Gd:Heap->Prop}{base:Addr->Prop}{mg:Str->Option Value}{fd:FuncData}{o:Obj}{a im:Addr}(slf:ZaE Gd base mg fd o a im):fd.scope.names.lookup ("_initial_missing" : Str)=some .globalImplicit:=slf.2.2.2.2.2.2.2.2.2.2.2.2.2.2.2.2.2.2.1
theorem ZaE.mi{Gd:Heap->Prop}{base:Addr->Prop}{mg:Str->Option Value}{fd:FuncData}{o:Obj}{a im:Addr}(slf:ZaE Gd base mg fd o a im):mg ("_initial_missing" : Str)=some (.ref im):=slf.2.2.2.2.2.2.2.2.2.2.2.2.2.2.2.2.2.2.2.1
theorem ZaE.mbs{Gd:Heap->Prop}{base:Addr->Prop}{mg:Str->Option Value}{fd:FuncData}{o:Obj}{a im:Addr}(slf:ZaE Gd base mg fd o a im):base im:=slf.2.2.2.2.2.2.2.2.2.2.2.2.2.2.2.2.2.2.2.2
inductive Zd1 (P:Addr->Prop) (h:Heap) (ds:List D):(Addr->Prop)->Value->Prop
 | list {v:Value}:Rd P h v (.list ds)->Zd1 P h ds (λ_=>False) v
 | iter {I:Addr} {S:Addr->Prop}:It P S h I ds->(∀b,S b->∃o,h.get? b=some o)->¬P I->Zd1 P h ds (λb=>b=I) (.ref I)
theorem Zd1.mono{P P':Addr->Prop}{h h':Heap}{ds:List D}{W:Addr->Prop}{v:Value}(x:Zd1 P h ds W v)(hP:∀a o,h.get? a=some o->P a->P' a)(hI:∀a,P' a->P a)(k:∀b o,h.get? b=some o->h'.get? b=some o):Zd1 P' h' ds W v:=by
 cases x with
 | list r=>exact .list (r.mono λa o _ e p=>⟨hP a o e p,k a o e⟩)
 | iter hit hS hn=>exact .iter ((hit.excl hP).mono λb o _ _ e=>k b o e) (λb hb=>let ⟨o,e⟩:=hS b hb;⟨o,k b o e⟩) λp=>hn (hI _ p)
set_option tactic.hygienic true in
theorem Zof(G:Gr base mg mb Gd){P W:Addr->Prop}{ds:List D}{v:Value}{E Q:Value->Shared->Prop}(x:Zd1 P s.heap ds W v)(o:Ok Gd s)(hb:∀b,W b->¬base b){N:Addr->Prop}(hN:∀b,N b->¬P b)
  (hSN:∀I S,v=.ref I->It P S s.heap I ds->(∀b,S b->∃o,s.heap.get? b=some o)->It P (λb=>S b∧¬N b) s.heap I ds)
  (k:∀I S s',Gw s s'->Ok Gd s'->It (λa=>P a∧a≠I) S s'.heap I ds->(W I∨s.heap.get? I=none)->¬base I->(∀b,S b->¬N b)->Q (.ref I) s'):wpAny (model prog w) A (pyIter v) Q E s:=by
 cases x with
 | list r=>
  refine Zfc (fz:=true) (P:=P) G (.refl s) o r λI s₁ g₁ o₁ hit hI hbI=>?_
  exact k I _ s₁ g₁ o₁ hit (.inr hI) hbI λb hb n=>hN b n (hb.2.2 rfl)
 | iter hit hS hn=>
  rename_i I S
  refine It.self hit (k I _ s (.refl s) o ((hSN I S rfl hit hS).excl λa _ _ p=>⟨p,λq=>hn (q▸p)⟩) (.inl rfl) (hb I rfl) λb hb=>hb.2)
theorem ZiW(G:Gr base mg mb Gd){env:Env}(XE:Za9 env){im:Addr}{q1 q2 q3 q4 q5 q6 q7 q8 q9 p1 p2 p3 p4 p5 p6 p7 r1 r2 r3 r4 r5 r6 r7:Pos}{tryS:List Stmt}
  (kit:env.kindOf "iter" = some .globalImplicit) (kim:env.kindOf "_initial_missing" = some .globalImplicit) (him:mg "_initial_missing" = some (.ref im)) (himb:base im)
  {fa:Addr} {n:Nat} {fo:Obj} {ffd:FuncData} {href:Heap} {W P1 P:Addr->Prop} {sem:D->D->Option D} (hst:ZhG prog w Gd (.ref fa) n href W P1 sem)
  (hfd:fo.data=.func ffd) (hfn:NT fo) (hWfa : ¬W fa) (hfo:href.get? fa=some fo) {ds l0:List D} {sv iv:Value} (hsq:Zd1 P s.heap ds W sv) (hb:∀b,W b->¬base b) (hLb : ¬base env.locals) (hLr:href.get? env.locals=none) (hWL : ¬W env.locals) (hPL : ¬P env.locals)
  (hPi:∀x,P1 x->P x) (hPW:∀x,P1 x->¬W x) (hPe:∀x,P1 x->∃o,href.get? x=some o) (hr0:∀b,s.heap.get? b=none->href.get? b=none)
  (hSL:∀I S,sv=.ref I->It P S s.heap I ds->(∀b,S b->∃o,s.heap.get? b=some o)->It P (λb=>S b∧¬b=env.locals) s.heap I ds)
  {d:D} (hd:ZbO sem ds (.list l0)=some d) {E:Value->Shared->Prop} {Q:Flow->Shared->Prop} (L:Lv A n) (ok:Ok Gd s) (hP:Pf P s.heap) (hk:KpB W href s.heap) {m:Str->Option Value} (hn:s.heap.Ns env.locals m)
  (m1:m "function" = some (.ref fa)) (m2:m "sequence" = some sv) (m3:m "initial" = some iv) (hv:Rd P s.heap iv (.list l0)) (hne:iv≠.ref im)
  (k:∀v' s',GwB (λb=>b=env.locals∨W b) s s'->Ok Gd s'->Rd P s'.heap v' d->Q (.ret v') s') :
  wpAny (model prog w) A (execs [.Assign [.Name "it" r1] (.Call (.Name "iter" r2) [.Name "sequence" r3] [] r4) r5,.If (.Compare (.Name "initial" q1) [.Is] [.Name "_initial_missing" q2] q3) tryS [.Assign [.Name "value" q4] (.Name "initial" q5) q6] q7,
   .For (.Name "element" p1) (.Name "it" q8) [.Assign [.Name "value" p2] (.Call (.Name "function" p3) [.Name "value" p4,.Name "element" p5] [] p6) p7] [] q9,
   .Return (some (.Name "value" r6)) r7] env) Q E s:=by
 obtain⟨b1,b2⟩:=G.bi ("iter" : Str) (.builtin "iter") (by simp)
 refine wpAny_execs_cons (wpAny_Assign_Name (wpAny_Call_NameR (Calls.Name_function_global XE.kd kit (Calls.loadGlobal_builtin (XE.gl▸G.g _ ok.gd) b1 (XE.bu▸G.b _ ok.gd) b2 ?_) (by decide))) rfl)
 erw[rwl (Zab (show Zai (.Name "sequence" r3)=true from rfl) ..) (rwl (Zam ..) (rwl (Zah ..) (rwl (Zay ..) ?_)))]
 refine Calls.callWith_builtin rfl (Calls.evalArgs_plain (Calls.spliced_cons (Zb6 XE.kd XE.k2 hn m2 (by decide) (Calls.spliced_nil ?_))))
 refine Calls.call_function_entry (by decide +kernel) (by decide +kernel) kdk_entry_iter (kdk_args_iter _) ?_
 unfold Builtin.«iter»
 refine wpAny_bind (m:=someArgs "iter" 1 2 _) (wpAny_of_eq (a:=[sv]) rfl ?_)
 show wpAny _ _ (pyIter sv >>= _) _ _ _
 refine wpAny_bind (Zof G hsq ok hb (N:=λb=>b=env.locals) (λb e=>by erw[rwl (e ..) ?_];exact hPL) hSL λI S s₁ g₁ o₁ hit hI hbI hSN=>?_)
 refine wpAny_pure ⟨_,rfl,?_⟩
 have hn₁:=Zj1 hn g₁.kp
 refine wpAny_storeName_local XE.k4 hn₁ (λh₂ hn₂ hs₂=>?_) (by erw[rwl (XE.kd ..) ?_];rfl)
 have hLI:env.locals≠I:=λq=>hI.elim (λh=>hWL (q▸h)) λh=>let ⟨_,_,_,e,_⟩:=hn;nn (h.symm.trans (q▸e))
 have nV:∀b o,¬(b=env.locals∨W b)->s.heap.get? b=some o->¬(b=env.locals∨b=I):=λb o z e q=>q.elim (λq=>z (.inl q)) λq=>hI.elim (λh=>z (.inr (q▸h))) λh=>nn (h.symm.trans (q▸e))
 have Y:RS (λa=>P a∧a≠I) S base W href env.locals I:=⟨λp=>hPL p.1,λp=>p.2 rfl,λz=>hSN _ z rfl,hLI,hLb,hbI,λb hb=>hb.elim (λq=>.inr (q▸hLr)) λq=>q▸hI.imp id λq=>hr0 _ q⟩
 suffices B₁:RB (λa=>P a∧a≠I) S W Gd href env.locals I s₁ m iv (.list l0) ds s₁ by
  have B₂:=B₁.set (tk:=s₁.toks+1) G Y hs₂.extBut hn₂ (Nat.le_succ_of_le o₁.tk)
  refine Zif G XE hst hfd hfn hWfa hfo Y (λx hx=>⟨hPi x hx,λq=>?_⟩) him himb kim L hd ((if_neg (by decide)).trans m1) ((if_neg (by decide)).trans m3) (if_pos rfl) hne B₂ λv' s' g' o' r'=>?_
  ·exact hI.elim (λh=>hPW x hx (q▸h)) λh=>let ⟨_,e⟩:=hPe x hx;nn ((hr0 _ h).symm.trans (q▸e))
  ·exact k v' s' ⟨λb o n z e=>g'.kp b o n (nV b o z e) (g₁.kp b o n e),λb o z e=>let ⟨o1,e1⟩:=g₁.ex b o e;g'.ex b o1 (nV b o z e) e1,g'.os.trans g₁.os,λq=>g'.gens (g₁.gens q)⟩ o' (r'.mono λa o _ e p=>⟨p.1,e⟩)
 refine⟨hn₁,hv.mono λa o n e p=>⟨⟨p,λq=>?_⟩,g₁.kp a o n e⟩,hit,o₁,λa na=>?_,hk.trans g₁.kp.toB,.refl _ _⟩
 ·by_cases p:P a
  ·have:a=I:=Classical.byContradiction λq=>na ⟨p,q⟩
   obtain⟨o,e,_,n⟩:=hit.mut
   exact⟨o,n,this▸e⟩
  ·exact(hP.kp g₁.kp) a p
 ·rcases hI with hI | hI
  ·cases hsq with
   | list=>exact hI
   | iter _ _ hn'=>exact hn' (by have:a=_:=q.trans (show I=_ from hI);exact this▸p)
  ·exact nn (hI.symm.trans (q▸e))
end
end
section
section
variable {prog:Program}{w:World}{base:Addr->Prop}{mg mb:Str->Option Value}{Gd:Heap->Prop}{A:Around}{s:Shared}
theorem Zh9(G:Gr base mg mb Gd){fd:FuncData}{o:Obj}{a im:Addr}(X:ZaE Gd base mg fd o a im){q1 q2 q3 q4 q5 q6 q7 q8 q9 p1 p2 p3 p4 p5 p6 p7 r1 r2 r3 r4 r5 r6 r7:Pos}{tryS:List Stmt}
  (hbo:fd.body=.stmts [.Assign [.Name "it" r1] (.Call (.Name "iter" r2) [.Name "sequence" r3] [] r4) r5,.If (.Compare (.Name "initial" q1) [.Is] [.Name "_initial_missing" q2] q3) tryS [.Assign [.Name "value" q4] (.Name "initial" q5) q6] q7,
   .For (.Name "element" p1) (.Name "it" q8) [.Assign [.Name "value" p2] (.Call (.Name "function" p3) [.Name "value" p4,.Name "element" p5] [] p6) p7] [] q9,
   .Return (some (.Name "value" r6)) r7])
  {fa:Addr} {n:Nat} {fo:Obj} {ffd:FuncData} {href:Heap} {W P1 P:Addr->Prop} {sem:D->D->Option D} (hst:ZhG prog w Gd (.ref fa) n href W P1 sem)
  (hfd:fo.data=.func ffd) (hfn:NT fo) (hWfa : ¬W fa) (hfo:href.get? fa=some fo) {ds l0:List D} {sv iv:Value} (hsq:Zd1 P s.heap ds W sv) (hb:∀b,W b->¬base b) (hWs:∀b,W b->∃o,s.heap.get? b=some o)
  (hPi:∀x,P1 x->P x) (hPW:∀x,P1 x->¬W x) (hPe:∀x,P1 x->∃o,href.get? x=some o) (hr0:∀b,s.heap.get? b=none->href.get? b=none)
  {d:D} (hd:ZbO sem ds (.list l0)=some d) {R:Result->Shared->Prop} (L:Lv A (n+1)) (ok:Ok Gd s) (hP:Pf P s.heap) (hk:KpB W href s.heap) (hv:Rd P s.heap iv (.list l0)) (hne:iv≠.ref im)
  (k:∀v' s',GwB W s s'->Ok Gd s'->Rd P s'.heap v' d->R (.ok (.ret v')) s') :
  codeAny (model prog w) A (.call (.ref a) ⟨[.ref fa,sv,iv],[]⟩) R s:=by
 refine codeAny_call_function (by have:=L.dp;have e:recursionLimit=1000:=rfl;lia) (X.ob _ ok.gd) X.da X.co X.gen hbo (X.cr _ ok.gd) ?_
 refine X.bi _ _ _ _ _ _ _ _ ok.gd ?_
 erw[rwl (X.cl ..) ?_]
 refine wpAny_newFunctionEnv X.nc (λz hz=>by
  simp only[List.mem_cons,List.not_mem_nil,or_false] at hz
  rcases hz with rfl | rfl | rfl
  ·exact X.k1
  ·exact X.k2
  ·exact X.k3) (λh₁ hns hsb=>?_) X.kd
 have sL:=Zau s.heap
 have hk₁:∀b o,s.heap.get? b=some o->h₁.get? b=some o:=λb o e=>hsb.extBut b o (Nat.ne_of_lt (Heap.lt_size e)) (Heap.get?_push_of_some _ e)
 have g₁:Gw s { s with heap:=h₁,toks:=s.toks+3 }:=.of_keep hk₁
 have o₁:Ok Gd { s with heap:=h₁,toks:=s.toks+3 }:=⟨G.keeps ok.gd hk₁,Nat.le_trans ok.tk (Nat.le_add_right _ _)⟩
 refine⟨G.lim _ o₁.gd,codeAny_func ?_⟩
 have hLb : ¬base s.heap.objs.size:=G.fresh ok.gd sL
 have hWL : ¬W s.heap.objs.size:=λh=>by obtain⟨o,e⟩:=hWs _ h;rw[sL] at e;cases e
 let env:Env:=newEnv fd.scope s.heap.objs.size fd.globals [] (fd.qualname ++ ".<locals>.") (some a) fd.code none fd.builtins
 have hloc:env.locals=s.heap.objs.size:=rfl
 have XE:Za9 env:=⟨X.kd,X.gl,X.bu,X.k1,X.k2,X.k3,X.k4,X.k5,X.k6⟩
 have kit:env.kindOf "iter" = some .globalImplicit:=X.k7
 have kim:env.kindOf "_initial_missing" = some .globalImplicit:=X.k8
 let P':Addr->Prop:=λb=>P b∧b≠s.heap.objs.size
 have nl:∀{b o},s.heap.get? b=some o->b≠s.heap.objs.size:=λ{b o} e q=>by rw[q,sL] at e;cases e
 have up:∀a o,NT o->s.heap.get? a=some o->P a->P' a∧h₁.get? a=some o:=λa o _ e p=>⟨⟨p,nl e⟩,hk₁ a o e⟩
 have nh:∀b,h₁.get? b=none->s.heap.get? b=none:=λb e=>by
  cases q:s.heap.get? b with
  | none=>rfl
  | some o=>rw[hk₁ b o q] at e;cases e
 refine ZiW (env:=env) (s:={ s with heap:=h₁,toks:=s.toks+3 }) (P:=P') (W:=W) (P1:=P1) (href:=href) (im:=im) (sv:=sv) (iv:=iv) (l0:=l0) (ds:=ds) (d:=d) G XE kit kim X.mi X.mbs hst hfd hfn hWfa hfo
  (hsq.mono (λa o e p=>⟨p,nl e⟩) (λ_ p=>p.1) hk₁) hb hLb (hr0 _ sL) hWL (λp=>p.2 rfl) (λx hx=>⟨hPi x hx,λq=>by obtain⟨o,e⟩:=hPe x hx;rw[q,hr0 _ sL] at e;cases e⟩) hPW hPe (λb e=>hr0 b (nh b e)) ?_ hd ⟨L.hd,by have:=L.dp;show A.depth+1+n<=900;lia,by have:=L.un;show A.units+3+3 * n<=9000;lia⟩ o₁ ?_ (λb o n z e=>hk₁ b o (hk b o n z e)) hns ?_ ?_ ?_ (hv.mono up) hne λv' s' g' o' r'=>?_
 ·rintro I S rfl hit hS
  cases hit with
  | list hi hl hne hs hr=>exact .list hi hl hne ⟨hs,λq=>Zbz hns (q▸hl) rfl⟩ hr
  | range hi=>exact .range hi
 ·intro b nb
  by_cases p:P b
  ·have:b=s.heap.objs.size:=Classical.byContradiction λq=>nb ⟨p,q⟩
   subst this
   obtain⟨o,e,_,n⟩:=Mut.ns hns
   exact⟨o,n,e⟩
  ·obtain⟨o,n,e⟩:=hP b p
   exact⟨o,n,hk₁ _ _ e⟩
 ·rfl
 ·rfl
 ·rfl
 ·refine k v' s' ⟨λb o n z e=>g'.kp b o n (λq=>q.elim (λq=>nl e q) z) (hk₁ b o e),λb o z e=>g'.ex b o (λq=>q.elim (λq=>nl e q) z) (hk₁ b o e),g'.os,g'.gens⟩ o' (r'.mono λa o _ e p=>⟨p.1,e⟩)
end
end
section
section
variable {prog:Program}{w:World}{base:Addr->Prop}{mg mb:Str->Option Value}{Gd:Heap->Prop}{Γ:ZaC}{fn:Nat->Str}{fa:Nat->Addr}{n:Nat}
theorem ZuJ{nm0 qual y z:Str}{yp zp:Pos}{body:Expr}{scope:Scope}{cl:List (Str×Addr)}{pm cv ctv v u:Value}(h:y≠z):bindArgs (kla_fn nm0 qual ⟨[],[⟨y,none,yp⟩,⟨z,none,zp⟩],none,[],[],none,[]⟩ body scope cl pm cv ctv) ⟨[v,u],[]⟩=pure [(y,v),(z,u)]:=
 Zq4 (as:=[⟨y,none,yp⟩,⟨z,none,zp⟩]) rfl rfl rfl (List.nodup_cons.mpr ⟨λm=>h (List.mem_singleton.mp m),List.nodup_cons.mpr ⟨List.not_mem_nil,List.nodup_nil⟩⟩) rfl
theorem Zol(G:Gr base mg mb Gd)(C:Zak prog w Gd mg Γ fn fa n){x:X}{y z u nm0 qual:Str}{yp zp:Pos}{body:Expr}{scope:Scope}{c:Addr}{f cc:Addr}{oc:Obj}{vsc:Array Value}{tc:Tok}{pm ctv nv:Value}{dn:D}{href:Heap}{W P1:Addr->Prop}
  (hyz:y≠z) (hx:x.fz=true) (hm:mt [u,y,z] fn scope true x body=true) (hco:scope.isCoroutine=false) (hge:scope.isGenerator=false) (hkd:scope.kind=.function) (hnc:∀p∈scope.names,p.2≠.cell) (ky:scope.names.lookup y=some .local) (kz:scope.names.lookup z=some .local) (ku:scope.names.lookup u=some .free)
  (hfo:href.get? f=some { cls:=.type "function",data:=.func (kla_fn nm0 qual ⟨[],[⟨y,none,yp⟩,⟨z,none,zp⟩],none,[],[],none,[]⟩ body scope [(u,c)] pm (.ref cc) ctv) }) (hoc:href.get? cc=some oc) (hcc:oc.cls=.type "code") (hcd:oc.data=.fields vsc) (hcq:vsc[1]? = some (.str qual tc))
  (hcell:href.IsCell c (some nv)) (hnv:Rd P1 href nv dn) (hW : ¬W f∧¬W cc∧¬W c) (hPW:∀a,P1 a->¬W a):ZhG prog w Gd (.ref f) (n+1) href W P1 (λa b=>ev Γ [.fz dn,.fz a,.fz b] x):=by
 intro a b d hd A P s va vb E Q L ok hk hP hP1 ra rb k
 have ntf:NT ({ cls:=.type "function",data:=.func (kla_fn nm0 qual ⟨[],[⟨y,none,yp⟩,⟨z,none,zp⟩],none,[],[],none,[]⟩ body scope [(u,c)] pm (.ref cc) ctv) }:Obj):=.ZaD rfl
 have hf:=hk _ _ ntf hW.1 hfo
 have hcs:=hk _ _ (.ZaD hcc) hW.2.1 hoc
 have hcell':s.heap.IsCell c (some nv):=let ⟨o,e,hd⟩:=hcell;⟨o,hk _ _ (.ZgP hd) hW.2.2 e,hd⟩
 have hnv':Rd P s.heap nv dn:=hnv.mono λa o n e p=>⟨hP1 a p,hk a o n (hPW a p) e⟩
 refine wpAny_call (kla_callFunE (by have:=L.dp;have e:recursionLimit=1000:=rfl;lia) hf rfl hco hge rfl ⟨cc,oc,vsc,tc,rfl,hcs,hcd,hcq⟩ ?_)
 refine wpAny_of_eq (ZuJ hyz) ?_
 refine wpAny_newFunctionEnv hnc (λp hp=>?_) (λh₁ hns hsb=>?_) hkd
 ·simp only[List.mem_cons,List.not_mem_nil,or_false] at hp
  rcases hp with rfl | rfl
  ·exact ky
  ·exact kz
 have sL:=Zau s.heap
 have nl:∀{b o},s.heap.get? b=some o->b≠s.heap.objs.size:=λ{b o} e q=>by rw[q,sL] at e;cases e
 have hk₁:∀b o,s.heap.get? b=some o->h₁.get? b=some o:=λb o e=>hsb.extBut b o (nl e) (Heap.get?_push_of_some _ e)
 have g₁:Gw s { s with heap:=h₁,toks:=s.toks+2 }:=.of_keep hk₁
 have ok₁:Ok Gd { s with heap:=h₁,toks:=s.toks+2 }:=⟨G.keeps ok.gd hk₁,Nat.le_trans ok.tk (Nat.le_add_right _ _)⟩
 refine⟨G.lim _ ok₁.gd,kla_codeExpr ?_⟩
 let P':Addr->Prop:=λb=>P b∧b≠s.heap.objs.size
 have up:∀a o,NT o->s.heap.get? a=some o->P a->P' a∧h₁.get? a=some o:=λa o _ e p=>⟨⟨p,nl e⟩,hk₁ a o e⟩
 have hP':Pf P' h₁:=λb nb=>by
  by_cases p:P b
  ·have:b=s.heap.objs.size:=Classical.byContradiction λq=>nb ⟨p,q⟩
   subst this
   obtain⟨o,e,_,n⟩:=Mut.ns hns
   exact⟨o,n,e⟩
  ·obtain⟨o,n,e⟩:=hP b p
   exact⟨o,n,hk₁ _ _ e⟩
 have my:([(y,va),(z,vb)]:List (Str×Value)).reverse.lookup y=some va:=by simp[List.lookup,beq_eq_false_iff_ne.mpr hyz]
 have mz:([(y,va),(z,vb)]:List (Str×Value)).reverse.lookup z=some vb:=by simp[List.lookup]
 have e:ZaO (newEnv scope s.heap.objs.size mainGlobals [(u,c)] (qual ++ ".<locals>.") (some f) (.ref cc) none builtinsNs) scope [u,y,z] P' [.fz dn,.fz a,.fz b] h₁:=by
  have v0:Zb0 (newEnv scope s.heap.objs.size mainGlobals [(u,c)] (qual ++ ".<locals>.") (some f) (.ref cc) none builtinsNs) h₁ u nv:=.inr ⟨.inr ku,c,by simp[newEnv,List.lookup],let ⟨o,e,hd⟩:=hcell';⟨o,hk₁ _ _ e,hd⟩⟩
  have v1:Zb0 (newEnv scope s.heap.objs.size mainGlobals [(u,c)] (qual ++ ".<locals>.") (some f) (.ref cc) none builtinsNs) h₁ y va:=.inl ⟨ky,_,hns,my⟩
  have v2:Zb0 (newEnv scope s.heap.objs.size mainGlobals [(u,c)] (qual ++ ".<locals>.") (some f) (.ref cc) none builtinsNs) h₁ z vb:=.inl ⟨kz,_,hns,mz⟩
  refine⟨rfl,hkd,rfl,rfl,λn h=>absurd rfl (hnc _ (mem_lookup h)),λi d h=>?_,λi d h=>?_⟩
  ·match i,h with
   | 0,h=>cases h;exact⟨u,nv,rfl,v0,hnv'.mono up⟩
   | 1,h=>cases h;exact⟨y,va,rfl,v1,ra.mono up⟩
   | 2,h=>cases h;exact⟨z,vb,rfl,v2,rb.mono up⟩
   | i+3,h=>cases h
  ·match i,h with
   | 0,h=>cases h;exact⟨u,nv,rfl,v0,.of (hnv'.mono up)⟩
   | 1,h=>cases h;exact⟨y,va,rfl,v1,.of (ra.mono up)⟩
   | 2,h=>cases h;exact⟨z,vb,rfl,v2,.of (rb.mono up)⟩
   | i+3,h=>cases h
 refine(ZaI (base:=base) G C x).e scope true body _ _ _ P' _ _ _ d hm e ⟨L.hd,by have:=L.dp;show A.depth+1+n<=900;lia,by have:=L.un;show A.units+3+3 * n<=9000;lia⟩ ok₁ hP' hd λv s' g' o' r'=>?_
 exact k v s' (g₁.trans g') o' ((RdX.str hx r').mono λa o _ e p=>⟨p.1,e⟩)
end
end
section
section
variable {prog:Program}{w:World}{A:Around}{s:Shared}{P S:Addr->Prop}{base:Addr->Prop}{mg mb:Str->Option Value}{Gd:Heap->Prop}{Γ:ZaC}{fn:Nat->Str}{fa:Nat->Addr}{n:Nat}
theorem Zks{f:D->D->Option D}{d:D}{r:Option D}(h:ZeK f d=some r):∃a b z,d=.tuple [a,b]∧f a b=some z∧r=some z:=
 Zph (show Zrx (two λa b=>(f a b).map some) d=some r from h) λl h=>ZuT h λa b h=>ZdW h λz h e=>⟨a,b,z,rfl,h,e.symm⟩
set_option tactic.hygienic true in
theorem let_go{I T:Addr}{ds:List D}{elts:List Expr}{x1:Nat}{pos:Pos}{E:Value->Shared->Prop}{Q:Unit->Shared->Prop}(x:It P S s.heap I ds)(hQ:Q () s) :
  wpAny (model prog w) A (letOwnedTupleGo (.Tuple elts x1 pos) (.ref I) (.ref T)) Q E s:=by
 cases x with
 | list hi=>exact wpAny_letOwnedTupleGo_listiter hi hQ
 | range hi=>
  rename_i x n st
  unfold letOwnedTupleGo
  refine wpAny_bind (wpAny_load hi ?_)
  refine wpAny_ite_split (λh=>?_) λ_=>wpAny_pure hQ
  rw[show(["enumerate","zip","dict_itemiterator","dict_reverseitemiterator","odict_iterator","itertools.zip_longest","itertools.pairwise"].contains "range_iterator")=false from by decide,Bool.false_and] at h
  cases h
theorem Zkt(G:Gr base mg mb Gd)(hh:A.handled=none){R:Result->Shared->Prop}{elt iter:Expr}{x y:Str}{px py pt:Pos}{kk:Nat}{scope:Scope}{pos:Pos}{I Dd:Addr}{cenv:Env}{f:D->D->Option D}{total:List D}{N:Nat}{s₀:Shared}
  (hN:N<=sizeLine) (W:CA P S base s.heap cenv.locals I Dd) (hxy:x≠y) (hx:cenv.kindOf x=some .local) (hy:cenv.kindOf y=some .local) (hk:cenv.scope.kind=.function)
  (hb:∀a b va vb s₁ m₁ r E' (Qs:Value->Shared->Prop),f a b=some r->Ok Gd s₁->Pf P s₁.heap->s₁.heap.Ns cenv.locals m₁->m₁ x=some va->m₁ y=some vb->Rd P s₁.heap va a->Rd P s₁.heap vb b->
   (∀vy s₂,Gw s₁ s₂->Ok Gd s₂->Rd P s₂.heap vy r->Qs vy s₂)->wpAny (model prog w) A (eval elt cenv) Qs E' s₁)
  (hR:∀s'' (acc:List Value) m,Gw s s''->Ok Gd s''->s''.heap.PlainList Dd acc.toArray->Zad P s''.heap acc total->s''.heap.Ns cenv.locals m->R (.ok .next) s'')
  {k:Nat} (V:CJ P S Gd (ZeK f) total N cenv.locals I Dd s k s₀) :
  codeAny (model prog w) A (.compLoop (.ListComp elt [⟨.Tuple [.Name x px,.Name y py] kk pt,iter,[],0⟩] scope pos) 0 (.ref I) (.ref Dd) cenv) R s₀:=by
 refine kcp_loop (CJ P S Gd (ZeK f) total N cenv.locals I Dd s) (λk s₀ V=>?_) k V
 obtain⟨ds,ys,dn,acc,m,V,e0⟩:=V
 cases ds with
 | nil=>exact wrap V.o.tk (V.it.done hh λh' he htk=>let ⟨g,o,a,b,c⟩:=V.done G W he htk;hR _ acc m g o a b c)
 | cons d ds=>
  refine wrap V.o.tk (V.it.next W.pI λv h₁ tk₁ rv hit hs₁ htk=>?_)
  obtain⟨da,db,r,ed,hf',er⟩:=Zks (show ZeK f d=some _ from(bind_some V.hc).choose_spec.1)
  have rv:=rv.but W.pI hs₁.extBut
  rw[ed] at rv
  revert rv
  refine λrv=>rv.Zc1 λT vs pT hT rvs _=>?_
  revert hT
  refine rvs.Zd0 λva rs ra rr=>rr.Zd0 λvb rn rb rn=>?_
  erw[rwl (rn.nil_inv ..) ?_]
  refine λhT=>let_go hit (wrap (show 1<=tk₁ from htk) (kcp_assign hh hT.isTuple hx hy (by erw[rwl (hk ..) ?_];rfl) (V.ns.extBut hs₁.extBut (Ne.symm W.iC)) λh₂ tk₂ hn₂ hs₂ htk₂=>?_))
  obtain⟨r',zs,hr',V₂⟩:=V.turn (tk:=tk₂) G W hit hs₁.extBut hn₂ hs₂ htk₂
  rw[ed,show ZeK f (.tuple [da,db])=some (some r) from ZgR hf' rfl] at hr'
  rw[←Option.some.inj hr'] at V₂
  refine hb da db va vb _ _ r _ _ hf' V₂.o V₂.hP hn₂ ((if_neg hxy).trans (if_pos rfl)) (if_pos rfl) (ra.but W.pC hs₂) (rb.but W.pC hs₂) λvy s₃ g₃ o₃ ry=>?_
  exact(V₂.gw g₃ o₃).app G W hN ry λdn acc s₁ V₃=>⟨_,e0▸Nat.lt_succ_self _,ds,_,_,_,_,V₃,rfl⟩
theorem ZjZ(G:Gr base mg mb Gd)(C':Zak prog w Gd mg Γ fn fa n)(L:Lv A n){use:Option (Value->Sem Unit)}{E:Value->Shared->Prop}{Q:Value->Shared->Prop}{env:Env}{sc:Scope}{nm:List Str}{σ:Sg}{scope:Scope}{elt iter:Expr}{y z:Str}{py pz pt pos:Pos}{kk:Nat}{ex:X}{ds ys:List D}
  (x:ZaO env sc nm P σ s.heap) (hP:Pf P s.heap) (ok:ZbR sc nm [] scope=true) (hyz:y≠z) (hy:scope.names.lookup y=some .local) (hz:scope.names.lookup z=some .local) (hset:∀v,foldedSetIterable iter env v=pure v) (hlen:ds.length<=sizeLine)
  (hsrc:∀Q':Value->Shared->Prop,(∀I s₁ S,Gw s s₁->Ok Gd s₁->It (λa=>P a∧a≠I) S s₁.heap I ds->s.heap.get? I=none->¬base I->(∀b,S b->∃ob,s₁.heap.get? b=some ob)->Q' (.ref I) s₁)->
   wpAny (model prog w) A (eval iter env) (λxv s₁=>wpAny (model prog w) A (pyIter xv) Q' E s₁) E s)
  (hm:mt [y,z] fn (ZkJ sc scope) false ex elt=true) (hfz:ex.fz=true)
  (hc:ZbX (ZeK λa b=>ev Γ [.fz a,.fz b] ex) ds=some ys)
  (hU:∀Dd C s' m,Gw s s'->Ok Gd s'->Rd (λa=>P a∧a≠C) s'.heap (.ref Dd) (.list ys)->s.heap.get? Dd=none->s.heap.get? C=none->Dd≠C->¬base C->s'.heap.Ns C m->compPost (model prog w) A E use Q (.ref Dd) C (.ok .next) s') :
  wpAny (model prog w) A (comprehension (.ListComp elt [⟨.Tuple [.Name y py,.Name z pz] kk pt,iter,[],0⟩] scope pos) scope env (firstIterPos [⟨.Tuple [.Name y py,.Name z pz] kk pt,iter,[],0⟩] pos) (newList []) false (eval iter env) use) Q E s:=by
 have sk:=ZaU ok
 refine Zf9 G x hP ok hset hlen hsrc hc hU λP₁ S I Dd C s₁ R W x₁ V hR=>
  Zkt (cenv:=compEnvC scope (Zb8 env.cells scope.names []) C env) G L.hd hlen W hyz (lookup_relabel_local hy) (lookup_relabel_local hz) sk.2.2.2.1 (λa b va vb s₂ m₁ r E' Qs hf o₂ hP₂ hn₂ hma hmb ra rb k'=>?_) hR V
 refine(ZaI (base:=base) G C' ex).e (ZkJ sc scope) false elt _ [.fz a,.fz b] _ P₁ _ _ _ r hm ⟨ZbP x.scp,sk.2.2.2.1,x.gl,x.bi,λn hn=>?_,λi d e=>?_,λi d e=>?_⟩ L o₂ hP₂ hf λv s' g' o' r'=>k' v s' g' o' (RdX.str hfz r')
 ·obtain⟨h1,h2⟩:=Zfb sk.1 hn
  obtain⟨c,hc⟩:=x.cells n h2
  exact⟨c,(Zbj hc scope.names [] (λ_ e=>nn e)).2 (.inl h1)⟩
 ·match i,e with
  | 0,e=>exact⟨y,va,rfl,.inl ⟨lookup_relabel_local hy,m₁,hn₂,hma⟩,Option.some.inj e▸ra⟩
  | 1,e=>exact⟨z,vb,rfl,.inl ⟨lookup_relabel_local hz,m₁,hn₂,hmb⟩,Option.some.inj e▸rb⟩
  | i+2,e=>exact nn e
 ·match i,e with
  | 0,e=>exact⟨y,va,rfl,.inl ⟨lookup_relabel_local hy,m₁,hn₂,hma⟩,Option.some.inj e▸.of ra⟩
  | 1,e=>exact⟨z,vb,rfl,.inl ⟨lookup_relabel_local hz,m₁,hn₂,hmb⟩,Option.some.inj e▸.of rb⟩
  | i+2,e=>exact nn e
end
end
section
noncomputable abbrev Zcy(Gd:Heap->Prop)(dm:Addr):Prop:=(∀h,Gd h->∃f:Int->Option Value,h.IntMap dm f∧∀c:Nat,(c∈specials->∃t,f c=some (.str ⟨[92,c].toArray⟩ t))∧(c ∉ specials->f c=none))∧((dm==sysModules)=false)∧(∀h,Gd h->∀o,h.get? dm=some o->o.dict=none∧o.slots = #[])
theorem Zcy.mp{Gd:Heap->Prop}{dm:Addr}(slf:Zcy Gd dm):∀h,Gd h->∃f:Int->Option Value,h.IntMap dm f∧∀c:Nat,(c∈specials->∃t,f c=some (.str ⟨[92,c].toArray⟩ t))∧(c ∉ specials->f c=none):=slf.1
theorem Zcy.ns{Gd:Heap->Prop}{dm:Addr}(slf:Zcy Gd dm):(dm==sysModules)=false:=slf.2.1
theorem Zcy.nd{Gd:Heap->Prop}{dm:Addr}(slf:Zcy Gd dm):∀h,Gd h->∀o,h.get? dm=some o->o.dict=none∧o.slots = #[]:=slf.2.2
section
variable {prog:Program}{w:World}{base:Addr->Prop}{mg mb:Str->Option Value}{Gd:Heap->Prop}{A:Around}{E:Value->Shared->Prop}{s:Shared}{n:Nat}
open PySem.Builtin.Str in
theorem Zt8{dm:Addr}(T:Zcy Gd dm){c:Nat}{Q:Mapped->Shared->Prop}(ok:Ok Gd s)(hc:c∈specials)(k:Q (.text ⟨[92,c].toArray⟩) { s with toks:=s.toks+1+1 }):wpAny (model prog w) A (tableLookup (.ref dm) c) Q E s:=by
 obtain⟨f,hm,hf⟩:=T.mp _ ok.gd
 obtain⟨t,ht⟩:=(hf c).1 hc
 unfold tableLookup
 refine wpAny_bind (wpAny_attempt (wpAny_bind (wpAny_mkInt ?_)))
 exact wpAny_getItem_intMap (s:={ s with toks:=s.toks+1 }) hm ht (wpAny_bind (wpAny_of_eq (a:=none) rfl (wpAny_bind (wpAny_of_eq (a:=some ⟨[92,c].toArray⟩) rfl (wpAny_pure k)))))
open PySem.Builtin.Str in
theorem ZsB{dm:Addr}(T:Zcy Gd dm){c:Nat}{Q:Mapped->Shared->Prop}(hh:A.handled=none)(ok:Ok Gd s)(hc:c ∉ specials)
  (k:∀h',(∀b o,s.heap.get? b=some o->h'.get? b=some o)->Q .keep { s with heap:=h',toks:=s.toks+1+1 }):wpAny (model prog w) A (tableLookup (.ref dm) c) Q E s:=by
 obtain⟨f,hm,hf⟩:=T.mp _ ok.gd
 unfold tableLookup
 refine wpAny_bind (wpAny_attempt (wpAny_bind (wpAny_mkInt ?_)))
 refine wpAny_getItem_missing_of (knd:=intKind prog w) (k:=(c:Int)) (f:=f) (s:={ s with toks:=s.toks+1 }) (intKind_is _ _ _ _) T.ns hh (hm.mapOf (T.nd _ ok.gd)) ((hf c).2 hc) λh' e hE=>?_
 obtain⟨h1,h2,ob,t,h3,h4,_⟩:=hE
 refine wpAny_bind (wpAny_isInstance (T := "KeyError") (b:=true) ⟨ob,h3,h4⟩ (by erw[rwl (isSubtype_type ..) ?_];kernel_rfl) ?_)
 erw[rwl (if_pos rfl ..) ?_]
 exact wpAny_bind (wpAny_rule (wpAny_pure (k h' h1)))
theorem ZvL{β:Type}{c:Nat}{b:β}{f:Nat->β->Sem (ForInStep β)}:(forIn (#[c]:Array Nat) b f:Sem β)=f c b >>= λr=>match r with | .done b=>pure b | .yield b=>pure b:=rfl
theorem Zis(G:Gr base mg mb Gd){dm:Addr}(T:Zcy Gd dm){c:Nat}{t:Tok}{Q:Value->Shared->Prop}(L:Lv A n)(ok:Ok Gd s)
  (k:∀u s',Gw s s'->Ok Gd s'->Q (.str ⟨(Zff c).toArray⟩ u) s'):wpAny (model prog w) A (call (.builtin "str.translate") [.str ⟨[c].toArray⟩ t,.ref dm]) Q E s:=by
 refine wpAny_call (codeAny_call_builtin PySem.F.slot_str_translate.plain PySem.F.entry_str_translate (PySem.F.slot_str_translate.check _ _ _ _ _ _ _ _ rfl (PySem.F.args_str_translate_2 _ _) ?_))
 unfold Builtin.«str.translate»
 refine wpAny_bind (wpAny_of_eq (a:=(.str ⟨[c].toArray⟩ t,⟨[c].toArray⟩,.ref dm)) rfl (wpAny_ite_split (λh=>by exact nf h) λ_=>?_))
 have tk:∀m,1<=s.toks+m:=λm=>Nat.le_trans ok.tk (Nat.le_add_right _ _)
 refine wpAny_bind (wpAny_mono (Q:=λb s'=>Gw s s'∧Ok Gd s'∧b.1=[⟨(Zff c).toArray⟩]∧b.2.1<=2) ?_ (λb s₁ h=>?_) λ_ _ e=>e)
 ·change wpAny _ _ (forIn (m:=Sem) #[c] _ _) _ _ _
  rw[ZvL]
  refine wpAny_bind (wpAny_ite_split (λh=>by exact nf h) λ_=>?_)
  by_cases hc:c∈specials
  ·have ee:[(⟨(Zff c).toArray⟩:Str)]=[⟨[92,c].toArray⟩]:=by rw[Zff,if_pos hc]
   rw[ee]
   refine wpAny_ite_split (λhf=>wpAny_bind (Zt8 T ok hc ?_)) λhf=>wpAny_ite_split (λh=>by exact nf h) λ_=>wpAny_bind (Zt8 T ok hc (wpAny_pure (wpAny_pure ⟨.tok ..,⟨ok.gd,tk 2⟩,rfl,Nat.le_refl _⟩)))
   refine wpAny_bind (wpAny_pure ?_)
   refine wpAny_bind (wpAny_rule ?_)
   refine wpAny_bind (Zt8 T (s:={ s with toks:=s.toks+1+1 }) ⟨ok.gd,tk 2⟩ hc ?_)
   exact wpAny_pure (wpAny_pure ⟨.tok ..,⟨ok.gd,tk 4⟩,rfl,Nat.le_refl _⟩)
  ·have ee:[(⟨(Zff c).toArray⟩:Str)]=[⟨[c].toArray⟩]:=by rw[Zff,if_neg hc]
   rw[ee]
   refine wpAny_ite_split (λhf=>wpAny_bind (ZsB T L.hd ok hc λh' h1=>?_)) λhf=>wpAny_ite_split (λh=>by exact nf h) λ_=>wpAny_bind (ZsB T L.hd ok hc λh' h1=>wpAny_pure (wpAny_pure ⟨.of_keep h1,⟨G.keeps ok.gd h1,tk 2⟩,rfl,Nat.le_succ _⟩))
   exact wpAny_bind (wpAny_pure (wpAny_pure (wpAny_pure ⟨.of_keep h1,⟨G.keeps ok.gd h1,tk 2⟩,rfl,Nat.le_succ _⟩)))
 ·obtain⟨g₁,o₁,h1,h2⟩:=h
  refine wpAny_ite_split (λh=>absurd (of_decide_eq_true h) (Nat.not_lt.mpr (Nat.le_trans h2 (Nat.le_of_ble_eq_true rfl)))) λ_=>?_
  rw[h1]
  refine wpAny_bind (wpAny_mkStr ?_ ?_)
  ·rw[show(⟨([⟨(Zff c).toArray⟩]:List Str).reverse.foldl (λacc p=>acc++p.cps) #[]⟩:Str)=⟨(Zff c).toArray⟩ from congrArg Str.mk Array.empty_append]
   exact wpAny_pure (k _ _ (g₁.trans (.tok ..)) ⟨o₁.gd,Nat.le_succ_of_le o₁.tk⟩)
  ·rw[show(⟨([⟨(Zff c).toArray⟩]:List Str).reverse.foldl (λacc p=>acc++p.cps) #[]⟩:Str)=⟨(Zff c).toArray⟩ from congrArg Str.mk Array.empty_append,str_len,Zff]
   by_cases hc:c∈specials
   ·rw[if_pos hc];exact Nat.le_of_ble_eq_true rfl
   ·rw[if_neg hc];exact Nat.le_of_ble_eq_true rfl
end
end
section
section
variable {prog:Program}{w:World}{base:Addr->Prop}{mg mb:Str->Option Value}{Gd:Heap->Prop}{A:Around}{E:Value->Shared->Prop}{s:Shared}{n:Nat}
set_option tactic.hygienic true in
theorem ZsJ(G:Gr base mg mb Gd){dm:Addr}(T:Zcy Gd dm)(hdm:mg "_special_chars_map" = some (.ref dm)){fd:FuncData}{o:Obj}{a:Addr}{q1 q2 q3 q4 q5 q6 q7 q8 q9 q10:Pos}{elseS:List Stmt}
  (Df:Zbi Gd fd o a [.If (.Call (.Name "isinstance" q1) [.Name "pattern" q2,.Name "str" q3] [] q4) [.Return (some (.Call (.Attribute (.Name "pattern" q5) "translate" q6) [.Name "_special_chars_map" q7] [] q8)) q9] elseS q10] ["pattern"])
  (hln:(q6.endLine==q8.line)=true) {sc:Scope} (hsc:fd.scope=sc) (k1:Zcz sc "isinstance" = true) (k2:Zcz sc "str" = true) (k3:Zcz sc "_special_chars_map" = true):Zan prog w Gd a (n+1) ZjU:=by
 subst hsc
 intro ds d hd A P s vs R L ok hP hr k
 unfold ZjU at hd
 split at hd
 ·rename_i c
  cases hd
  refine Zcj (nm:=["pattern"]) G Df ⟨[],rfl⟩ (by decide) rfl L ok.gd (.inl ok.tk) hP hr λA' F ad s₁ E e1 e2 e3 e4 e5 e6 H L' f _=>?_
  have Gf:Gr F.base mg mb F.Gd:=by rw[e1,e2];exact G
  have Tf:Zcy F.Gd dm:=by rw[e2];exact T
  obtain⟨y,v,hy,hv,hrv⟩:=(f.ZcE H).vars 0 (.str [c]) (by simp[Ze3];rfl)
  rw[e4] at hy
  cases hy
  obtain⟨hl,t,rfl⟩:=hrv.str_inv
  have x:=f.ZcE H
  rw[e3] at x
  refine wpAny_execs_cons (wpAny_If ?_)
  refine wpAny_isTrue_value (wpAny_Call_NameR (ZcZ Gf f.ok.gd x k1 (v:=.builtin "isinstance") (by simp) (by decide) ?_)) rfl
  rw[Zab (show Zai (.Name "pattern" q2)=true from rfl),Zab (show Zai (.Name "str" q3)=true from rfl),Zam,Zah,Zah,Zay]
  refine Calls.callWith_builtin rfl (Calls.evalArgs_plain (Calls.spliced_cons (Zcn (by rw[H.scp];exact H.kf) hv (by decide) (by decide) (Calls.spliced_cons (ZcZ Gf f.ok.gd x k2 (v:=.type "str") (by simp) (by decide) (Calls.spliced_nil ?_))))))
  refine PySem.IsiPair.str_str ?_
  refine wpAny_truthy_bool ?_
  refine wpAny_execs_cons (wpAny_Return_some (wpAny_Call_method (T := "str") (id := "str.translate") (ZaQ rfl) rfl hln PySem.F.plainAttrs_str PySem.F.slot_str_translate PySem.F.type_str_translate
   (Zcn (by rw[H.scp];exact H.kf) hv (by decide) (by decide) ⟨rfl,Zbw,?_⟩)))
  rw[Zab (show Zai (.Name "_special_chars_map" q7)=true from rfl),Zam,Zah,Zay]
  refine Calls.callWith_builtin rfl (Calls.evalArgs_plain (Calls.spliced_cons (ZcR Gf f.ok.gd x k3 hdm (by decide) (Calls.spliced_nil ?_))))
  refine Zis Gf Tf L' f.ok λu s' g' o'=>?_
  have g:=f.gw.trans g'
  rw[e6] at g
  rw[e2] at o'
  exact k _ _ g o' (.str _ _ (by rw[szv,Zff];split<;>simp))
 ·cases hd
end
end
section
set_option maxRecDepth 100000
theorem mro_object:mroOf (.type "object")=pure [.type "object"]:=by erw[rwl (mroOf_type ..) ?_];kernel_rfl
theorem ZgB:PySem.Slot "object" "__init__" "object.__init__" :=
 .of (owner := "object") (n := "__init__") (by erw[rwl (typeLookup_type ..) (rwl (builtinLookup_eq_fast ..) ?_)];kernel_rfl) (by decide +kernel) (by decide +kernel) (by decide +kernel)
  (by first | exact .inl (by decide +kernel) | exact .inr (by decide +kernel)) (by erw[rwl (isSubtype_type ..) ?_];kernel_rfl)
theorem ZfH:typeLookup (.type "object") "__new__" = pure (some (.builtin "object.__new__")):=by erw[rwl (typeLookup_type ..) (rwl (builtinLookup_eq_fast ..) ?_)];kernel_rfl
theorem Zko:TypeCalled "object" "object.__new__" "object.__init__" :=
 ⟨by decide +kernel,by decide +kernel,⟨_,_,mro_object⟩,madeBy_type mro_object ZfH (by decide +kernel),by decide +kernel,by erw[rwl (isSubtype_type ..) ?_];kernel_rfl,ZgB⟩
theorem ZsE:checkTypeCall "object" ⟨[],[]⟩=pure ():=by kernel_rfl
theorem ZrN:checkBuiltinCall "object.__new__" ⟨[.type "object"],[]⟩=pure ():=by kernel_rfl
theorem Zgp(v:Value):argsOk "object.__init__" ⟨[v],[]⟩:=by unfold argsOk;kernel_rfl
theorem ZnI:Bind.madeHere "object.__new__" (.type "object")=pure ():=by kernel_rfl
theorem Zkl:(Manifest.find? "object").elim false (λt=>t.mro.any λt=>(Manifest.find? t).elim false (·.noNew))=false:=by decide +kernel
theorem Zoo:typeHasDict (.type "object")=false:=by decide +kernel
theorem Zp9:diesByItsTypesDel "object" = false:=by decide +kernel
theorem ZgK:Meets (Builtin.«object.__new__» ⟨[.type "object"],[]⟩) (λ_ R s=>R (.ok (.ret (.ref s.heap.objs.size))) { s with heap:=s.heap.push { cls:=.type "object" } }):=by
 refine Meets.of_wp λprog w A R s hs=>?_
 unfold Builtin.«object.__new__»
 dsimp only
 refine wpAny_bind (wpAny_of_eq (a:=true) rfl ?_)
 refine wpAny_ite_split (λh=>by cases h) λ_=>?_
 refine wpAny_ite_split (λh=>absurd h (by erw[rwl (Zkl ..) ?_];decide)) λ_=>?_
 refine wpAny_bind (wpAny_of_eq ZnI ?_)
 refine wpAny_ite_split (λh=>by cases h) λ_=>?_
 refine wpAny_ite_split (λh=>absurd h (by erw[rwl (Zoo ..) ?_];decide)) λ_=>?_
 refine wpAny_bind (wpAny_pure ?_)
 refine wpAny_bind (wpAny_newObj_type ?_)
 refine wpAny_ite_split (λh=>absurd h (by erw[rwl (Zp9 ..) ?_];decide)) λ_=>?_
 exact wpAny_pure ⟨_,rfl,hs⟩
theorem ZfJ(v:Value):Meets (Builtin.«object.__init__» ⟨[v],[]⟩) (λ_ R s=>R (.ok (.ret .none)) s):=by
 refine Meets.of_wp λprog w A R s hs=>?_
 exact wpAny_pure ⟨_,rfl,hs⟩
theorem Zix{prog:Program}{w:World}{A:Around}{E Q:Value->Shared->Prop}{s:Shared}(k:Q (.ref s.heap.objs.size) { s with heap:=s.heap.push { cls:=.type "object" } }):wpAny (model prog w) A (call (.type "object") []) Q E s:=by
 refine callType_meets (Q₁:=λv s₁=>s₁.TypeIs v "object" ∧ Q v s₁) Zko ZsE ZrN F.entry_object_new F.entry_object_init ZgK ?_ λobj s₁ h=>⟨h.1,Zgp _,_,ZfJ _,rfl,h.2⟩
 exact⟨⟨_,Heap.get?_push_size _ rfl,rfl⟩,k⟩
end
section
section
variable {prog:Program}{w:World}{base:Addr->Prop}{mg mb:Str->Option Value}{Gd:Heap->Prop}{Γ:ZaC}{fn:Nat->Str}{fa:Nat->Addr}{n N:Nat}{A:Around}{s:Shared}
theorem Zt9(G:Gr base mg mb Gd)(C:Zak prog w Gd mg Γ fn fa n){fd:FuncData}{o:Obj}{a:Addr}{q1 q2 q3 q4:Pos}{rest:List Stmt}{st:S}{sem:List D->Option D}{p0:Str}{nms:List Str}
  (Df:Zbi Gd fd o a (.Assign [.Name "STAR" q1] (.Call (.Name "object" q2) [] [] q3) q4::rest) [p0]) (hnd:(p0 :: "STAR" :: nms).Nodup) {sc:Scope} (hsc:fd.scope=sc) (k1:Zcz sc "object" = true) (ks:sc.names.lookup ("STAR" : Str)=some .local)
  (hm:ms (p0 :: "STAR" :: nms) fn sc st rest=true) (hst:st.Zcw []=true)
  (hsem:∀ds d,sem ds=some d->∃x,ds=[x]∧∀g:Addr,∃σ',ex Γ N st ((Ze3 (nms.length+2) [x]).set 1 (.fz (.obj g)))=some (.ret d,σ')):Zan prog w Gd a (n+1) sem:=by
 subst hsc
 intro ds d hd A P s vs R L ok hP hr k
 obtain⟨x,rfl,hx⟩:=hsem ds d hd
 refine Zcj (nm:=p0 :: "STAR" :: nms) G Df ⟨"STAR" :: nms,rfl⟩ hnd rfl L ok.gd (.inl ok.tk) hP hr λA' F ad s₁ E e1 e2 e3 e4 e5 e6 H L' f _=>?_
 have Gf:Gr F.base mg mb F.Gd:=by erw[rwl (e1 ..) (rwl (e2 ..) ?_)];exact G
 have Cf:Zak prog w F.Gd mg Γ fn fa n:=by erw[rwl (e2 ..) ?_];exact C
 have xx:=f.ZcE H
 rw[e3] at xx
 refine wpAny_execs_cons (wpAny_Assign_Name (wpAny_Call_NameR (ZcZ Gf f.ok.gd xx k1 (v:=.type "object") (by simp) (by decide) ?_)) rfl)
 erw[rwl (Zam ..) (rwl (Zay ..) ?_)]
 refine PySem.callWith_type rfl (wpAny_of_eq (a:=⟨[],[]⟩) rfl ?_)
 refine Zix ?_
 have sg:=Zau s₁.heap
 have kk:∀b ob,s₁.heap.get? b=some ob->(s₁.heap.push { cls:=.type "object" }).get? b=some ob:=λ_ _ e=>Heap.get?_push_of_some _ e
 have g₁:Gw s₁ { s₁ with heap:=s₁.heap.push { cls:=.type "object" } }:=.of_keep (tk:=s₁.toks) kk
 have f₁:=f.grow g₁ ⟨G.keeps (e2▸f.ok.gd) kk |> λh=>by erw[rwl (e2 ..) ?_];exact h,f.ok.tk⟩
 have hg:(s₁.heap.push { cls:=.type "object" }).get? s₁.heap.objs.size=some { cls:=.type "object" }:=Heap.get?_push_size _ rfl
 generalize s₁.heap.objs.size=g at *
 refine f₁.Zc0 (i:=1) (y := "STAR") (d:=.obj g) Gf H (by erw[rwl (e4 ..) ?_];rfl) (by erw[rwl (e3 ..) ?_];exact .inl ks) (.obj ((f.pf H).fresh sg) hg (.ZaD rfl)) λs₂ f₂ t₂=>?_
 obtain⟨σ',hex⟩:=hx g
 refine(Zju (xs:=[]) (N:=N) Gf H Cf (λ_ _ _ _ _ _ _ h=>nomatch h) (λ_ _ _ _ h=>nomatch h) st hst).2 rest _ ad _ A' s₂ E _ _ σ' (by erw[rwl (e3 ..) (rwl (e4 ..) ?_)];exact hm) L' f₂ hex λv s' g' o' r'=>?_
 rw[e6] at g'
 rw[e2] at o'
 rw[e5] at r'
 exact k v s' g' o' r'
end
end
section
noncomputable abbrev ZeB(Gd:Heap->Prop)(c P:Addr)(xs:List (Pos×Str))(mg:Str->Option Value):Prop:=(∀h,Gd h->Za5 c P xs h)∧(∀h h',Gd h->Kp h h'->(∀b o,b≠P->h.get? b=some o->h'.get? b=some o)->Za5 c P xs h'->Gd h')∧(mainGlobals≠P)∧(∀h,Gd h->h.BuiltinsAt mg P)∧(∀pq∈xs,∀pq'∈xs,pq.1.line=pq'.1.line->pq.1.col=pq'.1.col->pq.2=pq'.2)
theorem ZeB.tab{Gd:Heap->Prop}{c P:Addr}{xs:List (Pos×Str)}{mg:Str->Option Value}(slf:ZeB Gd c P xs mg):∀h,Gd h->Za5 c P xs h:=slf.1
theorem ZeB.set{Gd:Heap->Prop}{c P:Addr}{xs:List (Pos×Str)}{mg:Str->Option Value}(slf:ZeB Gd c P xs mg):∀h h',Gd h->Kp h h'->(∀b o,b≠P->h.get? b=some o->h'.get? b=some o)->Za5 c P xs h'->Gd h':=slf.2.1
theorem ZeB.nP{Gd:Heap->Prop}{c P:Addr}{xs:List (Pos×Str)}{mg:Str->Option Value}(slf:ZeB Gd c P xs mg):mainGlobals≠P:=slf.2.2.1
theorem ZeB.bi{Gd:Heap->Prop}{c P:Addr}{xs:List (Pos×Str)}{mg:Str->Option Value}(slf:ZeB Gd c P xs mg):∀h,Gd h->h.BuiltinsAt mg P:=slf.2.2.2.1
theorem ZeB.hu{Gd:Heap->Prop}{c P:Addr}{xs:List (Pos×Str)}{mg:Str->Option Value}(slf:ZeB Gd c P xs mg):∀pq∈xs,∀pq'∈xs,pq.1.line=pq'.1.line->pq.1.col=pq'.1.col->pq.2=pq'.2:=slf.2.2.2.2
section
variable {prog:Program}{w:World}{base:Addr->Prop}{mg mb:Str->Option Value}{Gd:Heap->Prop}{Γ:ZaC}{fn:Nat->Str}{fa:Nat->Addr}{n N:Nat}
theorem ZeB.odd{F:Fp}{c P:Addr}{xs:List (Pos×Str)}(x:ZeB Gd c P xs mg)(e:F.Gd=Gd)(hc:F.env.code=.ref c):Odd F c P xs mg:=by
 subst e
 exact⟨hc,x.tab,x.set,x.nP,x.bi,x.hu⟩
set_option tactic.hygienic true in
theorem Zpt(G:Gr base mg mb Gd)(C:Zak prog w Gd mg Γ fn fa n){c P:Addr}{xs:List (Pos×Str)}(O:ZeB Gd c P xs mg)(hn:6<=n){fd:FuncData}{o:Obj}{a:Addr}{body:List Stmt}{ps nm:List Str}{st:S}(Df:Zbi Gd fd o a body ps)(hc:fd.code=.ref c){ys:List (Nat×Nat×Bool)}
  (hqT:∀gl gc,(gl,gc,true)∈ys->∃pq∈xs,pq.1.line=gl∧pq.1.col=gc∧pq.2=(fd.qualname ++ ".<locals>.")++("<genexpr>" : Str)) (hqF:∀gl gc,(gl,gc,false)∈ys->∃pq∈xs,pq.1.line=gl∧pq.1.col=gc∧pq.2=(fd.qualname ++ ".<locals>.")++("<lambda>" : Str))
  {pa:Addr} (hpg:mg ("_twin_re_1" : Str)=some (.ref pa)) (hpa:∀h,Gd h->Zeh h pa∧∃o,h.get? pa=some o∧o.dict=none)
  {sc:Scope} (hsc:fd.scope=sc) (hnm:∃rest,nm=ps++rest) (hnd:nm.Nodup)
  (hm:ms nm fn sc st body=true) (hst:st.Zcw ys=true):Zan prog w Gd a (n+1) (run Γ N ps.length nm.length st):=by
 subst hsc
 intro ds d hd A P' s vs R L ok hP hr k
 unfold run at hd
 split at hd
 ·rename_i hl
  split at hd
  ·rename_i d' σ' hx
   cases hd
   refine Zcj G Df hnm hnd hl L ok.gd (.inl ok.tk) hP hr λA' F ad s₁ E e1 e2 e3 e4 e5 e6 H L' f hcq=>?_
   have Gf:Gr F.base mg mb F.Gd:=by erw[rwl (e1 ..) (rwl (e2 ..) ?_)];exact G
   have Cf:Zak prog w F.Gd mg Γ fn fa n:=by erw[rwl (e2 ..) ?_];exact C
   have Of:Odd F c P xs mg:=O.odd e2 (hcq.1.trans hc)
   have hpa':∀h,F.Gd h->Zeh h pa∧∃o,h.get? pa=some o∧o.dict=none:=by erw[rwl (e2 ..) ?_];exact hpa
   refine(Zju (xs:=ys) Gf H Cf (λi sep t e it gl gc hg=>Zqn Gf H Of (by lia) (ys:=ys) (λgl gc h=>by erw[rwl (hcq.2 ..) ?_];exact hqT gl gc h) hg) (λi x gl gc hg=>Zrg Gf H (ZaI Gf Cf x) Of hn (ys:=ys) (λgl gc h=>by erw[rwl (hcq.2 ..) ?_];exact hqF gl gc h) hpg hpa' hg) st hst).2 body _ ad _ A' s₁ E _ _ σ' (by erw[rwl (e3 ..) (rwl (e4 ..) ?_)];exact hm) L' f hx λv s' g' o' r'=>?_
   rw[e6] at g'
   rw[e2] at o'
   rw[e5] at r'
   exact k v s' g' o' r'
  ·cases hd
 ·cases hd
end
end
section
set_option backward.match.sparseCases false
section
variable {prog:Program}{w:World}{F:Fp}{K:Addr->Prop}{ad:Nat->Bool->Addr}{σ:Sg}{s s':Shared}{mg mb:Str->Option Value}{Γ:ZaC}{fn:Nat->Str}{fa:Nat->Addr}{n N:Nat}{A:Around}
theorem ZrR(G:Gr F.base mg mb F.Gd)(H:Fs F)(C:Zak prog w F.Gd mg Γ fn fa n){tail:List Stmt}(st:S):∀(es:List Stmt) (K:Addr->Prop) (ad:Nat->Bool->Addr) (σ:Sg) (s:Shared) (E:Value->Shared->Prop) (Q:Flow->Shared->Prop) (fl:Fl) (σ':Sg),st.Zcw []=true->
  ms F.nm fn F.sc st es=true->Lv A n->Fm F K ad σ s->ex Γ N st σ=some (fl,σ')->ZoH F K ad σ s fl σ' (λf s'=>match f with | .next=>wpAny (model prog w) A (execs tail F.env) Q E s' | f=>Q f s')->wpAny (model prog w) A (execs (es++tail) F.env) Q E s:=by
 induction st with
 | skip=>
  intro es K ad σ s E Q fl σ' _ hm L f hv k
  revert k
  exact ZbI hv λk=>ZcD (show es.isEmpty=true from hm) (k ad s f (.refl _ _))
 | seq a b _ ihb=>
  intro es K ad σ s E Q fl σ' hst hm L f hv k
  have hst:=show(a.Zcw []&&b.Zcw [])=true from hst
  refine Zac (show(ex Γ N a σ).bind _=_ from hv) λr h1 hv=>?_
  obtain⟨f1,σ1⟩:=r
  refine Zry (show bc _ es=true from hm) λe r hm=>Zbg hm λm1 m2=>wpAny_execs_cons ((Zju (xs:=[]) G H C (λ_ _ _ _ _ _ _ h=>nomatch h) (λ_ _ _ _ h=>nomatch h) a (Zbu hst)).1 _ K ad σ A s E _ f1 σ1 m1 L f h1 ?_)
  revert k
  cases f1 with
  | next=>exact λk ad₁ s₁ f₁ t=>ihb _ K ad₁ σ1 s₁ E Q fl σ' (Za6 hst) m2 L f₁ hv (k.stp t)
  | brk=>exact ZbI hv λk=>k
  | ret d=>exact ZbI hv λk=>k
 | _=>
  intro es K ad σ s E Q fl σ' _ hm
  exact nf hm
theorem Fm.Zv1(H:Fs F)(x:Fm F K ad σ s){I:Addr}(hI:K I)(g:KpB (λb=>b=I) s.heap s'.heap):ZaO F.env F.sc F.nm (λa=>Pq F K ad σ a∨a=I) σ s'.heap:=by
 have hk:=x.kx I hI
 have hv:∀n v,Zb0 F.env s.heap n v->Zb0 F.env s'.heap n v:=λn v h=>by
  rcases h with⟨h1,m,h2,h3⟩ | ⟨h1,c,h2,h3⟩
  ·obtain⟨o,es,ep,e,hd,r⟩:=h2
   exact .inl ⟨h1,m,⟨o,es,ep,g _ _ (.Zeo hd) (λq=>hk.1 q.symm) e,hd,r⟩,h3⟩
  ·obtain⟨o,e,hd⟩:=h3
   exact .inr ⟨h1,c,h2,o,g _ _ (.ZgP hd) (λq=>hk.2.1 n c h2 q.symm) e,hd⟩
 have up:∀a o,NT o->s.heap.get? a=some o->Pq F K ad σ a->(Pq F K ad σ a∨a=I)∧s'.heap.get? a=some o:=λa o n e p=>⟨.inl p,g a o n (λq=>p.2.2 (q▸hI)) e⟩
 have e:=x.ZcE H
 refine⟨e.scp,e.kf,e.gl,e.bi,e.cells,λi d h=>?_,λi d h=>?_⟩
 ·obtain⟨n,v,h1,h2,h3⟩:=e.vars i d h
  exact⟨n,v,h1,hv n v h2,h3.mono up⟩
 ·unfold rdt at h
  revert h
  cases he:σ[i]? with
  | none=>exact λh=>nn h
  | some sl=>
   cases sl with
   | fz d'=>
    refine λh=>eqs h ?_
    obtain⟨n,v,h1,h2,h3⟩:=x.vs i _ he Slot.noConfusion
    exact⟨n,v,h1,hv n v h2,.of (Rd.mono up (show Rd _ _ _ _ from h3.view))⟩
   | own ds=>
    refine λh=>eqs h ?_
    obtain⟨n,v,h1,h2,h3⟩:=x.vs i _ he Slot.noConfusion
    obtain⟨ev,vs,e',r,l⟩:=h3.view
    obtain⟨k,e'⟩:=e'
    exact⟨n,v,h1,hv n v h2,ev▸.own ⟨k,g _ _ (.ZaD rfl) (λq=>(x.own i false ⟨_,he,rfl⟩).2.2.1 (q▸hI)) e'⟩ (r.mono up) l⟩
   | _=>exact λh=>nn h
end
end
section
section
variable {prog:Program}{w:World}{F:Fp}{K:Addr->Prop}{ad:Nat->Bool->Addr}{σ:Sg}{s s':Shared}{mg mb:Str->Option Value}{Γ:ZaC}{fn:Nat->Str}{fa:Nat->Addr}{n N:Nat}{A:Around}
theorem Zmq{Gd:Heap->Prop}{I:Heap->Prop}(C:Zak prog w Gd mg Γ fn fa n)(hI:∀h h',I h->Kp h h'->I h'):Zak prog w (λh=>Gd h∧I h) mg Γ fn fa n:=⟨C.nm,
(λf ds d h=>let ⟨o,fd,h1,h2⟩:=C.ob f ds d h;⟨o,fd,h1,λh x=>h2 h x.1⟩),
(λf ds d h A P s vs R L ok hP hr k=>C.ok f ds d h A P s vs R L ⟨ok.gd.1,ok.tk⟩ hP hr λv s' g o r=>k v s' g ⟨⟨o.gd,hI _ _ ok.gd.2 g.kp⟩,o.tk⟩ r)⟩
theorem Zak.le{Gd:Heap->Prop}{m:Nat}(C:Zak prog w Gd mg Γ fn fa n)(h:n<=m):Zak prog w Gd mg Γ fn fa m:=⟨C.nm,
C.ob,
(λf ds d hd A P s vs R L ok hP hr k=>C.ok f ds d hd A P s vs R (L.le h) ok hP hr k)⟩
theorem Zoe(G:Gr F.base mg mb F.Gd)(H:Fs F)(C:Zak prog w F.Gd mg Γ fn fa n)(L:Lv A n)(f:Fm F K ad σ s){E:Value->Shared->Prop}{Q:Flow->Shared->Prop}{i j:Nat}{y a b:Str}{p pa pb pt pos sp:Pos}{kk:Nat}{elt iter:Expr}{scope:Scope}{xc:X}{ds ys:List D}
  (hy:F.nm[i]? = some y) (hk:F.sc.names.lookup y=some .local∨F.sc.names.lookup y=some .cell) (hsw:Zmj F.sc (.ListComp elt [⟨.Tuple [.Name a pa,.Name b pb] kk pt,iter,[],0⟩] scope pos) (.Name y p)=true)
  (ok:ZbR F.sc F.nm [] scope=true) (hab:a≠b) (ha:scope.names.lookup a=some .local) (hb:scope.names.lookup b=some .local) (hpl:Zai iter=true) (hi:mtI F.nm fn F.sc false (.tvar j) iter=true) (hj:rdt σ j=some (.list ds)) (hlen:ds.length<=16777216)
  (hm:mt [a,b] fn (ZkJ F.sc scope) false xc elt=true) (hfz:xc.fz=true) (hc:ZbX (ZeK λa b=>ev Γ [.fz a,.fz b] xc) ds=some ys)
  (k:∀s',Fm F K ad (σ.set i (.fz (.list ys))) s'->Q .next s') :
  wpAny (model prog w) A (exec (.Assign [.Name y p] (.ListComp elt [⟨.Tuple [.Name a pa,.Name b pb] kk pt,iter,[],0⟩] scope pos) sp) F.env) Q E s:=by
 erw[rwl (exec_Assign_Name_used _ _ _ _ (ZjI H hsw) ..) ?_]
 obtain⟨hlen',src⟩:=(ZaI (nm:=F.nm) (base:=F.base) G C (.tvar j)).i F.sc false iter F.env σ A _ s ds hi (f.ZcE H) L f.ok (f.pf H) (by
  show((ev Γ σ (.tvar j)).bind itemsOf)=some ds
  exact Zag hj (if_pos hlen))
 refine wpAny_bind (wpAny_standAt (wpAny_bind ?_))
 refine wpAny_mono (Q:=λ_ s'=>Q .next s') (E:=E) ?_ (λ_ _ q=>wpAny_pure q) λ_ _ e=>e
 show wpAny _ A (do let _ ←comprehension (.ListComp elt [⟨.Tuple [.Name a pa,.Name b pb] kk pt,iter,[],0⟩] scope pos) scope F.env _ (newList []) false (eval iter F.env) (some (assign (.Name y p) F.env))) _ _ s
 refine wpAny_bind (wpAny_mono (Q:=λ_ s'=>Q .next s') (E:=E) ?_ (λ_ _ q=>wpAny_pure q) λ_ _ e=>e)
 refine ZjZ (use:=some (assign (.Name y p) F.env)) (Q:=λ_ s'=>Q .next s') G C L (f.ZcE H) (f.pf H) ok hab ha hb (ZdM hpl) hlen'
  (λQ' kk=>src E Q' λI s₁ g₁ o₁ hit hI hb=>kk I s₁ _ g₁ o₁ hit hI hb λb hb=>hb.2.1) hm hfz hc λDd C s₁ m g₁ o₁ rr hD hC hDC hCb hnC=>?_
 have f₁:Fm F (λb=>K b∨b=C) ad σ s₁:=f.Zpj g₁ o₁ hC hCb (let ⟨o,e,m,n⟩:=Mut.ns hnC;⟨o,m,n,e⟩)
 have nK : ¬K C:=λz=>by obtain⟨_,_,_,_,o,_,_,e⟩:=f.kx C z;rw[hC] at e;cases e
 refine wpAny_assign_Name (Fm.Zh2 (sl:=.fz (.list ys)) G H (λ_ h=>h) f₁ hy hk (.fz (rr.mono λa o _ e p=>⟨Zmh (sl:=.fz (.list ys)) (λ_ h=>h) ⟨p.1.1,p.1.2.1,λz=>z.elim p.1.2.2 p.2⟩,e⟩)) λh' tk f₂ t₂ keep=>?_)
 have hC2:=f₁.kx C (.inr rfl)
 refine⟨m,?_,λh'' hs=>?_⟩
 ·obtain⟨o,es,ep,e,r⟩:=hnC
  exact⟨o,es,ep,keep C hC2.1 hC2.2.1 o e,r⟩
 ·exact k _ (f₂.Zu3 (tk:=tk) G H nK hs.extBut f₂.ok.tk)
theorem Zmn(G:Gr F.base mg mb F.Gd)(H:Fs F)(C:Zak prog w F.Gd mg Γ fn fa n)(L:Lv A n)(f:Fm F K ad σ s){E:Value->Shared->Prop}{Q:Value->Shared->Prop}{u1 u2:Pos}{e:Expr}{x:X}{ds:List D}(hg:Zcz F.sc "iter" = true)(hp:Zai e=true)(hm:mt F.nm fn F.sc true x e=true)(hf:x.fz=true)(hx:ev Γ σ x=some (.list ds))
  (k:∀I S s',Fm F (λb=>K b∨b=I) ad σ s'->Gw s s'->It (Pq F (λb=>K b∨b=I) ad σ) S s'.heap I ds->(∀b,S b->∃o,s'.heap.get? b=some o)->s.heap.get? I=none->¬F.base I->Q (.ref I) s') :
  wpAny (model prog w) A (eval (.Call (.Name "iter" u1) [e] [] u2) F.env) Q E s:=by
 refine wpAny_Call_NameR (ZcZ G f.ok.gd (f.ZcE H) hg (v:=.builtin "iter") (by simp) (by decide) ?_)
 erw[rwl (Zab hp ..) (rwl (Zam ..) (rwl (Zah ..) (rwl (Zay ..) ?_)))]
 refine Calls.callWith_builtin rfl (Calls.evalArgs_plain (Calls.spliced_cons (ZdV H (ZaI G C x) hm hf L f hx λv s₁ f₁ g₁ r₁=>Calls.spliced_nil ?_)))
 refine Calls.call_function_entry (by decide +kernel) (by decide +kernel) kdk_entry_iter (kdk_args_iter _) ?_
 unfold Builtin.«iter»
 refine wpAny_bind (m:=someArgs "iter" 1 2 _) (wpAny_of_eq (a:=[v]) rfl ?_)
 show wpAny _ _ (pyIter v >>= _) _ _ _
 refine wpAny_bind (Zfc (fz:=true) (P:=Pq F K ad σ) G (.refl s₁) f₁.ok r₁ λI s₂ g₂ o₂ hit hI hbI=>?_)
 refine wpAny_pure ⟨_,rfl,?_⟩
 refine k I _ s₂ (f₁.Zpj g₂ o₂ hI hbI (let ⟨o,e,m,n⟩:=hit.mut;⟨o,m,n,e⟩)) (g₁.trans g₂) (hit.excl λa o e p=>⟨p.1.1,p.1.2.1,λz=>z.elim p.1.2.2 p.2⟩) (λb hb=>hb.2.1) (g₁.none hI) hbI
end
end
section
theorem GwB.plain{s s':Shared}(g:GwB (λ_=>False) s s'):Gw s s':=⟨λb o n e=>g.kp b o n id e,λb o e=>g.ex b o id e,g.os,g.gens⟩
theorem ZkV{σ:Sg}{i:Nat}{d:D}(h:i < σ.length):rd (σ.set i (.fz d)) i=some d:=by unfold rd;erw[rwl (List.getElem?_set_self h ..) ?_]
theorem Ziy{σ:Sg}{i j:Nat}{sl:Slot}(h:i≠j):rd (σ.set i sl) j=rd σ j:=by unfold rd;erw[rwl (List.getElem?_set_ne h ..) ?_]
theorem ZmA{σ:Sg}{i j:Nat}{sl:Slot}(h:i≠j):rdt (σ.set i sl) j=rdt σ j:=by unfold rdt;erw[rwl (List.getElem?_set_ne h ..) ?_]
section
variable {prog:Program}{w:World}{F:Fp}{K:Addr->Prop}{ad:Nat->Bool->Addr}{σ:Sg}{s s':Shared}{mg mb:Str->Option Value}{Γ:ZaC}{fn:Nat->Str}{fa:Nat->Addr}{n N:Nat}{A:Around}
@[elab_as_elim] theorem Rd.ZkC{P:Addr->Prop}{h:Heap}{v:Value}{a:Addr}{G:Value->Prop}(r:Rd P h v (.obj a))(k:G (.ref a)):G v:=r.ZiX.symm▸k
theorem Zon(H:Fs F)(f:Fm F K ad σ s){c:Addr}{dn:D}(hcl:F.env.cells.lookup ("names" : Str)=some c)(hkn:F.sc.names.lookup ("names" : Str)=some .cell)(hn5:F.nm[5]? = some ("names" : Str))(h5:rd σ 5=some dn) :
  ∃nv,s.heap.IsCell c (some nv)∧Rd (Pq F K ad σ) s.heap nv dn:=by
 obtain⟨y,v,hy,hv,r⟩:=(f.ZcE H).vars 5 dn h5
 rw[hn5] at hy
 rw[←Option.some.inj hy] at hv
 rcases hv with⟨hk,_⟩ | ⟨_,c',h1,h2⟩
 ·rw[Env.kindOf,H.scp,hkn] at hk;exact absurd (Option.some.inj hk) (by decide)
 ·rw[hcl] at h1
  exact⟨v,Option.some.inj h1▸h2,r⟩
noncomputable abbrev Zgi(fn:Nat->Str)(xl:X)(lbody:Expr)(lscope:Scope):Prop:=(xl.fz=true)∧(mt ["names","stack","token"] fn lscope true xl lbody=true)∧(lscope.isCoroutine=false)∧(lscope.isGenerator=false)∧(lscope.kind=.function)∧(∀p∈lscope.names,p.2≠.cell)∧(lscope.names.lookup ("stack" : Str)=some .local)∧(lscope.names.lookup ("token" : Str)=some .local)∧(lscope.names.lookup ("names" : Str)=some .free)
theorem Zgi.fz{fn:Nat->Str}{xl:X}{lbody:Expr}{lscope:Scope}(slf:Zgi fn xl lbody lscope):xl.fz=true:=slf.1
theorem Zgi.mt{fn:Nat->Str}{xl:X}{lbody:Expr}{lscope:Scope}(slf:Zgi fn xl lbody lscope):mt ["names","stack","token"] fn lscope true xl lbody=true:=slf.2.1
theorem Zgi.co{fn:Nat->Str}{xl:X}{lbody:Expr}{lscope:Scope}(slf:Zgi fn xl lbody lscope):lscope.isCoroutine=false:=slf.2.2.1
theorem Zgi.ge{fn:Nat->Str}{xl:X}{lbody:Expr}{lscope:Scope}(slf:Zgi fn xl lbody lscope):lscope.isGenerator=false:=slf.2.2.2.1
theorem Zgi.kd{fn:Nat->Str}{xl:X}{lbody:Expr}{lscope:Scope}(slf:Zgi fn xl lbody lscope):lscope.kind=.function:=slf.2.2.2.2.1
theorem Zgi.nc{fn:Nat->Str}{xl:X}{lbody:Expr}{lscope:Scope}(slf:Zgi fn xl lbody lscope):∀p∈lscope.names,p.2≠.cell:=slf.2.2.2.2.2.1
theorem Zgi.ky{fn:Nat->Str}{xl:X}{lbody:Expr}{lscope:Scope}(slf:Zgi fn xl lbody lscope):lscope.names.lookup ("stack" : Str)=some .local:=slf.2.2.2.2.2.2.1
theorem Zgi.kz{fn:Nat->Str}{xl:X}{lbody:Expr}{lscope:Scope}(slf:Zgi fn xl lbody lscope):lscope.names.lookup ("token" : Str)=some .local:=slf.2.2.2.2.2.2.2.1
theorem Zgi.ku{fn:Nat->Str}{xl:X}{lbody:Expr}{lscope:Scope}(slf:Zgi fn xl lbody lscope):lscope.names.lookup ("names" : Str)=some .free:=slf.2.2.2.2.2.2.2.2
noncomputable def ZlR(prog:Program)(w:World)(F:Fp)(Γ:ZaC)(xl:X)(dn:D)(fl ra:Addr)(n:Nat):Prop:=∀(K:Addr->Prop) (ad:Nat->Bool->Addr) (σ:Sg) (s:Shared) (W:Addr->Prop) (ds l0:List D) (d:D) (sv iv:Value) (A:Around) (R:Result->Shared->Prop),Fm F K ad σ s->(∀b,W b->K b)->Zd1 (Pq F K ad σ) s.heap ds W sv->(∀b,W b->¬F.base b∧∃o,s.heap.get? b=some o)->rd σ 5=some dn->
 ZbO (Zbh Γ dn xl) ds (.list l0)=some d->Rd (Pq F K ad σ) s.heap iv (.list l0)->Lv A (n+2)->(∀v' s',GwB W s s'->Ok F.Gd s'->Rd (Pq F K ad σ) s'.heap v' d->R (.ok (.ret v')) s')->codeAny (model prog w) A (.call (.ref ra) ⟨[.ref fl,sv,iv],[]⟩) R s
theorem Zou(G:Gr F.base mg mb F.Gd)(H:Fs F)(C:Zak prog w F.Gd mg Γ fn fa n)
  {rfd:FuncData} {ro:Obj} {ra im:Addr} (XR:ZaE F.Gd F.base mg rfd ro ra im) {q1 q2 q3 q4 q5 q6 q7 q8 q9 p1 p2 p3 p4 p5 p6 p7 r1 r2 r3 r4 r5 r6 r7:Pos} {tryS:List Stmt}
  (hbo:rfd.body=.stmts [.Assign [.Name "it" r1] (.Call (.Name "iter" r2) [.Name "sequence" r3] [] r4) r5,.If (.Compare (.Name "initial" q1) [.Is] [.Name "_initial_missing" q2] q3) tryS [.Assign [.Name "value" q4] (.Name "initial" q5) q6] q7,
   .For (.Name "element" p1) (.Name "it" q8) [.Assign [.Name "value" p2] (.Call (.Name "function" p3) [.Name "value" p4,.Name "element" p5] [] p6) p7] [] q9,
   .Return (some (.Name "value" r6)) r7])
  (him:∀h,F.Gd h->∃o,h.get? im=some o∧o.cls=.type "object")
  {xl:X} {nm0 qual:Str} {yp zp:Pos} {lbody:Expr} {lscope:Scope} {c fl cc:Addr} {oc:Obj} {vsc:Array Value} {tc:Tok} {pm ctv:Value} (LP:Zgi fn xl lbody lscope)
  (hfo:∀h,F.Gd h->h.get? fl=some { cls:=.type "function",data:=.func (kla_fn nm0 qual ⟨[],[⟨"stack",none,yp⟩,⟨"token",none,zp⟩],none,[],[],none,[]⟩ lbody lscope [("names",c)] pm (.ref cc) ctv) }) (hoc:∀h,F.Gd h->h.get? cc=some oc) (hcc:oc.cls=.type "code") (hcd:oc.data=.fields vsc) (hcq:vsc[1]? = some (.str qual tc))
  (hcl:F.env.cells.lookup ("names" : Str)=some c) (hkn:F.sc.names.lookup ("names" : Str)=some .cell) (hn5:F.nm[5]? = some ("names" : Str)) {dn:D}:ZlR prog w F Γ xl dn fl ra n:=by
 intro K ad σ s W ds l0 d sv iv A R f hW hsq hb h5 hd hiv L k
 obtain⟨nv,hcell,hnv⟩:=Zon H f hcl hkn hn5 h5
 have hf:=hfo _ f.ok.gd
 have hc:=hoc _ f.ok.gd
 have nw:∀{a o},s.heap.get? a=some o->¬Mut o->¬W a:=λe nm q=>let ⟨_,_,_,_,_,m,_,e'⟩:=f.kx _ (hW _ q);nm (Option.some.inj (e.symm.trans e')▸m)
 have w1 : ¬W fl:=nw hf (Zki (.inl rfl) (.inl ⟨_,rfl⟩))
 have w2 : ¬W cc:=nw hc (Zki (.inr hcc) (.inr ⟨_,hcd⟩))
 have w3 : ¬W c:=λq=>(f.kx c (hW _ q)).2.1 _ c hcl rfl
 have St:=Zol (href:=s.heap) (W:=W) (P1:=λx=>Pq F K ad σ x∧∃o,s.heap.get? x=some o) (dn:=dn) G C (by decide) LP.fz LP.mt LP.co LP.ge LP.kd LP.nc LP.ky LP.kz LP.ku hf hc hcc hcd hcq hcell (hnv.mono λa o _ e p=>⟨⟨p,o,e⟩,e⟩) ⟨w1,w2,w3⟩ λa p q=>p.1.2.2 (hW _ q)
 refine Zh9 (s:=s) (P:=Pq F K ad σ) (W:=W) (href:=s.heap) (n:=n+1) G XR hbo St rfl (.ZaD rfl) w1 hf hsq (λb h=>(hb b h).1) (λb h=>(hb b h).2) (λx p=>p.1) (λx p q=>p.1.2.2 (hW x q)) (λx p=>p.2) (λb e=>e) hd L f.ok (f.pf H) (.refl _ _) hiv (λq=>?_) k
 obtain⟨b,vs,e1,_,⟨k,e2⟩,_⟩:=hiv.Zbq
 obtain⟨o,e3,e4⟩:=him _ f.ok.gd
 rw[←Value.ref.inj (e1.symm.trans q),e2] at e3
 rw[←Option.some.inj e3] at e4
 exact absurd (Value.type.inj e4) (by decide)
theorem Znh(G:Gr F.base mg mb F.Gd)(H:Fs F)(C:Zak prog w F.Gd mg Γ fn fa n){rfd:FuncData}{ro:Obj}{ra fl:Addr}{xl tX rX:X}{dn:D}(FO:ZlR prog w F Γ xl dn fl ra n)(hro:∀h,F.Gd h->h.get? ra=some ro)(hrd:ro.data=.func rfd)(hmr:mg "reduce" = some (.ref ra))(hgr:Zcz F.sc "reduce" = true)(hgi:Zcz F.sc "iter" = true)
  {s10 u1 u2 u3 u4 u5 u6:Pos} {e4 e5 e6 r test:Expr} {thenS:List Stmt}
  (hmt:mtT F.nm fn F.sc true tX test=true) (hm4:(Zai e4&&mt F.nm fn F.sc true (.var 11) e4)=true) (hm5:(Zai e5&&mt F.nm fn F.sc true (.slc (.tvar 6) (.var 10) (.const .none)) e5)=true) (hm6:(Zai e6&&mt F.nm fn F.sc true (.var 13) e6)=true) (hmr':(Zai r&&mt F.nm fn F.sc true rX r)=true)
  {toks l1:List D} {d2 d3:D} {cut:Int} (h5:rd σ 5=some dn) (h6:rdt σ 6=some (.list toks)) (h10:rd σ 10=some (.int cut)) (h11:rd σ 11=some (.obj fl)) (h13:rd σ 13=some (.list l1))
  (htv:tv Γ σ tX=some false) (hf2:ZbO (Zbh Γ dn xl) (slice toks (some cut) none) (.list l1)=some d2) (hr:ev Γ σ rX=some d3) (heq:eqD d2 d3=some true)
  {E:Value->Shared->Prop} {Q:Flow->Shared->Prop} (L:Lv A (n+2)) (f:Fm F K ad σ s) (k:∀s',Gw F.s0 s'->Ok F.Gd s'->Q (.ret (.bool true)) s') :
  wpAny (model prog w) A (execs [.If test thenS [] s10,.Return (some (.Compare (.Call (.Name "reduce" u1) [e4,.Call (.Name "iter" u2) [e5] [] u3,e6] [] u4) [.Eq] [r] u5)) u6] F.env) Q E s:=by
 have Ln:Lv A n:=L.le (Nat.le_add_right _ _)
 refine wpAny_execs_cons (wpAny_If (Zns H (ZaI G C tX) hmt Ln f htv λs₅ f₅ g₅=>wpAny_execs_nil ?_))
 refine Zbg hm4 λp4 m4=>Zbg hm5 λp5 m5=>Zbg hm6 λp6 m6=>Zbg hmr' λpr mr=>?_
 refine wpAny_execs_cons (wpAny_Return_some (wpAny_Compare1 (wpAny_Call_NameR (ZcR G f₅.ok.gd (f₅.ZcE H) hgr hmr (by decide) ?_)) (Zcl pr)))
 erw[rwl (Zab p4 ..) (rwl (Zab (show Zai (.Call (.Name "iter" u2) [e5] [] u3)=true from rfl) ..) (rwl (Zab p6 ..) (rwl (Zam ..) (rwl (Zah ..) (rwl (Zah ..) (rwl (Zah ..) (rwl (Zay ..) ?_)))))))]
 refine Calls.callWith_function (o:=ro) (fd:=rfd) (Calls.evalArgs_plain (Calls.spliced_cons (ZdV H (ZaI G C (.var 11)) m4 rfl Ln f₅ h11 λv4 s₆ f₆ g₆ r₆=>r₆.ZkC (Calls.spliced_cons ?_))))
 refine Zmn G H C Ln f₆ hgi p5 m5 rfl (ds:=slice toks (some cut) none) (show(rdt _ 6).bind _=_ from Zag h6 (Zag h10 rfl)) λI S s₇ f₇ g₇ hit₇ hS₇ hI₇ hbI=>?_
 refine Calls.spliced_cons (ZdV H (ZaI G C (.var 13)) m6 rfl Ln f₇ h13 λv6 s₈ f₈ g₈ r₈=>Calls.spliced_nil ⟨⟨hro _ f₈.ok.gd,hrd⟩,wpAny_call ?_⟩)
 have hit₈:It (Pq F (λb=>K b∨b=I) ad σ) S s₈.heap I (slice toks (some cut) none):=hit₇.mono λb o n _ e=>g₈.kp b o n e
 refine FO _ ad σ s₈ (λb=>b=I) _ l1 d2 _ _ _ _ f₈ (λb h=>.inr h) (.iter hit₈ (λb hb=>let ⟨o,e⟩:=hS₇ b hb;g₈.ex b o e) λp=>p.2.2 (.inr rfl)) (λb h=>h▸⟨hbI,let ⟨o,e,_⟩:=hit₈.mut;⟨o,e⟩⟩) h5 hf2 r₈ L λv9 s₉ g₉ o₉ r₉=>?_
 refine(ZaI (base:=F.base) G C rX).e F.sc true r F.env σ A _ s₉ E _ d3 mr (f₈.Zv1 H (I:=I) (.inr rfl) g₉.kp) Ln o₉ (λb nb=>let ⟨o,n,e⟩:=f₈.pf H b λp=>nb (.inl p);⟨o,n,g₉.kp b o n (λq=>nb (.inr q)) e⟩) hr λv10 s₁₀ g₁₀ o₁₀ r₁₀=>?_
 have heq':cop .eq d2 d3=some true:=by cases d2<;>first | exact heq | exact nn heq
 exact ZkQ (op:=.eq) Ln (.of ((r₉.mono λa o _ e p=>⟨.inl p,e⟩).kp g₁₀.kp)) r₁₀.weak heq' (k _ ((GwB.Zvy f₈.gw g₉ λi hi=>hi▸(f₈.kx I (.inr rfl)).2.2.1).trans g₁₀) o₁₀)
theorem ZoA(G:Gr F.base mg mb F.Gd)(H:Fs F)(C:Zak prog w F.Gd mg Γ fn fa n){rfd:FuncData}{ro:Obj}{ra fl:Addr}{xl tX rX:X}{dn:D}(FO:ZlR prog w F Γ xl dn fl ra n)(hro:∀h,F.Gd h->h.get? ra=some ro)(hrd:ro.data=.func rfd)(hmr:mg "reduce" = some (.ref ra))(hgr:Zcz F.sc "reduce" = true)(hgi:Zcz F.sc "iter" = true)
  {s3 s4 s5 s6 s7 s8 s10 t1 t2 t3 t4 cpos u1 u2 u3 u4 u5 u6:Pos} {kk:Nat} {elt e1 e2 e3 e4 e5 e6 r test:Expr} {cscope:Scope} {thenS:List Stmt} {xc:X}
  (hy12:F.nm[12]? = some ("asked" : Str)) (hk12:F.sc.names.lookup ("asked" : Str)=some .local) (hsw:Zmj F.sc (.ListComp elt [⟨.Tuple [.Name "word" t1,.Name "pattern" t2] kk t3,.Name "tokens" t4,[],0⟩] cscope cpos) (.Name "asked" s3)=true)
  (hok:ZbR F.sc F.nm [] cscope=true) (hca:cscope.names.lookup ("word" : Str)=some .local) (hcb:cscope.names.lookup ("pattern" : Str)=some .local) (hit:mtI F.nm fn F.sc false (.tvar 6) (.Name "tokens" t4)=true) (hmc:mt ["word","pattern"] fn (ZkJ F.sc cscope) false xc elt=true) (hfz:xc.fz=true)
  (hy13:F.nm[13]? = some ("half" : Str)) (hk13:F.sc.names.lookup ("half" : Str)=some .local)
  (hma:mtL F.nm fn F.sc true (.cons (.var 11) (.cons (.slc (.tvar 6) (.const .none) (.var 10)) (.cons (.list .nil) .nil))) [e1,e2,e3]=true)
  (hmt:mtT F.nm fn F.sc true tX test=true) (hm4:(Zai e4&&mt F.nm fn F.sc true (.var 11) e4)=true) (hm5:(Zai e5&&mt F.nm fn F.sc true (.slc (.tvar 6) (.var 10) (.const .none)) e5)=true) (hm6:(Zai e6&&mt F.nm fn F.sc true (.var 13) e6)=true) (hmr':(Zai r&&mt F.nm fn F.sc true rX r)=true)
  {toks asked l1:List D} {d2 d3:D} {cut:Int} (hlen:14<=σ.length) (h5:rd σ 5=some dn) (h6:rdt σ 6=some (.list toks)) (h10:rd σ 10=some (.int cut)) (h11:rd σ 11=some (.obj fl)) (hz:toks.length<=16777216)
  (hask:ZbX (ZeK λa b=>ev Γ [.fz a,.fz b] xc) toks=some asked) (hf1:ZbO (Zbh Γ dn xl) (slice toks none (some cut)) (.list [])=some (.list l1))
  (htv:tv Γ ((σ.set 12 (.fz (.list asked))).set 13 (.fz (.list l1))) tX=some false) (hf2:ZbO (Zbh Γ dn xl) (slice toks (some cut) none) (.list l1)=some d2)
  (hr:ev Γ ((σ.set 12 (.fz (.list asked))).set 13 (.fz (.list l1))) rX=some d3) (heq:eqD d2 d3=some true)
  {E:Value->Shared->Prop} {Q:Flow->Shared->Prop} (L:Lv A (n+2)) (f:Fm F K ad σ s) (k:∀s',Gw F.s0 s'->Ok F.Gd s'->Q (.ret (.bool true)) s') :
  wpAny (model prog w) A (execs [.Assign [.Name "asked" s3] (.ListComp elt [⟨.Tuple [.Name "word" t1,.Name "pattern" t2] kk t3,.Name "tokens" t4,[],0⟩] cscope cpos) s4,
   .Assign [.Name "half" s5] (.Call (.Name "reduce" s6) [e1,e2,e3] [] s7) s8,
   .If test thenS [] s10,
   .Return (some (.Compare (.Call (.Name "reduce" u1) [e4,.Call (.Name "iter" u2) [e5] [] u3,e6] [] u4) [.Eq] [r] u5)) u6] F.env) Q E s:=by
 have Ln:Lv A n:=L.le (Nat.le_add_right _ _)
 have rdd:∀{i x d},i≠12->i≠13->rd σ i=some d->rd ((σ.set 12 x).set 13 (.fz (.list l1))) i=some d:=λh h' e=>((Ziy (Ne.symm h')).trans (Ziy (Ne.symm h))).trans e
 refine wpAny_execs_cons (Zoe G H C Ln f hy12 (.inl hk12) hsw hok (by decide) hca hcb rfl hit h6 hz hmc hfz hask λs₁ f₁=>?_)
 have a6:rdt (σ.set 12 (.fz (.list asked))) 6=some (.list toks):=(ZmA (by decide)).trans h6
 have hargs:=Zgt (n:=n) (pos:=s7) (E:=E) (Q:=λvs s'=>Fm F K ad (σ.set 12 (.fz (.list asked))) s'∧Zad (Pq F K ad (σ.set 12 (.fz (.list asked)))) s'.heap vs [.obj fl,.list (slice toks none (some cut)),.list []]) H (ZaI G C _) hma rfl Ln f₁ (show(rd _ 11).bind _=_ from Zag ((Ziy (by decide)).trans h11) (ZgR (Zag (Zag a6 (Zag rfl (Zag ((Ziy (by decide)).trans h10) rfl))) rfl) rfl)) λvs s' f' g' r'=>⟨f',r'⟩
 have hp1:Zai e1=true:=Zd2 (show(Zai e1&&mt F.nm fn F.sc true (.var 11) e1&&mtL F.nm fn F.sc true (.cons (.slc (.tvar 6) (.const .none) (.var 10)) (.cons (.list .nil) .nil)) [e2,e3])=true from hma) λh _ _=>h
 refine wpAny_execs_cons (wpAny_Assign_Name (wpAny_Call_NameR (ZcR G f₁.ok.gd (f₁.ZcE H) hgr hmr (by decide) ?_)) rfl)
 rw[Zab hp1,Zah] at hargs ⊢
 refine Calls.callWith_function (o:=ro) (fd:=rfd) (Calls.evalArgs_plain (wpAny_mono hargs (λvs s₂ hs=>⟨⟨hro _ hs.1.ok.gd,hrd⟩,wpAny_call ?_⟩) λ_ _ e=>e))
 obtain⟨f₂,r₂⟩:=hs
 refine r₂.Zd0 λv1 vs ra1 r₂=>r₂.Zd0 λv2 vs ra2 r₂=>r₂.Zd0 λv3 vs ra3 r₂=>ra1.ZkC ?_
 erw[rwl (r₂.nil_inv ..) ?_]
 refine FO K ad _ s₂ (λ_=>False) _ [] _ v2 v3 _ _ f₂ (λb h=>h.elim) (.list ra2) (λb h=>h.elim) ((Ziy (by decide)).trans h5) hf1 ra3 L λv s₃ g₃ o₃ r₃=>?_
 refine(f₂.grow g₃.plain o₃).Zc0 G H hy13 (.inl hk13) r₃ λs₄ f₄ _=>?_
 exact Znh G H C FO hro hrd hmr hgr hgi hmt hm4 hm5 hm6 hmr' (rdd (by decide) (by decide) h5) ((ZmA (by decide)).trans a6) (rdd (by decide) (by decide) h10) (rdd (by decide) (by decide) h11) (ZkV (by erw[rwl (List.length_set ..) ?_];exact hlen)) htv hf2 hr heq L f₄ k
end
end
section
section
variable {prog:Program}{w:World}{base:Addr->Prop}{mg mb:Str->Option Value}{Gd:Heap->Prop}{Γ:ZaC}{fn:Nat->Str}{fa:Nat->Addr}{n N:Nat}
theorem ZaE.and{rfd:FuncData}{ro:Obj}{ra im:Addr}{I:Heap->Prop}(x:ZaE Gd base mg rfd ro ra im):ZaE (λh=>Gd h∧I h) base mg rfd ro ra im:=⟨(λh y=>x.ob h y.1),
x.da,
(λh y=>x.cr h y.1),
x.cl,
x.gl,
x.bu,
(λM A s u v z E Q g q=>x.bi M A s u v z E Q g.1 q),
x.co,
x.gen,
x.kd,
x.nc,
x.k1,
x.k2,
x.k3,
x.k4,
x.k5,
x.k6,
x.k7,
x.k8,
x.mi,
x.mbs⟩
theorem ZrC(G:Gr base mg mb Gd)(C:Zak prog w Gd mg Γ fn fa n){cL PL:Addr}{xs:List (Pos×Str)}(O:ZeB Gd cL PL xs mg)
  {rfd:FuncData} {ro:Obj} {ra im:Addr} (XR:ZaE Gd base mg rfd ro ra im) {q1 q2 q3 q4 q5 q6 q7 q8 q9 p1 p2 p3 p4 p5 p6 p7 r1 r2 r3 r4 r5 r6 r7:Pos} {tryS:List Stmt}
  (hbo:rfd.body=.stmts [.Assign [.Name "it" r1] (.Call (.Name "iter" r2) [.Name "sequence" r3] [] r4) r5,.If (.Compare (.Name "initial" q1) [.Is] [.Name "_initial_missing" q2] q3) tryS [.Assign [.Name "value" q4] (.Name "initial" q5) q6] q7,
   .For (.Name "element" p1) (.Name "it" q8) [.Assign [.Name "value" p2] (.Call (.Name "function" p3) [.Name "value" p4,.Name "element" p5] [] p6) p7] [] q9,
   .Return (some (.Name "value" r6)) r7])
  (hmr:mg "reduce" = some (.ref ra)) (him:∀h,Gd h->∃o,h.get? im=some o∧o.cls=.type "object")
  {fd:FuncData} {o:Obj} {a:Addr} {pre:List Stmt} {p0:Str} {nms:List Str} {st:S}
  {xl:X} {yp zp s1 s2 lpos:Pos} {lbody:Expr} {lscope:Scope}
  {s3 s4 s5 s6 s7 s8 s10 t1 t2 t3 t4 cpos u1 u2 u3 u4 u5 u6:Pos} {kk:Nat} {elt e1 e2 e3 e4 e5 e6 r test:Expr} {cscope:Scope} {thenS:List Stmt} {xc tX rX:X}
  (Df:Zbi Gd fd o a (pre++[.Assign [.Name "step" s1] (.Lambda ⟨[],[⟨"stack",none,yp⟩,⟨"token",none,zp⟩],none,[],[],none,[]⟩ lbody lscope lpos) s2,
   .Assign [.Name "asked" s3] (.ListComp elt [⟨.Tuple [.Name "word" t1,.Name "pattern" t2] kk t3,.Name "tokens" t4,[],0⟩] cscope cpos) s4,
   .Assign [.Name "half" s5] (.Call (.Name "reduce" s6) [e1,e2,e3] [] s7) s8,
   .If test thenS [] s10,
   .Return (some (.Compare (.Call (.Name "reduce" u1) [e4,.Call (.Name "iter" u2) [e5] [] u3,e6] [] u4) [.Eq] [r] u5)) u6]) [p0]) (hcode:fd.code=.ref cL) {sc:Scope} (hsc:fd.scope=sc)
  (hnd:(p0::nms).Nodup) (hpre:ms (p0::nms) fn sc st pre=true) (hst:st.Zcw []=true)
  (hmem:∃pq∈xs,pq.1.line=lpos.line∧pq.1.col=lpos.col∧pq.2=(fd.qualname ++ ".<locals>.")++("<lambda>" : Str))
  (hgr:Zcz sc "reduce" = true) (hgi:Zcz sc "iter" = true)
  (LP:Zgi fn xl lbody lscope)
  (hfree:(∀n,(n,NameKind.free)∈lscope.names->n=("names" : Str))∧∀(cells:List (Str×Addr)) c,cells.lookup ("names" : Str)=some c->Zb8 cells lscope.names []=[(("names" : Str),c)])
  (hkn:sc.names.lookup ("names" : Str)=some .cell) (hn5:(p0::nms)[5]? = some ("names" : Str))
  (hy11:(p0::nms)[11]? = some ("step" : Str)) (hk11:sc.names.lookup ("step" : Str)=some .local)
  (hy12:(p0::nms)[12]? = some ("asked" : Str)) (hk12:sc.names.lookup ("asked" : Str)=some .local) (hsw:Zmj sc (.ListComp elt [⟨.Tuple [.Name "word" t1,.Name "pattern" t2] kk t3,.Name "tokens" t4,[],0⟩] cscope cpos) (.Name "asked" s3)=true)
  (hok:ZbR sc (p0::nms) [] cscope=true) (hca:cscope.names.lookup ("word" : Str)=some .local) (hcb:cscope.names.lookup ("pattern" : Str)=some .local) (hit:mtI (p0::nms) fn sc false (.tvar 6) (.Name "tokens" t4)=true) (hmc:mt ["word","pattern"] fn (ZkJ sc cscope) false xc elt=true) (hfz:xc.fz=true)
  (hy13:(p0::nms)[13]? = some ("half" : Str)) (hk13:sc.names.lookup ("half" : Str)=some .local)
  (hma:mtL (p0::nms) fn sc true (.cons (.var 11) (.cons (.slc (.tvar 6) (.const .none) (.var 10)) (.cons (.list .nil) .nil))) [e1,e2,e3]=true)
  (hmt:mtT (p0::nms) fn sc true tX test=true) (hm4:(Zai e4&&mt (p0::nms) fn sc true (.var 11) e4)=true) (hm5:(Zai e5&&mt (p0::nms) fn sc true (.slc (.tvar 6) (.var 10) (.const .none)) e5)=true) (hm6:(Zai e6&&mt (p0::nms) fn sc true (.var 13) e6)=true) (hmr':(Zai r&&mt (p0::nms) fn sc true rX r)=true)
  {x:D} {σ:Sg} {dn:D} {toks asked l1:List D} {d2 d3:D} {cut:Int} (V:Za4 Γ N (p0::nms).length st xl xc tX rX x σ dn toks asked l1 d2 d3 cut)
  {A:Around} {P:Addr->Prop} {s:Shared} {vs:List Value} {R:Result->Shared->Prop} (L:Lv A (n+3)) (okg:Gd s.heap) (hp0:sc.names.lookup p0=some .local) (hP:Pf P s.heap) (hr:Zad P s.heap vs [x])
  (k:∀s',Gw s s'->Ok Gd s'->R (.ok (.ret (.bool true))) s'):codeAny (model prog w) A (.call (.ref a) ⟨vs,[]⟩) R s:=by
 subst hsc
 refine Zcj (nm:=p0::nms) G Df ⟨nms,rfl⟩ hnd rfl L okg (.inr ⟨p0,rfl,hp0⟩) hP hr λA' F ad s₁ E i1 i2 i3 i4 i5 i6 H L' f hcq=>?_
 obtain⟨base',Gd',env,sc,nm,P0,s0⟩:=F
 dsimp only at i1 i2 i3 i4 i5 i6
 subst i1 i2 i3 i4 i5 i6
 refine ZrR (N:=N) G H (C.le (Nat.le_add_right n 2)) st pre _ ad _ s₁ E _ .next σ hst hpre L' f V.ex λad₁ s₂ f₂ t₂=>?_
 have Of:=O.odd (F:=⟨base',Gd',env,fd.scope,p0::nms,P0,s0⟩) rfl (hcq.1.trans hcode)
 obtain⟨c,hcl⟩:=H.lk ("names" : Str) hkn
 obtain⟨pq,m1,m2,m3,m4⟩:=hmem
 have hclo:closureFor lscope env=pure [(("names" : Str),c)]:=(ZbM λz hz=>⟨c,by rw[hfree.1 z hz];exact hcl⟩).trans (by rw[hfree.2 _ c hcl])
 have hq:pq.2=env.qual++("<lambda>" : Str):=m4.trans (by rw[←hcq.2])
 refine wpAny_execs_cons (wpAny_Assign_Name (kla_eval rfl (Zo4 (c:=cL) (P:=PL) (xs:=xs) (mg:=mg) (Of.tab _ f₂.ok.gd) ⟨pq,m1,m2,m3,hq⟩ (λpq' hp' a1 a2=>(Of.hu pq' hp' pq m1 (a1.trans m2.symm) (a2.trans m3.symm)).trans hq) hclo (.inr (List.cons_ne_nil _ _)) H.gl (G.g _ f₂.ok.gd) Of.code Of.nP (Of.bi _ f₂.ok.gd) f₂.ok.tk λcv ctv h' tk Md T2 htk=>?_)) rfl)
 have kF:∀b o,h'.get? b=some o->(h'.push { cls:=.type "function",data:=.func (kla_fn "<lambda>" (env.qual ++ "<lambda>") ⟨[],[⟨"stack",none,yp⟩,⟨"token",none,zp⟩],none,[],[],none,[]⟩ lbody lscope [(("names" : Str),c)] ((mg "__name__").getD .none) cv ctv) }).get? b=some o:=λ_ _ e=>Heap.get?_push_of_some _ e
 have hfv:=Heap.get?_push_size h' (o:={ cls:=.type "function",data:=.func (kla_fn "<lambda>" (env.qual ++ "<lambda>") ⟨[],[⟨"stack",none,yp⟩,⟨"token",none,zp⟩],none,[],[],none,[]⟩ lbody lscope [(("names" : Str),c)] ((mg "__name__").getD .none) cv ctv) }) rfl
 obtain⟨cc,oc,vsc,tc,c1,c2,c3,c4,c5⟩:=Md.rc.kp (.of kF)
 have sV:s₂.heap.get? h'.objs.size=none:=by
  cases e:s₂.heap.get? h'.objs.size with
  | none=>rfl
  | some o=>exact let ⟨_,e'⟩:=Md.ex _ _ e;nn ((Zau h').symm.trans e')
 have f₃:=f₂.grow (s':={ s₂ with heap:=h'.push { cls:=.type "function",data:=.func (kla_fn "<lambda>" (env.qual ++ "<lambda>") ⟨[],[⟨"stack",none,yp⟩,⟨"token",none,zp⟩],none,[],[],none,[]⟩ lbody lscope [(("names" : Str),c)] ((mg "__name__").getD .none) cv ctv) },toks:=tk }) ⟨Md.kp.trans (.of kF),λb o e=>let ⟨o',e'⟩:=Md.ex b o e;⟨o',kF _ _ e'⟩,rfl,id⟩ ⟨G.keeps (Of.set _ _ f₂.ok.gd Md.kp Md.bt T2) kF,htk⟩
 rw[c1] at hfv f₃ c2 ⊢
 generalize h'.push _=h₃ at hfv f₃ c2 ⊢
 generalize h'.objs.size=v0 at *
 generalize hfo:({ cls:=.type "function",data:=.func (kla_fn "<lambda>" (env.qual ++ "<lambda>") _ _ lscope [(("names" : Str),c)] ((mg "__name__").getD .none) (.ref cc) ctv) }:Obj)=fo at hfv
 have hfoc:fo.cls=.type "function" := hfo▸rfl
 have nmf : ¬Mut fo:=Zki (.inl hfoc) (.inl (hfo▸⟨_,rfl⟩))
 let I:Heap->Prop:=λh=>h.get? v0=some fo∧h.get? cc=some oc
 have G':=ZoT G (I:=I) λ_ _ x k=>⟨k _ _ nmf x.1,k _ _ (Zki (.inr c3) (.inr ⟨_,c4⟩)) x.2⟩
 have C':=Zmq (I:=I) C λh h' x kp=>⟨kp _ _ (.ZaD hfoc) x.1,kp _ _ (.ZaD c3) x.2⟩
 have H':Fs ⟨base',λh=>Gd' h∧I h,env,fd.scope,p0::nms,P0,s0⟩:=⟨H.scp,H.kf,H.gl,H.bi,H.pf,H.lk,H.nd,H.inj,H.fl,H.fc⟩
 have f₄:Fm ⟨base',λh=>Gd' h∧I h,env,fd.scope,p0::nms,P0,s0⟩ (λ_=>False) ad₁ σ { s₂ with heap:=h₃,toks:=tk }:=⟨f₃.gw,⟨⟨f₃.ok.gd,hfv,c2⟩,f₃.ok.tk⟩,f₃.loc,f₃.cel,f₃.own,f₃.inj,f₃.kx,f₃.vs⟩
 refine f₄.Zc0 (i:=11) (y := "step") (d:=.obj v0) G' H' hy11 (.inl hk11) (.obj ((f₂.pf H).fresh sV) hfv (.ZaD hfoc)) λs₅ f₅ _=>?_
 exact ZoA (n:=n) (dn:=dn) (toks:=toks) (asked:=asked) (l1:=l1) (d2:=d2) (d3:=d3) (cut:=cut) G' H' C' (Zou G' H' C' XR.and hbo (λh x=>him h x.1) LP (λh x=>x.2.1.trans (congrArg some hfo.symm)) (λh x=>x.2.2) c3 c4 c5 hcl hkn hn5) (λh x=>XR.ob h x.1) XR.da hmr hgr hgi hy12 hk12 hsw hok hca hcb hit hmc hfz hy13 hk13 hma hmt hm4 hm5 hm6 hmr'
  (Nat.le_trans V.len (Nat.le_of_eq List.length_set.symm)) ((Ziy (by decide)).trans V.h5) ((ZmA (by decide)).trans V.h6) ((Ziy (by decide)).trans V.h10) (ZkV (Nat.lt_of_lt_of_le (by decide) V.len)) V.hz V.ask V.f1 (V.fin v0).1 V.f2 (V.fin v0).2 V.eq L' f₅ λs' g' o'=>k s' g' ⟨o'.gd.1,o'.tk⟩
end
end
section
set_option maxRecDepth 100000
theorem Zb1{cells:List (Str×Addr)}:∀{names:List (Str×NameKind)} {acc:List (Str×Addr)},Zb8 cells names acc=Zb8 cells (names.filter λy=>y.2==.free) acc
 | [],_=>rfl
 | (n,k)::r,acc=>by
  cases hk:(k==NameKind.free) with
  | true=>
   rw[List.filter_cons_of_pos (by exact hk),ZpJ,ZpJ,hk]
   simp only[if_true]
   split
   ·exact Zb1
   ·exact Zb1
  | false=>
   rw[List.filter_cons_of_neg (by erw[rwl (hk ..) ?_];decide),ZpJ,hk]
   exact Zb1
theorem ZnT{names:List (Str×NameKind)}(h:(names.filter λy=>y.2==.free)=[(("names" : Str),NameKind.free)]):(∀n,(n,NameKind.free)∈names->n=("names" : Str))∧∀(cells:List (Str×Addr)) c,cells.lookup ("names" : Str)=some c->Zb8 cells names []=[(("names" : Str),c)]:=by
 refine⟨λn hn=>?_,λcells c hc=>?_⟩
 ·have:(n,NameKind.free)∈(names.filter λy=>y.2==.free):=List.mem_filter.mpr ⟨hn,rfl⟩
  rw[h] at this
  simpa using this
 ·rw[Zb1,h,ZpJ,hc]
  rfl
end
section
theorem Zbb{Γ:ZaC}{N k m:Nat}{st:S}{ds:List D}{d:D}(hl:ds.length=k)(h:∃σ,ex Γ N st (Ze3 m ds)=some (.ret d,σ)):run Γ N k m st ds=some d:=by
 obtain⟨σ,h⟩:=h
 unfold run
 erw[rwl (if_pos hl ..) (rwl (h ..) ?_)]
section
variable {Γ:ZaC}{N:Nat}{σ σ' σ'':Sg}{a b:S}
theorem Zaa{r:Option (Fl×Sg)}(h:ex Γ N a σ=some (.next,σ'))(k:ex Γ N b σ'=r):ex Γ N (.seq a b) σ=r:=show(ex Γ N a σ).bind _=_ from Zag h k
theorem Za7{d:D}(h:ex Γ N a σ=some (.ret d,σ')):ex Γ N (.seq a b) σ=some (.ret d,σ'):=show(ex Γ N a σ).bind _=_ from Zag h rfl
theorem Zn0(h:ex Γ N a σ=some (.brk,σ')):ex Γ N (.seq a b) σ=some (.brk,σ'):=show(ex Γ N a σ).bind _=_ from Zag h rfl
theorem Zaf(h:ex Γ N a σ=some (.next,σ')):ex Γ N (.seq a .skip) σ=some (.next,σ'):=Zaa h rfl
theorem ZbB{x:X}{d:D}(h:ev Γ (frz σ) x=some d):ex Γ N (.ret x) σ=some (.ret d,frz σ):=show(ev Γ (frz σ) x).map _=_ from ZgR h rfl
theorem Zav{i:Nat}{x:X}{d:D}(h:ev Γ σ x=some d):ex Γ N (.asg i x) σ=some (.next,σ.set i (.fz d)):=show(ev Γ σ x).map _=_ from ZgR h rfl
theorem ZlL{i:Nat}{x:X}{d:D}(h:ev Γ σ x=some d):ex Γ N (.asgC i x) σ=some (.next,σ.set i (.fz d)):=show(ev Γ σ x).map _=_ from ZgR h rfl
theorem x_t{t:X}{r:Option (Fl×Sg)}(h:tv Γ σ t=some true)(k:ex Γ N a σ=r):ex Γ N (.ifs t a b) σ=r:=show(tv Γ σ t).bind _=_ from Zag h k
theorem x_f{t:X}{r:Option (Fl×Sg)}(h:tv Γ σ t=some false)(k:ex Γ N b σ=r):ex Γ N (.ifs t a b) σ=r:=show(tv Γ σ t).bind _=_ from Zag h k
theorem ZgT{i:Nat}{ds:List D}(h:σ[i]? = some (.own ds)):ownOf σ i=some ds:=by unfold ownOf;erw[rwl (h ..) ?_]
theorem ZrP{i j:Nat}(h:σ[j]? = some (.app i)):ZiT σ j i=true:=by unfold ZiT;erw[rwl (h ..) ?_];exact beq_self_eq_true i
theorem Zhi{i:Nat}{ds:List D}{d:D}(hl:ds.length < 16777216):Zo7 σ i (ds++[d])=some (.next,σ.set i (.own (ds++[d]))):=if_pos (Nat.le_trans (Nat.le_of_eq List.length_append) hl)
theorem Zef{i:Nat}{x:X}{ds:List D}{d:D}(ho:σ[i]? = some (.own ds))(h:ev Γ σ x=some d)(hl:ds.length < 16777216):ex Γ N (.app i x) σ=some (.next,σ.set i (.own (ds++[d]))):=
 show(ownOf σ i).bind _=_ from Zag (ZgT ho) (Zag h (Zhi hl))
theorem ZpH{i j:Nat}{x:X}{ds:List D}{d:D}(ha:σ[j]? = some (.app i))(ho:σ[i]? = some (.own ds))(h:ev Γ σ x=some d)(hl:ds.length < 16777216):ex Γ N (.add j i x) σ=some (.next,σ.set i (.own (ds++[d]))):=
 show(if ZiT σ j i then _ else none)=_ from(if_pos (ZrP ha)).trans (Zag (ZgT ho) (Zag h (Zhi hl)))
theorem ZcT{i:Nat}{op:Bop}{x:X}{p q d:D}(ha:rd σ i=some p)(h:ev Γ σ x=some q)(hd:ZoB op p q=some d):ex Γ N (.aug i op x) σ=some (.next,σ.set i (.fz d)):=
 show(rd σ i).bind _=_ from Zag ha (Zag h (ZgR hd rfl))
theorem ZcS{t:Sg->Option Bool}{b:Sg->Option (Fl×Sg)}{n:Nat}(h:t σ=some false):Zbk t b (n+1) σ=some (.next,σ):=show(t σ).bind _=_ from Zag h rfl
theorem ZiE{t:Sg->Option Bool}{b:Sg->Option (Fl×Sg)}{n:Nat}{r:Option (Fl×Sg)}(h:t σ=some true)(hb:b σ=some (.next,σ'))(k:Zbk t b n σ'=r):Zbk t b (n+1) σ=r:=show(t σ).bind _=_ from Zag h (show(b σ).bind _=_ from Zag hb k)
theorem Zr9{t:Sg->Option Bool}{b:Sg->Option (Fl×Sg)}{n:Nat}(h:t σ=some true)(hb:b σ=some (.brk,σ')):Zbk t b (n+1) σ=some (.next,σ'):=show(t σ).bind _=_ from Zag h (show(b σ).bind _=_ from Zag hb rfl)
theorem Zj8{i:Nat}{b:Sg->Option (Fl×Sg)}{d:D}{ds:List D}{r:Option (Fl×Sg)}(hb:b (σ.set i (.fz d))=some (.next,σ'))(k:forL i b ds σ'=r):forL i b (d::ds) σ=r:=show(b _).bind _=_ from Zag hb k
theorem ZaL{x xs:X}{r:Option Bool}(h:tv Γ σ x=some true)(k:Zkj Γ σ xs=r):Zkj Γ σ (.cons x xs)=r:=show(tv Γ σ x).bind _=_ from Zag h k
theorem Zaw{x xs:X}(h:tv Γ σ x=some false):Zkj Γ σ (.cons x xs)=some false:=show(tv Γ σ x).bind _=_ from Zag h rfl
theorem Zjf{x xs:X}{r:Option Bool}(h:tv Γ σ x=some false)(k:Zru Γ σ xs=r):Zru Γ σ (.cons x xs)=r:=show(tv Γ σ x).bind _=_ from Zag h k
theorem ZeF{x xs:X}(h:tv Γ σ x=some true):Zru Γ σ (.cons x xs)=some true:=show(tv Γ σ x).bind _=_ from Zag h rfl
theorem Zaj{op:Cop}{l r:X}{p q:D}{c:Bool}(hl:ev Γ σ l=some p)(hr:ev Γ σ r=some q)(h:cop op p q=some c):tv Γ σ (.tcmp op l r)=some c:=show(ev Γ σ l).bind _=_ from Zag hl (Zag hr h)
theorem ZcA{x:X}{d:D}{b:Bool}(h:ev Γ σ x=some d)(ht:tru d=some b):tv Γ σ (.tval x)=some b:=show(ev Γ σ x).bind _=_ from Zag h ht
theorem Zfj{x:X}{b:Bool}(h:tv Γ σ x=some b):tv Γ σ (.tnot x)=some (!b):=show(tv Γ σ x).map _=_ from ZgR h rfl
theorem ZaF{op:Bop}{l r:X}{p q:D}{o:Option D}(hl:ev Γ σ l=some p)(hr:ev Γ σ r=some q)(h:bop op p q=o):ev Γ σ (.bin op l r)=o:=show(ev Γ σ l).bind _=_ from Zag hl (Zag hr h)
theorem ZaK{l r:X}{p q:D}{o:Option D}(hl:ev Γ σ l=some p)(hr:ev Γ σ r=some q)(h:ZmQ p q=o):ev Γ σ (.idx l r)=o:=show(ev Γ σ l).bind _=_ from Zag hl (Zag hr h)
theorem Zcu{l x y:X}{p q r:D}{o:Option D}(hl:ev Γ σ l=some p)(hx:ev Γ σ x=some q)(hy:ev Γ σ y=some r)(h:ZuK p q r=o):ev Γ σ (.slc l x y)=o:=show(ev Γ σ l).bind _=_ from Zag hl (Zag hx (Zag hy h))
theorem Zbe{f:Nat}{xs:X}{ds:List D}{o:Option D}(h:evL Γ σ xs=some ds)(k:Γ f ds=o):ev Γ σ (.call f xs)=o:=show(evL Γ σ xs).bind _=_ from Zag h k
theorem Zcc{x:X}{d:D}(h:ev Γ σ x=some d):evL Γ σ (.cons x .nil)=some [d]:=show(ev Γ σ x).bind _=_ from Zag h rfl
theorem ZaP{x xs:X}{d:D}{ds:List D}(h:ev Γ σ x=some d)(k:evL Γ σ xs=some ds):evL Γ σ (.cons x xs)=some (d::ds):=show(ev Γ σ x).bind _=_ from Zag h (ZgR k rfl)
theorem ZiS{xs:X}{ds:List D}(h:evL Γ σ xs=some ds)(hl:ds.length<=16777216):ev Γ σ (.tuple xs)=some (.tuple ds):=show(evL Γ σ xs).bind _=_ from Zag h (if_pos hl)
theorem ZnJ{xs:X}{ds:List D}(h:evL Γ σ xs=some ds)(hl:ds.length<=16777216):ev Γ σ (.list xs)=some (.list ds):=show(evL Γ σ xs).bind _=_ from Zag h (if_pos hl)
theorem Zl7{is:List Nat}{x:X}{ds:List D}(h:ev Γ σ x=some (.tuple ds))(hl:ds.length=is.length):ex Γ N (.unp is x) σ=some (.next,ZfZ σ is ds):=show(ev Γ σ x).bind _=_ from Zag h (ZgR (if_pos hl) rfl)
theorem Zm9{t:X}(h:tv Γ σ t=some true):ex Γ N (.asr t) σ=some (.next,σ):=show(tv Γ σ t).bind _=_ from Zag h rfl
theorem Zfo{t a b:X}{o:Option D}(h:tv Γ σ t=some true)(k:ev Γ σ a=o):ev Γ σ (.ite t a b)=o:=show(tv Γ σ t).bind _=_ from Zag h k
theorem ZgM{t a b:X}{o:Option D}(h:tv Γ σ t=some false)(k:ev Γ σ b=o):ev Γ σ (.ite t a b)=o:=show(tv Γ σ t).bind _=_ from Zag h k
end
theorem Zgz(n i:Nat):Zdy n (i:Int)=min i n:=if_neg (Int.not_lt.mpr (Int.natCast_nonneg i))
theorem ZjB{α:Type}(l:List α)(n i:Nat)(h:l.length<=n):l.drop (min i n)=l.drop i:=by
 by_cases hi:i<=n
 ·erw[rwl (Nat.min_eq_left hi ..) ?_]
 ·have hi:=Nat.le_of_not_le hi
  erw[rwl (Nat.min_eq_right hi ..) (rwl (List.drop_of_length_le h ..) (rwl (List.drop_of_length_le (Nat.le_trans h hi) ..) ?_))]
theorem ZgY{α:Type}(l:List α)(i j:Nat):slice l (some (i:Int)) (some (j:Int))=(l.take j).drop i:=by
 show(l.take (Zdy l.length j)).drop (Zdy l.length i)=_
 erw[rwl (Zgz ..) (rwl (Zgz ..) (rwl (ZjB _ _ _ (List.length_take_le' ..) ..) (rwr (List.take_eq_take_min ..) ?_)))]
theorem ZdZ{α:Type}(l:List α)(j:Nat):slice l none (some (j:Int))=l.take j:=ZgY l 0 j
theorem Zce{α:Type}(l:List α)(i:Nat):slice l (some (i:Int)) none=l.drop i:=by
 show(l.take l.length).drop (Zdy l.length i)=_
 erw[rwl (Zgz ..) (rwl (List.take_length ..) (rwl (ZjB _ _ _ (Nat.le_refl _) ..) ?_))]
theorem ZbQ{α:Type}(p r:List α)(i j:Nat):slice (p++r) (some ((p.length+i:Nat):Int)) (some ((p.length+j:Nat):Int))=(r.take j).drop i:=by
 erw[rwl (ZgY ..) (rwl (List.take_length_add_append ..) (rwl (List.drop_length_add_append ..) ?_))]
theorem Zk5{i:Nat}(h:i<=1000000000):ZdI (i:Int)=true:=decide_eq_true ⟨by lia,by lia⟩
theorem Zl9(n i:Nat)(h:i < n):idxOf n (i:Int)=some i:=(if_pos (Int.natCast_nonneg i)).trans (if_pos (Int.ofNat_lt.mpr h))
theorem Zny(n:Nat)(h:0 < n):idxOf n (-1)=some (n - 1):=by
 have q:=(ZiH h rfl).1
 unfold idxOf
 rw[if_neg (by decide),q,if_pos (Int.natCast_nonneg _)]
 rfl
theorem ZdG{α:Type}{l:List α}{i:Nat}{c:α}(h:l[i]? = some c):i < l.length:=(List.getElem?_eq_some_iff.mp h).1
theorem Zlr{β:Type}{n i:Nat}{f:Nat->Option β}{o:Option β}(h:i < n)(hs:i<=1000000000)(k:f i=o):(if ZdI (i:Int) then(idxOf n (i:Int)).bind f else none)=o:=(if_pos (Zk5 hs)).trans (Zag (Zl9 _ _ h) k)
theorem ZaW{l:List Nat}{i c:Nat}(h:l[i]? = some c)(hs:i<=1000000000):ZmQ (.str l) (.int (i:Int))=some (.str [c]):=Zlr (ZdG h) hs (ZgR h rfl)
theorem ZaM{l:List D}{i:Nat}{d:D}(h:l[i]? = some d)(hs:i<=1000000000):ZmQ (.list l) (.int (i:Int))=some d:=Zlr (ZdG h) hs h
theorem Zmy{l:List D}{i:Nat}{d:D}(h:l[i]? = some d)(hs:i<=1000000000):ZmQ (.tuple l) (.int (i:Int))=some d:=Zlr (ZdG h) hs h
theorem ZeN{l:List D}{d:D}(h:l.getLast? = some d):ZmQ (.list l) (.int (-1))=some d:=Zi2 h
theorem Zhl{l:List Nat}{c:Nat}(h:l.getLast? = some c):ZmQ (.str l) (.int (-1))=some (.str [c]):=by
 show(if ZdI (-1)=true then(idxOf l.length (-1)).bind λk=>l[k]?.map λc=>D.str [c] else none)=some (.str [c])
 rw[if_pos (by decide)]
 exact Zag (Zny _ (ZiP h)) (ZgR (List.getLast?_eq_getElem?.symm.trans h) rfl)
theorem ZbC{α:Type}(p r:List α)(i:Nat):(p++r)[p.length+i]? = r[i]?:=by erw[rwl (List.getElem?_append_right (Nat.le_add_right _ _) ..) (rwl (Nat.add_sub_cancel_left ..) ?_)]
theorem lt1(a b:Nat):ltL [a] [b]=decide (a < b):=by
 show(if a < b then true else if a=b then false else false)=_
 by_cases h:a < b
 ·erw[rwl (if_pos h ..) (rwl (decide_eq_true h ..) ?_)]
 ·erw[rwl (if_neg h ..) (rwl (decide_eq_false h ..) (rwl (ite_self ..) ?_))]
theorem le1(a b:Nat):(!ltL [b] [a])=decide (a<=b):=by
 erw[rwl (lt1 ..) (rwr (decide_not ..) ?_)]
 exact decide_eq_decide.mpr Nat.not_lt
noncomputable def ZgZ(c:Nat):Bool:=(decide (48<=c)&&decide (c<=57))||(decide (65<=c)&&decide (c<=90))||(decide (97<=c)&&decide (c<=122))
theorem ZeO{Γ:ZaC}{σ:Sg}{x y z:X}{a b c:Nat}(hx:ev Γ σ x=some (.str [a]))(hy:ev Γ σ y=some (.str [b]))(hz:ev Γ σ z=some (.str [c])):ev Γ σ (.cmp2 .le .le x y z)=some (.bool (decide (a<=b)&&decide (b<=c))):=by
 show(ev Γ σ x).bind _=_
 refine Zag hx (Zag hy (Zag (congrArg some (le1 a b)) ?_))
 by_cases h:a<=b
 ·erw[rwl (decide_eq_true h ..) ?_]
  exact Zag hz (congrArg (λt=>some (D.bool t)) (le1 b c))
 ·erw[rwl (decide_eq_false h ..) ?_];rfl
theorem ZcX{Γ:ZaC}{σ:Sg}{x y ys:X}{a:Bool}{o:Option D}(h:ev Γ σ x=some (.bool a))(k:a=false->Zmr Γ σ (.cons y ys)=o)(k':a=true->o=some (.bool true)):Zmr Γ σ (.cons x (.cons y ys))=o:=by
 show(ev Γ σ x).bind _=_
 refine Zag h ?_
 cases a with
 | true=>exact(k' rfl).symm
 | false=>exact k rfl
theorem ZeL{Γ:ZaC}{σ:Sg}{x:X}{d:D}(h:ev Γ σ x=some d):Zmr Γ σ (.cons x .nil)=some d:=show(ev Γ σ x).bind _=_ from Zag h rfl
theorem Zc5{Γ:ZaC}{σ:Sg}{x y ys:X}{a:Bool}{o:Option D}(h:ev Γ σ x=some (.bool a))(k:a=true->Zfi Γ σ (.cons y ys)=o)(k':a=false->o=some (.bool false)):Zfi Γ σ (.cons x (.cons y ys))=o:=by
 show(ev Γ σ x).bind _=_
 refine Zag h ?_
 cases a with
 | false=>exact(k' rfl).symm
 | true=>exact k rfl
theorem ZdX{Γ:ZaC}{σ:Sg}{x:X}{d:D}(h:ev Γ σ x=some d):Zfi Γ σ (.cons x .nil)=some d:=show(ev Γ σ x).bind _=_ from Zag h rfl
theorem ZmK(c:Nat):ZrH [.str [c]]=some (.bool (ZgZ c)):=by
 refine Zbb rfl ⟨[.fz (.str [c])],Za7 (ZbB ?_)⟩
 show Zmr _ _ _=_
 refine ZcX (ZeO rfl rfl rfl) (λh1=>ZcX (ZeO rfl rfl rfl) (λh2=>ZeL ((ZeO rfl rfl rfl).trans ?_)) λh2=>?_) λh1=>?_
 ·unfold ZgZ;erw[rwl (h1 ..) (rwl (h2 ..) ?_)];rfl
 ·unfold ZgZ;erw[rwl (h1 ..) (rwl (h2 ..) ?_)];rfl
 ·unfold ZgZ;erw[rwl (h1 ..) ?_];rfl
end
section
set_option backward.match.sparseCases false
theorem ZgA{f:D->Option (Option D)}{g:D->D}:∀{ds:List D},(∀d∈ds,f d=some (some (g d)))->ZbX f ds=some (ds.map g)
 | [],_=>rfl
 | d::ds,h=>by
  erw[rwl (ZuW ..) (rwl (h d List.mem_cons_self ..) (rwl (ZgA λd hd=>h d (List.mem_cons_of_mem _ hd) ..) ?_))]
  rfl
theorem Zft{f:D->Option (Option D)}{p:D->Bool}{g:D->D}:∀{ds:List D},(∀d∈ds,f d=some (if p d then some (g d) else none))->ZbX f ds=some ((ds.filter p).map g)
 | [],_=>rfl
 | d::ds,h=>by
  erw[rwl (ZuW ..) (rwl (h d List.mem_cons_self ..) (rwl (Zft λd hd=>h d (List.mem_cons_of_mem _ hd) ..) ?_))]
  cases q:p d with
  | true=>erw[rwl (List.filter_cons_of_pos q ..) ?_];rfl
  | false=>rw[List.filter_cons_of_neg (by erw[rwl (q ..) ?_];decide)];rfl
theorem ZcO{l:List D}(h:l.length<=16777216):okL l=some (.list l):=if_pos h
theorem Zcq{l:List Nat}(h:l.length<=16777216):okS l=some (.str l):=if_pos h
theorem Zc3{l:List D}(h:l.length<=16777216):itemsOf (.list l)=some l:=if_pos h
section
variable {Γ:ZaC}{σ:Sg}
theorem ZhU{op:Cop}{l r:X}{p q:D}{c:Bool}(hl:ev Γ σ l=some p)(hr:ev Γ σ r=some q)(h:cop op p q=some c):ev Γ σ (.cmp op l r)=some (.bool c):=show(ev Γ σ l).bind _=_ from Zag hl (Zag hr (ZgR h rfl))
theorem Zdo{b:Bfn}{x:X}{p:D}{o:Option D}(h:ev Γ σ x=some p)(k:bfn b p=o):ev Γ σ (.bfn b x)=o:=show(ev Γ σ x).bind _=_ from Zag h k
theorem ZuO{x:X}{p:D}{b:Bool}(h:ev Γ σ x=some p)(k:tru p=some b):ev Γ σ (.not x)=some (.bool (!b)):=show(ev Γ σ x).bind _=_ from Zag h (ZgR k rfl)
theorem Zf1{fr:List Nat}{t:Nat}{e it:X}{ds:List D}{g:D->D}(hi:ev Γ σ it=some (.list ds))(hl:ds.length<=16777216)(h:∀d∈ds,ev Γ ((mask fr σ).set t (.fz d)) e=some (g d)):ev Γ σ (.comp fr t e it (.const .none))=some (.list (ds.map g)):=
 show((ev Γ σ it).bind itemsOf).bind _=_ from Zag (Zag hi (Zc3 hl)) (Zag (ZgA λd hd=>ZgR (h d hd) rfl) (ZcO (Nat.le_trans (Nat.le_of_eq (List.length_map ..)) hl)))
theorem ZmF{fr:List Nat}{t:Nat}{e it c:X}{ds:List D}{p:D->Bool}{g:D->D}(hc:c.Za8=false)(hi:ev Γ σ it=some (.list ds))(hl:ds.length<=16777216)(ht:∀d∈ds,tv Γ ((mask fr σ).set t (.fz d)) c=some (p d))(h:∀d∈ds,p d=true->ev Γ ((mask fr σ).set t (.fz d)) e=some (g d)) :
  ev Γ σ (.comp fr t e it c)=some (.list ((ds.filter p).map g)):=by
 show((ev Γ σ it).bind itemsOf).bind _=_
 refine Zag (Zag hi (Zc3 hl)) (Zag (Zft (p:=p) (g:=g) λd hd=>?_) (ZcO (Nat.le_trans (Nat.le_of_eq (List.length_map ..)) (Nat.le_trans (List.length_filter_le _ _) hl))))
 erw[rwl (hc ..) ?_]
 refine Zag (ht d hd) ?_
 cases q:p d with
 | true=>exact ZgR (h d hd q) rfl
 | false=>rfl
end
theorem Ze8{α:Type}(f:α->Bool):∀l:List α,ZdE (l.map λx=>.bool (f x))=some (l.map f)
 | []=>rfl
 | x::l=>by erw[rwl (List.map_cons ..) (rwl (ZvP ..) (rwl (Ze8 f l ..) ?_))];rfl
theorem strs_map(l:List (List Nat)):strs? (l.map .str)=some l:=by
 induction l with
 | nil=>rfl
 | cons x l ih=>erw[rwl (List.map_cons ..) (rwl (str1 ..) (rwl (ih ..) ?_))];rfl
noncomputable abbrev Item:=Bool×List (List Nat)
noncomputable def ZaV(it:Item):D:=.tuple [.bool it.1,.list (it.2.map .str)]
noncomputable def Zdm(c:Nat)(m:List Nat):Bool:=decide (m.headD 0<=c)&&decide (c<=m.getLastD 0)
noncomputable def Zgy(it:Item)(c:Nat):Bool:=(it.2.any (Zdm c)) != it.1
noncomputable abbrev Zh3(it:Item):Prop:=(∀m∈it.2,m≠[])∧(it.2.length<=1000)
theorem Zh3.ne{it:Item}(slf:Zh3 it):∀m∈it.2,m≠[]:=slf.1
theorem Zh3.len{it:Item}(slf:Zh3 it):it.2.length<=1000:=slf.2
noncomputable def Zsb(c:Nat):D->D
 | .str m=>.bool (Zdm c m)
 | _=>.none
theorem Zmz{it:Item}(ok:Zh3 it)(c:Nat):Zsq [ZaV it,.str [c]]=some (.bool (Zgy it c)):=by
 obtain⟨bar,ms⟩:=it
 refine Zbb rfl ⟨frz [.fz (ZaV (bar,ms)),.fz (.str [c]),.fz (.bool bar),.fz (.list (ms.map .str)),.un],Zaa (σ':=[.fz (ZaV (bar,ms)),.fz (.str [c]),.fz (.bool bar),.fz (.list (ms.map .str)),.un]) rfl (Za7 (ZbB ?_))⟩
 have h1:ev noΓ (frz [.fz (ZaV (bar,ms)),.fz (.str [c]),.fz (.bool bar),.fz (.list (ms.map .str)),.un]) (.comp [1] 4 (.cmp2 .le .le (.idx (.var 4) (.const (.int 0))) (.var 1) (.idx (.var 4) (.const (.int (-1))))) (.var 3) (.const .none))=some (.list ((ms.map .str).map (Zsb c))):=by
  refine Zf1 (ds:=ms.map .str) rfl (by simp;have:=ok.len;simp at this;lia) λd hd=>?_
  obtain⟨m,hm,rfl⟩:=List.mem_map.mp hd
  have hne:=ok.ne m hm
  cases m with
  | nil=>exact absurd rfl hne
  | cons x r=>
   obtain⟨z,hz⟩:∃z,(x::r).getLast? = some z:=⟨_,List.getLast?_eq_some_getLast (by simp)⟩
   refine(ZeO (a:=x) (b:=c) (c:=z) (ZaK rfl rfl (ZaW (i:=0) rfl (by lia))) rfl (ZaK rfl rfl (Zhl hz))).trans ?_
   have e:(x::r).getLastD 0=z:=by rw[List.getLastD_eq_getLast?,hz];rfl
   show _=some (D.bool (decide ((x::r).headD 0<=c)&&decide (c<=(x::r).getLastD 0)))
   rw[e];rfl
 have e1:(ms.map D.str).map (Zsb c)=ms.map λm=>D.bool (Zdm c m):=by rw[List.map_map];rfl
 rw[e1] at h1
 have e2:(ms.map (Zdm c)).contains true=ms.any (Zdm c):=by
  rw[Bool.eq_iff_iff,List.contains_iff_mem,List.any_eq_true,List.mem_map]
 have h2:inD (.bool true) (.list (ms.map λm=>D.bool (Zdm c m)))=some (ms.any (Zdm c)):=by
  show(ZdE (ms.map λm=>D.bool (Zdm c m))).map (·.contains true)=_
  rw[Ze8,Option.map_some,e2]
 refine ZhU (q:=.bool bar) (ZhU rfl h1 h2) rfl ?_
 show some (!(ms.any (Zdm c)==bar))=_
 unfold Zgy
 cases ms.any (Zdm c)<;>cases bar<;>rfl
end
section
noncomputable def setMembers:List Nat->List (List Nat)
 | a::c::x::r=>if c=45 then(if a<=x then [a,45,x]::setMembers r else setMembers r) else [a]::setMembers (c::x::r)
 | [a,c]=>[[a],[c]]
 | [a]=>[[a]]
 | []=>[]
theorem ZkF:setMembers []=[]:=rfl
theorem ZkE(a:Nat):setMembers [a]=[[a]]:=rfl
theorem ZkH(a c:Nat):setMembers [a,c]=[[a],[c]]:=rfl
theorem ZgS(a c x:Nat)(r:List Nat):setMembers (a::c::x::r)=if c=45 then(if a<=x then [a,45,x]::setMembers r else setMembers r) else [a]::setMembers (c::x::r):=rfl
noncomputable def ZbA(bar:Bool)(ms:List (List Nat)):Item:=match ms with
 | (33::t)::r=>if bar then(true,(33::t)::r) else(true,t.map (λc=>[c])++r)
 | ms=>(bar,ms)
noncomputable def Zh4(b:List Nat):Item:=ZbA (b.head?==some 33) (setMembers (if b.head?==some 33 then b.tail else b))
theorem Zfp(ms:List (List Nat)):ZbA true ms=(true,ms):=by
 unfold ZbA
 split<;>rfl
theorem Zbp:∀(b:List Nat),∀m∈setMembers b,m≠[]
 | [],m,h=>by simp[ZkF,ZkE,ZkH,ZgS] at h
 | [a],m,h=>by simp[ZkF,ZkE,ZkH,ZgS] at h;simp[h]
 | [a,c],m,h=>by simp[ZkF,ZkE,ZkH,ZgS] at h;rcases h with rfl | rfl<;>simp
 | a::c::x::r,m,h=>by
  rw[ZgS] at h
  split at h
  ·split at h
   ·rcases List.mem_cons.mp h with rfl | h
    ·simp
    ·exact Zbp r m h
   ·exact Zbp r m h
  ·rcases List.mem_cons.mp h with rfl | h
   ·simp
   ·exact Zbp (c::x::r) m h
theorem Zca:∀(b:List Nat),(setMembers b).length<=b.length
 | []=>by simp[ZkF,ZkE,ZkH,ZgS]
 | [a]=>by simp[ZkF,ZkE,ZkH,ZgS]
 | [a,c]=>by simp[ZkF,ZkE,ZkH,ZgS]
 | a::c::x::r=>by
  erw[rwl (ZgS ..) ?_]
  have h1:=Zca r
  have h2:=Zca (c::x::r)
  split
  ·split
   ·simp;lia
   ·simp;lia
  ·simp at h2 ⊢;lia
noncomputable def ZiV:X:=match Zc8 with
 | .seq _ (.seq _ (.seq _ (.seq (.whl t _) _)))=>t
 | _=>.nil
noncomputable def Ziu:S:=match Zc8 with
 | .seq _ (.seq _ (.seq _ (.seq (.whl _ b) _)))=>b
 | _=>.skip
noncomputable def stS(b:List Nat)(bar:Bool)(i:Nat)(ms:List D):Sg:=[.fz (.str b),.fz (.bool bar),.fz (.int (i:Int)),.own ms]
section
variable {b:List Nat}{bar:Bool}{ms:List D}
theorem ZpB(hb:b.length=i):tv noΓ (stS b bar i ms) ZiV=some false:=by
 refine Zaj (p:=.int (i:Int)) (q:=.int (b.length:Int)) rfl rfl ?_
 show some (decide ((i:Int) < (b.length:Int)))=_
 erw[rwl (hb ..) ?_];simp
theorem Zji{i:Nat}(hb:i < b.length):tv noΓ (stS b bar i ms) ZiV=some true:=by
 refine Zaj (p:=.int (i:Int)) (q:=.int (b.length:Int)) rfl rfl ?_
 show some (decide ((i:Int) < (b.length:Int)))=_
 rw[decide_eq_true (by lia)]
theorem set_range{pre r:List Nat}{a x:Nat}(hb:b=pre++a::45::x::r)(hl:b.length<=1000)(hm:ms.length<=1000) :
  ex noΓ fuel Ziu (stS b bar pre.length ms)=some (.next,stS b bar (pre.length+3) (if a<=x then ms++[.str [a,45,x]] else ms)):=by
 have hlen:b.length=pre.length+(r.length+3):=by erw[rwl (hb ..) ?_];simp
 refine Zaf (x_t ?_ ?_)
 ·refine ZaL (Zaj (p:=.str [45]) (q:=.str [45]) (Zcu (p:=.str b) (q:=.int ((pre.length+1:Nat):Int)) (r:=.int ((pre.length+2:Nat):Int)) rfl rfl rfl ?_) rfl rfl) (ZaL (Zaj (p:=.int ((pre.length+2:Nat):Int)) (q:=.int (b.length:Int)) rfl rfl ?_) rfl)
  ·show some (D.str (slice b _ _))=_
   erw[rwl (hb ..) (rwl (ZbQ ..) ?_)];rfl
  ·show some (decide _)=_
   rw[decide_eq_true (by lia)]
 ·have e1:ev noΓ (stS b bar pre.length ms) (.idx (.var 0) (.var 2))=some (.str [a]):=by
   refine ZaK (p:=.str b) (q:=.int (pre.length:Int)) rfl rfl (ZaW ?_ (by lia))
   erw[rwl (hb ..) ?_];exact ZbC pre _ 0
  have e2:ev noΓ (stS b bar pre.length ms) (.idx (.var 0) (.bin .add (.var 2) (.const (.int 2))))=some (.str [x]):=by
   refine ZaK (p:=.str b) (q:=.int ((pre.length+2:Nat):Int)) rfl rfl (ZaW ?_ (by lia))
   erw[rwl (hb ..) ?_];exact ZbC pre _ 2
  have h3:(!ltL [x] [a])=decide (a<=x):=by erw[rwl (lt1 ..) ?_];by_cases q:x < a<;>simp[q]<;>lia
  by_cases h:a<=x
  ·erw[rwl (if_pos h ..) ?_]
   refine Zaa (σ':=stS b bar pre.length (ms++[.str [a,45,x]])) (x_t (Zaj e1 e2 ?_) (Zaf (Zef (ds:=ms) (d:=.str [a,45,x]) rfl (Zcu (p:=.str b) (q:=.int (pre.length:Int)) (r:=.int ((pre.length+3:Nat):Int)) rfl rfl rfl ?_) (by lia)))) (Zaf (ZcT (p:=.int (pre.length:Int)) (q:=.int 3) rfl rfl rfl))
   ·show some (!ltL [x] [a])=_
    erw[rwl (h3 ..) (rwl (decide_eq_true h ..) ?_)]
   ·show some (D.str (slice b _ _))=_
    have:=ZbQ pre (a::45::x::r) 0 3
    erw[rwl (hb ..) ?_]
    exact congrArg (λz=>some (D.str z)) this
  ·erw[rwl (if_neg h ..) ?_]
   refine Zaa (σ':=stS b bar pre.length ms) (x_f (Zaj e1 e2 ?_) rfl) (Zaf (ZcT (p:=.int (pre.length:Int)) (q:=.int 3) rfl rfl rfl))
   show some (!ltL [x] [a])=_
   erw[rwl (h3 ..) (rwl (decide_eq_false h ..) ?_)]
theorem Zee{pre r:List Nat}{a:Nat}(hb:b=pre++a::r)(hr:∀x r',r≠45::x::r')(hl:b.length<=1000)(hm:ms.length<=1000) :
  ex noΓ fuel Ziu (stS b bar pre.length ms)=some (.next,stS b bar (pre.length+1) (ms++[.str [a]])):=by
 have hlen:b.length=pre.length+(r.length+1):=by rw[hb];simp
 refine Zaf (x_f ?_ ?_)
 ·have e1:ev noΓ (stS b bar pre.length ms) (.slc (.var 0) (.bin .add (.var 2) (.const (.int 1))) (.bin .add (.var 2) (.const (.int 2))))=some (.str (r.take 1)):=by
   refine Zcu (p:=.str b) (q:=.int ((pre.length+1:Nat):Int)) (r:=.int ((pre.length+2:Nat):Int)) rfl rfl rfl ?_
   show some (D.str (slice b _ _))=_
   rw[hb,ZbQ];rfl
  by_cases h:r.take 1=[45]
  ·refine ZaL (Zaj e1 (q:=.str [45]) rfl (by rw[h];rfl)) (Zaw (Zaj (p:=.int ((pre.length+2:Nat):Int)) (q:=.int (b.length:Int)) rfl rfl ?_))
   show some (decide _)=_
   rw[decide_eq_false]
   intro q
   match r,h,hr with
   | [],h,_=>cases h
   | [c],h,_=>simp at hlen;lia
   | c::x::r',h,hr=>simp at h;exact hr x r' (by rw[h])
  ·refine Zaw (Zaj e1 (q:=.str [45]) rfl ?_)
   show some (r.take 1==[45])=_
   rw[beq_eq_false_iff_ne.mpr h]
 ·refine Zaa (σ':=stS b bar pre.length (ms++[.str [a]])) (Zef (ds:=ms) (d:=.str [a]) rfl (ZaK (p:=.str b) (q:=.int (pre.length:Int)) rfl rfl (ZaW ?_ (by lia))) (by lia)) (Zaf (ZcT (p:=.int (pre.length:Int)) (q:=.int 1) rfl rfl rfl))
  rw[hb];exact ZbC pre _ 0
theorem Zc2(hl:b.length<=1000):∀(n:Nat) (r pre:List Nat) (ms:List D) (N:Nat),r.length<=n->b=pre++r->ms.length+r.length<=1000->n < N->
  Zbk (λσ=>tv noΓ σ ZiV) (ex noΓ fuel Ziu) N (stS b bar pre.length ms)=some (.next,stS b bar b.length (ms++(setMembers r).map .str))
 | n,[],pre,ms,N+1,_,hb,_,_=>by
  have:b.length=pre.length:=by erw[rwl (hb ..) ?_];simp
  erw[rwl (ZcS (ZpB this) ..) (rwl (this ..) ?_)]
  simp[ZkF,ZkE,ZkH,ZgS]
 | n+1,[a],pre,ms,N+1,hn,hb,hm,hN=>by
  simp at hm
  refine ZiE (Zji (by erw[rwl (hb ..) ?_];simp)) (Zee hb (λ_ _=>nofun) hl (by lia)) ?_
  have:=Zc2 hl n [] (pre++[a]) (ms++[.str [a]]) N (by simp) (by erw[rwl (hb ..) ?_];simp) (by simp;lia) (by lia)
  rw[List.length_append] at this
  simpa[ZkF,ZkE,ZkH,ZgS] using this
 | n+1,[a,c],pre,ms,N+1,hn,hb,hm,hN=>by
  simp at hm hn
  refine ZiE (Zji (by erw[rwl (hb ..) ?_];simp)) (Zee hb (λ_ _=>by simp) hl (by lia)) ?_
  have:=Zc2 hl n [c] (pre++[a]) (ms++[.str [a]]) N (by simpa using hn) (by erw[rwl (hb ..) ?_];simp) (by simp;lia) (by lia)
  rw[List.length_append] at this
  simpa[ZkF,ZkE,ZkH,ZgS] using this
 | n+1,a::c::x::r,pre,ms,N+1,hn,hb,hm,hN=>by
  simp at hm hn
  by_cases hc:c=45
  ·subst hc
   refine ZiE (Zji (by erw[rwl (hb ..) ?_];simp)) (set_range hb hl (by lia)) ?_
   have:=Zc2 hl n r (pre++[a,45,x]) (if a<=x then ms++[.str [a,45,x]] else ms) N (by lia) (by erw[rwl (hb ..) ?_];simp) (by split<;>(try simp)<;>lia) (by lia)
   rw[List.length_append] at this
   erw[rwl (ZgS ..) (rwl (if_pos rfl ..) ?_)]
   by_cases h:a<=x
   ·rw[if_pos h] at this ⊢
    erw[rwl (if_pos h ..) ?_]
    simpa using this
   ·rw[if_neg h] at this ⊢
    erw[rwl (if_neg h ..) ?_]
    simpa using this
  ·refine ZiE (Zji (by erw[rwl (hb ..) ?_];simp)) (Zee hb (λy r' q=>hc (by cases q;rfl)) hl (by lia)) ?_
   have:=Zc2 hl n (c::x::r) (pre++[a]) (ms++[.str [a]]) N (by simp;lia) (by erw[rwl (hb ..) ?_];simp) (by simp;lia) (by lia)
   rw[List.length_append] at this
   erw[rwl (ZgS ..) (rwl (if_neg hc ..) ?_)]
   simpa using this
 | 0,_::_,_,_,_,hn,_,_,_=>by simp at hn
 | n,_,_,_,0,_,_,_,hN=>absurd hN (Nat.not_lt_zero _)
end
theorem ZbD:∀(b:List Nat),∀m∈setMembers b,m.length<=3
 | [],m,h=>by simp[ZkF,ZkE,ZkH,ZgS] at h
 | [a],m,h=>by simp[ZkF,ZkE,ZkH,ZgS] at h;simp[h]
 | [a,c],m,h=>by simp[ZkF,ZkE,ZkH,ZgS] at h;rcases h with rfl | rfl<;>simp
 | a::c::x::r,m,h=>by
  rw[ZgS] at h
  split at h
  ·split at h
   ·rcases List.mem_cons.mp h with rfl | h
    ·simp
    ·exact ZbD r m h
   ·exact ZbD r m h
  ·rcases List.mem_cons.mp h with rfl | h
   ·simp
   ·exact ZbD (c::x::r) m h
set_option tactic.hygienic true in
theorem Zma{bar:Bool}{ms:List (List Nat)}(hn:∀m∈ms,m≠[])(h3:∀m∈ms,m.length<=3)(hl:ms.length<=900):Zh3 (ZbA bar ms):=by
 unfold ZbA
 split
 ·rename_i t r
  split
  ·exact⟨hn,Nat.le_trans hl (by decide)⟩
  ·refine⟨λm hm=>?_,?_⟩
   ·rcases List.mem_append.mp hm with hm | hm
    ·obtain⟨c,_,rfl⟩:=List.mem_map.mp hm;simp
    ·exact hn m (List.mem_cons_of_mem _ hm)
   ·have:=h3 _ List.mem_cons_self
    simp at this hl ⊢
    lia
 ·exact⟨hn,Nat.le_trans hl (by decide)⟩
theorem Zjy{b:List Nat}(hl:b.length<=900):(setMembers (if b.head?==some 33 then b.tail else b)).length<=900:=by
 refine Nat.le_trans (Zca _) ?_
 split
 ·simp;lia
 ·exact hl
theorem Zpr{b:List Nat}(hl:b.length<=900):Zh3 (Zh4 b):=Zma (Zbp _) (ZbD _) (Zjy hl)
noncomputable def Zpc:S:=match Zc8 with
 | .seq _ (.seq _ (.seq _ (.seq _ f)))=>f
 | _=>.skip
set_option tactic.hygienic true in
theorem Zq9{b:List Nat}{bar:Bool}{i:Nat}{ms:List (List Nat)}(hn:∀m∈ms,m≠[])(h3:∀m∈ms,m.length<=3)(hl:ms.length<=900) :
  ∃σ,ex noΓ fuel Zpc (stS b bar i (ms.map .str))=some (.ret (ZaV (ZbA bar ms)),σ):=by
 have stop:tv noΓ (stS b bar i (ms.map .str)) (.tand (.cons (.tnot (.tval (.var 1))) (.cons (.tcmp .ne (.tvar 3) (.list .nil)) (.cons (.tcmp .eq (.idx (.idx (.tvar 3) (.const (.int 0))) (.const (.int 0))) (.const (.str [33]))) .nil))))=some false->ZbA bar ms=(bar,ms)->∃σ,ex noΓ fuel Zpc (stS b bar i (ms.map .str))=some (.ret (ZaV (ZbA bar ms)),σ):=λh1 h2=>by
  erw[rwl (h2 ..) ?_]
  exact⟨_,Zaa (x_f h1 rfl) (Za7 (ZbB rfl))⟩
 cases bar with
 | true=>exact stop (Zaw (Zfj (ZcA (b:=true) rfl rfl))) (Zfp ms)
 | false=>
  have t1:tv noΓ (stS b false i (ms.map .str)) (.tnot (.tval (.var 1)))=some true:=Zfj (ZcA (b:=false) rfl rfl)
  cases ms with
  | nil=>exact stop (ZaL t1 (Zaw (Zaj rfl rfl rfl))) rfl
  | cons m r=>
   have t2:tv noΓ (stS b false i ((m::r).map .str)) (.tcmp .ne (.tvar 3) (.list .nil))=some true:=Zaj rfl rfl rfl
   cases m with
   | nil=>exact absurd rfl (hn _ List.mem_cons_self)
   | cons c t=>
    have e1:ev noΓ (stS b false i (((c::t)::r).map .str)) (.idx (.tvar 3) (.const (.int 0)))=some (.str (c::t)):=ZaK rfl rfl (ZaM (i:=0) rfl (by lia))
    have e2:ev noΓ (stS b false i (((c::t)::r).map .str)) (.idx (.idx (.tvar 3) (.const (.int 0))) (.const (.int 0)))=some (.str [c]):=ZaK e1 rfl (ZaW (i:=0) rfl (by lia))
    by_cases hc:c=33
    ·subst hc
     refine⟨frz [.fz (.str b),.fz (.bool true),.fz (.int (i:Int)),.fz (.list ((t.map (λc=>D.str [c]))++r.map .str))],Zaa (σ':=[.fz (.str b),.fz (.bool true),.fz (.int (i:Int)),.fz (.list ((t.map (λc=>D.str [c]))++r.map .str))]) (x_t (ZaL t1 (ZaL t2 (ZaL (Zaj e2 rfl rfl) rfl))) (Zaa (Zav (d:=.bool true) rfl) (Zaf (Zav ?_)))) (Za7 ((ZbB (d:=D.tuple [.bool true,.list (t.map (λc=>D.str [c])++r.map .str)]) rfl).trans ?_))⟩
     ·refine ZaF (p:=.list (t.map λc=>.str [c])) (q:=.list (r.map .str)) ?_ (Zcu (p:=.list (((33::t)::r).map .str)) (q:=.int 1) (r:=.none) rfl rfl rfl ?_) ?_
      ·have e3:ev noΓ ([.fz (.str b),.fz (.bool true),.fz (.int (i:Int)),.own (((33::t)::r).map .str)]) (.slc (.idx (.tvar 3) (.const (.int 0))) (.const (.int 1)) (.const .none))=some (.str t):=
        Zcu (ZaK rfl rfl (ZaM (i:=0) rfl (by lia))) rfl rfl (congrArg (λz=>some (D.str z)) (Zce (33::t) 1))
       exact Zdo e3 rfl
      ·exact congrArg (λz=>some (D.list z)) (Zce (((33::t)::r).map D.str) 1)
      ·refine ZcO ?_
       have:=h3 _ List.mem_cons_self
       simp at this hl ⊢
       lia
     ·show some (Fl.ret (D.tuple [.bool true,.list (t.map (λc=>D.str [c])++r.map .str)]),_)=some (Fl.ret (D.tuple [.bool true,.list ((t.map (λc=>[c])++r).map .str)]),_)
      erw[rwl (List.map_append ..) (rwl (List.map_map ..) ?_)]
      rfl
    ·refine stop (ZaL t1 (ZaL t2 (Zaw (Zaj e2 (q:=.str [33]) rfl ?_)))) ?_
     ·show some ([c]==[33])=_
      rw[beq_eq_false_iff_ne.mpr (by simpa using hc)]
     ·unfold ZbA
      split
      ·rename_i e;cases e;exact absurd rfl hc
      ·rfl
theorem Zq2{b:List Nat}(hb:b≠[])(hl:b.length<=900):Zup [.str b]=some (ZaV (Zh4 b)):=by
 cases b with
 | nil=>exact absurd rfl hb
 | cons c r=>
  refine Zbb rfl ?_
  obtain⟨σ,hf⟩:=Zq9 (b:=c::r) (bar:=(c::r).head?==some 33) (i:=(c::r).length) (ms:=setMembers (if(c::r).head?==some 33 then(c::r).tail else c::r)) (Zbp _) (ZbD _) (Zjy hl)
  refine⟨σ,Zaa (σ':=[.fz (.str (c::r)),.fz (.bool ((c::r).head?==some 33)),.un,.un]) (Zav (ZhU (ZaK rfl rfl (ZaW (i:=0) rfl (by lia))) rfl ?_)) ?_⟩
  ·show some ([c]==[33])=some (some c==some 33)
   cases h:(c==33)<;>simp_all
  ·by_cases hc:c=33
   ·subst hc
    refine Zaa (σ':=[.fz (.str (33::r)),.fz (.bool true),.fz (.int 1),.un]) (Zav (Zfo (ZcA rfl rfl) rfl)) (Zaa (σ':=stS (33::r) true 1 []) rfl ?_)
    have:=Zc2 (b:=33::r) (bar:=true) (by simp at hl ⊢;lia) r.length r [33] [] fuel (Nat.le_refl _) rfl (by simp at hl ⊢;lia) (by simp[fuel] at hl ⊢;lia)
    exact Zaa this hf
   ·have hb:((c::r).head?==some 33)=false:=by simpa using hc
    rw[hb] at hf ⊢
    refine Zaa (σ':=[.fz (.str (c::r)),.fz (.bool false),.fz (.int 0),.un]) (Zav (ZgM (ZcA rfl rfl) rfl)) (Zaa (σ':=stS (c::r) false 0 []) rfl ?_)
    have:=Zc2 (b:=c::r) (bar:=false) (by lia) (c::r).length (c::r) [] [] fuel (Nat.le_refl _) rfl (by simp at hl ⊢;lia) (by simp[fuel] at hl ⊢;lia)
    refine Zaa this ?_
    have e:ZaV (Zh4 (c::r))=ZaV (ZbA false (setMembers (if false=true then(c::r).tail else c::r))):=by unfold Zh4;erw[rwl (hb ..) ?_]
    erw[rwl (e ..) ?_]
    exact hf
end
section
set_option backward.match.sparseCases false
noncomputable def Zae(c:Nat)(l:List Nat)(lo:Nat):Option Nat:=(List.range' lo (l.length - lo)).find? λi=>l[i]?==some c
theorem ZcV(c:Nat)(p r:List Nat)(i:Nat):Zae c (p++r) (p.length+i)=(Zae c r i).map (p.length + ·):=by
 unfold Zae
 have e:List.range' (p.length+i) ((p++r).length - (p.length+i))=(List.range' i (r.length - i)).map (p.length + ·):=by
  erw[rwl (List.map_add_range' ..) ?_]
  congr 1
  simp
  lia
 erw[rwl (e ..) (rwl (List.find?_map ..) ?_)]
 congr 1
 congr 1
 funext j
 simp only[Function.comp]
 erw[rwl (ZbC ..) ?_]
theorem ZaS{c:Nat}{l:List Nat}{lo k:Nat}(h:Zae c l lo=some k):lo<=k∧l[k]? = some c∧∀j,lo<=j->j < k->l[j]?≠some c:=by
 unfold Zae at h
 have h1:=List.find?_some h
 have h2:=List.mem_of_find?_eq_some h
 simp only[List.mem_range'_1] at h2
 refine⟨h2.1,by simpa using h1,λj hj1 hj2=>?_⟩
 rw[List.find?_range'_eq_some] at h
 have:=h.2.2 j hj1 hj2
 simpa using this
noncomputable def clS(r:List Nat):Nat:=if r.head?==some 33 then 2 else 1
theorem Zea{α:Type}(l:List α)(k:Nat):(l.drop k).length<=l.length:=by erw[rwl (List.length_drop ..) ?_];exact Nat.sub_le ..
inductive Sn where
 | star
 | any
 | set (b:List Nat)
 | lit (c:Nat)
noncomputable def ZoY:Nat->List Nat->List Sn
 | 0,_=>[]
 | _+1,[]=>[]
 | n+1,c::r=>if c=42 then .star::ZoY n r else if c=63 then .any::ZoY n r else
  ((if c=91 then Zae 93 r (clS r) else none).map λk=>Sn.set (r.take k)::ZoY n (r.drop (k+1))).getD (.lit c::ZoY n r)
theorem Zin:∀(n m:Nat) (p:List Nat),p.length<=n->p.length<=m->ZoY n p=ZoY m p
 | 0,0,_,_,_=>rfl
 | 0,_+1,[],_,_=>rfl
 | _+1,0,[],_,_=>rfl
 | _+1,_+1,[],_,_=>rfl
 | 0,_,_::_,h,_=>absurd h (Nat.not_succ_le_zero _)
 | _+1,0,_::_,_,h=>absurd h (Nat.not_succ_le_zero _)
 | n+1,m+1,c::r,h,h'=>by
  have e:=Zin n m r (Nat.le_of_succ_le_succ h) (Nat.le_of_succ_le_succ h')
  have e2:=λk=>Zin n m (r.drop (k+1)) (Nat.le_trans (Zea ..) (Nat.le_of_succ_le_succ h)) (Nat.le_trans (Zea ..) (Nat.le_of_succ_le_succ h'))
  show(if c=42 then _ else _)=(if c=42 then _ else _)
  erw[rwl (e ..) ?_]
  simp only[e2]
noncomputable def Zqt(p:List Nat):List Sn:=ZoY p.length p
theorem ZqV:Zqt []=[]:=rfl
theorem ZiR{r:List Nat}{k:Nat}(h:Zae 93 r (clS r)=some k):Zqt (91::r)=.set (r.take k)::Zqt (r.drop (k+1)):=by
 show((Zae 93 r (clS r)).map λk=>Sn.set (r.take k)::ZoY r.length (r.drop (k+1))).getD _=_
 erw[rwl (h ..) ?_]
 exact congrArg (Sn.set (r.take k)::·) (Zin _ _ _ (Zea ..) (Nat.le_refl _))
theorem Zgl{c:Nat}{r:List Nat}(h1:c≠42)(h2:c≠63)(h3:c=91->Zae 93 r (clS r)=none):Zqt (c::r)=.lit c::Zqt r:=by
 refine(if_neg h1).trans ((if_neg h2).trans ?_)
 by_cases h:c=91
 ·erw[rwl (if_pos h ..) (rwl (h3 h ..) ?_)];rfl
 ·erw[rwl (if_neg h ..) ?_];rfl
theorem ZgD{P:List Nat->Prop}(hn:P [])(hs:∀r,P r->P (42::r))(ha:∀r,P r->P (63::r))(hb:∀r k,Zae 93 r (clS r)=some k->P (r.drop (k+1))->P (91::r))(hl:∀c r,c≠42->c≠63->(c=91->Zae 93 r (clS r)=none)->P r->P (c::r)):∀(n:Nat) (p:List Nat),p.length<=n->P p
 | _,[],_=>hn
 | 0,_::_,h=>absurd h (Nat.not_succ_le_zero _)
 | n+1,c::r,h=>by
  have ih:=λp=>ZgD hn hs ha hb hl n p
  have h0:=Nat.le_of_succ_le_succ h
  by_cases h1:c=42
  ·exact h1▸hs r (ih r h0)
  ·by_cases h2:c=63
   ·exact h2▸ha r (ih r h0)
   ·by_cases h3:c=91
    ·cases hk:Zae 93 r (clS r) with
     | none=>exact hl c r h1 h2 (λ_=>hk) (ih r h0)
     | some k=>exact h3▸hb r k hk (ih _ (Nat.le_trans (Zea ..) h0))
    ·exact hl c r h1 h2 (λq=>absurd q h3) (ih r h0)
noncomputable def Zrq:Sn->Option Item
 | .star=>none
 | .any=>some (true,[])
 | .set b=>some (Zh4 b)
 | .lit c=>some (false,[[c]])
noncomputable def Zar(p:List Nat):List (Option Item):=(Zqt p).map Zrq
noncomputable def Zfv:Option Item->D
 | none=>.str [42]
 | some it=>ZaV it
theorem ZvK:Zfv none=.str [42]:=rfl
theorem ZvZ(it:Item):Zfv (some it)=ZaV it:=rfl
noncomputable def Zi3:X:=match ZcW with
 | .seq _ (.seq _ (.seq (.whl t _) _))=>t
 | _=>.nil
noncomputable def ZeZ:S:=match ZcW with
 | .seq _ (.seq _ (.seq (.whl _ b) _))=>b
 | _=>.skip
noncomputable def stI(p:List Nat)(its:List D)(i:Nat)(s3 s4:Slot):Sg:=[.fz (.str p),.own its,.fz (.int (i:Int)),s3,s4]
theorem Zrf{Γ:ZaC}{σ:Sg}{x y z:X}{l:List Nat}{c i:Nat}(hx:ev Γ σ x=some (.str l))(hy:ev Γ σ y=some (.str [c]))(hz:ev Γ σ z=some (.int (i:Int)))(hi:i<=1000000000) :
  ev Γ σ (.find2 x y z)=some (.int (match Zae c l i with | some k=>(k:Int) | none=>-1)):=show(ev Γ σ x).bind _=_ from Zag hx (Zag hy (Zag hz (if_pos ⟨Int.natCast_nonneg i,by lia⟩)))
section
variable {p:List Nat}{its:List D}{s3 s4:Slot}
theorem Zjh{pre r:List Nat}{c:Nat}(hb:p=pre++c::r)(hl:p.length<=800){rest:S}{o:Option (Fl×Sg)}
  (k:ex ΓA fuel rest (stI p its (pre.length+1) (.fz (.str [c])) (.fz (.int (match Zae 93 r (clS r) with | some k=>((pre.length+1+k:Nat):Int) | none=>-1))))=o) :
  ex ΓA fuel (.seq (.asg 3 (.idx (.var 0) (.var 2))) (.seq (.aug 2 .add (.const (.int 1))) (.seq (.asg 4 (.find2 (.var 0) (.const (.str [93])) (.bin .add (.var 2) (.ite (.tcmp .eq (.slc (.var 0) (.var 2) (.bin .add (.var 2) (.const (.int 1)))) (.const (.str [33]))) (.const (.int 2)) (.const (.int 1)))))) rest))) (stI p its pre.length s3 s4)=o:=by
 have hlen:p.length=pre.length+(r.length+1):=by erw[rwl (hb ..) ?_];simp
 refine Zaa (σ':=stI p its pre.length (.fz (.str [c])) s4) (Zav (ZaK (p:=.str p) (q:=.int (pre.length:Int)) rfl rfl (ZaW (by erw[rwl (hb ..) ?_];exact ZbC pre _ 0) (by lia)))) ?_
 refine Zaa (σ':=stI p its (pre.length+1) (.fz (.str [c])) s4) (ZcT (p:=.int (pre.length:Int)) (q:=.int 1) rfl rfl rfl) ?_
 have e1:ev ΓA (stI p its (pre.length+1) (.fz (.str [c])) s4) (.slc (.var 0) (.var 2) (.bin .add (.var 2) (.const (.int 1))))=some (.str (r.take 1)):=by
  refine Zcu (p:=.str p) (q:=.int ((pre.length+1:Nat):Int)) (r:=.int ((pre.length+2:Nat):Int)) rfl rfl rfl ?_
  show some (D.str (slice p _ _))=_
  erw[rwl (hb ..) (rwl (ZbQ ..) ?_)];rfl
 have e2:ev ΓA (stI p its (pre.length+1) (.fz (.str [c])) s4) (.ite (.tcmp .eq (.slc (.var 0) (.var 2) (.bin .add (.var 2) (.const (.int 1)))) (.const (.str [33]))) (.const (.int 2)) (.const (.int 1)))=some (.int ((clS r:Nat):Int)):=by
  have hh:(r.take 1==[33])=(r.head?==some 33):=by
   cases r with
   | nil=>rfl
   | cons a r=>show([a]==[33])=(some a==some 33);cases h:(a==33)<;>simp_all
  have e3:tv ΓA (stI p its (pre.length+1) (.fz (.str [c])) s4) (.tcmp .eq (.slc (.var 0) (.var 2) (.bin .add (.var 2) (.const (.int 1)))) (.const (.str [33])))=some (r.head?==some 33):=Zaj e1 (q:=.str [33]) rfl (by show some (r.take 1==[33])=_;erw[rwl (hh ..) ?_])
  unfold clS
  cases h:(r.head?==some 33) with
  | true=>exact Zfo (h▸e3) rfl
  | false=>exact ZgM (h▸e3) rfl
 have e4:ev ΓA (stI p its (pre.length+1) (.fz (.str [c])) s4) (.bin .add (.var 2) (.ite (.tcmp .eq (.slc (.var 0) (.var 2) (.bin .add (.var 2) (.const (.int 1)))) (.const (.str [33]))) (.const (.int 2)) (.const (.int 1))))=some (.int ((pre.length+1+clS r:Nat):Int)):=
  ZaF (p:=.int ((pre.length+1:Nat):Int)) rfl e2 rfl
 have hcl:clS r<=2:=by unfold clS;split<;>decide
 have e5:=Zrf (σ:=stI p its (pre.length+1) (.fz (.str [c])) s4) (x:=.var 0) (y:=.const (.str [93])) rfl rfl e4 (by lia)
 have e6:Zae 93 p (pre.length+1+clS r)=(Zae 93 r (clS r)).map (pre.length+1 + ·):=by
  have:=ZcV 93 (pre++[c]) r (clS r)
  erw[rwl (hb ..) ?_]
  simpa using this
 rw[e6] at e5
 refine Zaa (Zav (e5.trans ?_)) k
 cases Zae 93 r (clS r)<;>rfl
theorem ZlE{Γ:ZaC}{σ:Sg}{x y:X}{a b:Nat}(hx:ev Γ σ x=some (.str [a]))(hy:ev Γ σ y=some (.str [b])):tv Γ σ (.tcmp .eq x y)=some (decide (a=b)):=by
 refine Zaj hx hy ?_
 show some ([a]==[b])=_
 by_cases h:a=b
 ·subst h;simp
 ·rw[decide_eq_false h,beq_eq_false_iff_ne.mpr (by simpa using h)]
theorem ZbV{Γ:ZaC}{σ:Sg}{x y:X}{a b:Nat}(h:a=b)(hx:ev Γ σ x=some (.str [a]))(hy:ev Γ σ y=some (.str [b])):tv Γ σ (.tcmp .eq x y)=some true:=by erw[rwl (ZlE hx hy ..) (rwl (decide_eq_true h ..) ?_)]
theorem ZaH{Γ:ZaC}{σ:Sg}{x y:X}{a b:Nat}(h:a≠b)(hx:ev Γ σ x=some (.str [a]))(hy:ev Γ σ y=some (.str [b])):tv Γ σ (.tcmp .eq x y)=some false:=by erw[rwl (ZlE hx hy ..) (rwl (decide_eq_false h ..) ?_)]
theorem Zpy{pre r:List Nat}(hb:p=pre++42::r)(hl:p.length<=800)(hm:its.length<=1000):∃t3 t4,ex ΓA fuel ZeZ (stI p its pre.length s3 s4)=some (.next,stI p (its++[.str [42]]) (pre.length+1) t3 t4):=
 ⟨_,_,Zjh hb hl (Zaf (x_t (ZbV rfl rfl rfl) (Zaf (Zef (ds:=its) rfl rfl (by lia)))))⟩
theorem ZvR{pre r:List Nat}(hb:p=pre++63::r)(hl:p.length<=800)(hm:its.length<=1000):∃t3 t4,ex ΓA fuel ZeZ (stI p its pre.length s3 s4)=some (.next,stI p (its++[ZaV (true,[])]) (pre.length+1) t3 t4):=
 ⟨_,_,Zjh hb hl (Zaf (x_f (ZaH (by decide) rfl rfl) (Zaf (x_t (ZbV rfl rfl rfl) (Zaf (Zef (ds:=its) rfl rfl (by lia)))))))⟩
theorem ZoW{pre r:List Nat}{c:Nat}(hb:p=pre++c::r)(h1:c≠42)(h2:c≠63)(h3:c=91->Zae 93 r (clS r)=none)(hl:p.length<=800)(hm:its.length<=1000) :
  ∃t3 t4,ex ΓA fuel ZeZ (stI p its pre.length s3 s4)=some (.next,stI p (its++[ZaV (false,[[c]])]) (pre.length+1) t3 t4):=by
 refine⟨_,_,Zjh hb hl (Zaf (x_f (ZaH h1 rfl rfl) (Zaf (x_f (ZaH h2 rfl rfl) (Zaf (x_f ?_ (Zaf (Zef (ds:=its) rfl rfl (by lia)))))))))⟩
 by_cases h:c=91
 ·erw[rwl (h3 h ..) ?_]
  exact ZaL (ZbV h rfl rfl) (Zaw (Zaj rfl rfl rfl))
 ·exact Zaw (ZaH h rfl rfl)
theorem Zte{pre r:List Nat}{k:Nat}(hb:p=pre++91::r)(hk:Zae 93 r (clS r)=some k)(hl:p.length<=800)(hm:its.length<=1000) :
  ∃t3 t4,ex ΓA fuel ZeZ (stI p its pre.length s3 s4)=some (.next,stI p (its++[ZaV (Zh4 (r.take k))]) (pre.length+1+(k+1)) t3 t4):=by
 have hlen:p.length=pre.length+(r.length+1):=by erw[rwl (hb ..) ?_];simp
 obtain⟨k1,k2,_⟩:=ZaS hk
 have hkl:k < r.length:=by
  rcases Nat.lt_or_ge k r.length with q | q
  ·exact q
  ·rw[List.getElem?_eq_none q] at k2;cases k2
 have hcl:1<=clS r:=by unfold clS;split<;>decide
 refine⟨.fz (.str [91]),.fz (.int ((pre.length+1+k:Nat):Int)),Zjh hb hl ?_⟩
 erw[rwl (hk ..) ?_]
 refine Zaf (x_f (ZaH (by decide) rfl rfl) (Zaf (x_f (ZaH (by decide) rfl rfl) (Zaf (x_t (ZaL (ZbV rfl rfl rfl) (ZaL (Zaj (p:=.int ((pre.length+1+k:Nat):Int)) (q:=.int 0) rfl rfl ?_) rfl)) ?_)))))
 ·show some (decide _)=_
  rw[decide_eq_true (by lia)]
 ·have e1:ev ΓA (stI p its (pre.length+1) (.fz (.str [91])) (.fz (.int ((pre.length+1+k:Nat):Int)))) (.slc (.var 0) (.var 2) (.var 4))=some (.str (r.take k)):=by
   refine Zcu (p:=.str p) (q:=.int ((pre.length+1:Nat):Int)) (r:=.int ((pre.length+1+k:Nat):Int)) rfl rfl rfl ?_
   show some (D.str (slice p _ _))=_
   have:=ZbQ (pre++[91]) r 0 k
   erw[rwl (hb ..) ?_]
   simp only[List.length_append,List.length_cons,List.length_nil,List.append_assoc,List.cons_append,List.nil_append,Nat.add_zero,List.drop_zero] at this
   exact congrArg (λz=>some (D.str z)) this
  have e2:ev ΓA (stI p its (pre.length+1) (.fz (.str [91])) (.fz (.int ((pre.length+1+k:Nat):Int)))) (.call 5 (.cons (.slc (.var 0) (.var 2) (.var 4)) .nil))=some (ZaV (Zh4 (r.take k))):=by
   refine Zbe (ds:=[.str (r.take k)]) (Zcc e1) ?_
   refine Zq2 (λq=>?_) (by simp;lia)
   have:=congrArg List.length q
   rw[List.length_take,Nat.min_eq_left (by lia)] at this
   have this:k=0:=this
   lia
  exact Zaa (σ':=stI p (its++[ZaV (Zh4 (r.take k))]) (pre.length+1) (.fz (.str [91])) (.fz (.int ((pre.length+1+k:Nat):Int)))) (Zef (ds:=its) rfl e2 (by lia)) (Zaf (Zav (ZaF (p:=.int ((pre.length+1+k:Nat):Int)) (q:=.int 1) rfl rfl rfl)))
theorem ZtV{i:Nat}(hb:i < p.length):tv ΓA (stI p its i s3 s4) Zi3=some true:=by
 refine Zaj (p:=.int (i:Int)) (q:=.int (p.length:Int)) rfl rfl ?_
 show some (decide ((i:Int) < (p.length:Int)))=_
 rw[decide_eq_true (by lia)]
theorem Zst{i:Nat}(hb:i=p.length):tv ΓA (stI p its i s3 s4) Zi3=some false:=by
 refine Zaj (p:=.int (i:Int)) (q:=.int (p.length:Int)) rfl rfl ?_
 show some (decide ((i:Int) < (p.length:Int)))=_
 erw[rwl (hb ..) ?_];simp
end
theorem ZiL{p:List Nat}(hl:p.length<=800):∀(n:Nat) (r pre:List Nat) (its:List D) (N:Nat) (s3 s4:Slot),r.length<=n->p=pre++r->its.length+r.length<=1000->n < N->
  ∃t3 t4,Zbk (λσ=>tv ΓA σ Zi3) (ex ΓA fuel ZeZ) N (stI p its pre.length s3 s4)=some (.next,stI p (its++(Zar r).map Zfv) p.length t3 t4)
 | n,[],pre,its,N+1,s3,s4,_,hb,_,_=>by
  have hp:pre.length=p.length:=by erw[rwl (hb ..) ?_];simp
  refine⟨s3,s4,?_⟩
  erw[rwl (ZcS (Zst hp) ..) (rwl (hp ..) ?_)]
  simp[Zar,ZqV]
 | n+1,c::r,pre,its,N+1,s3,s4,hn,hb,hm,hN=>by
  simp at hn hm
  have go:=ZtV (its:=its) (s3:=s3) (s4:=s4) (show pre.length < p.length by erw[rwl (hb ..) ?_];simp)
  have step:∀it,(∃t3 t4,ex ΓA fuel ZeZ (stI p its pre.length s3 s4)=some (.next,stI p (its++[Zfv it]) (pre.length+1) t3 t4))->Zar (c::r)=it::Zar r->
    ∃t3 t4,Zbk (λσ=>tv ΓA σ Zi3) (ex ΓA fuel ZeZ) (N+1) (stI p its pre.length s3 s4)=some (.next,stI p (its++(Zar (c::r)).map Zfv) p.length t3 t4):=λit ⟨t3,t4,h⟩ e=>by
   obtain⟨u3,u4,ih⟩:=ZiL hl n r (pre++[c]) (its++[Zfv it]) N t3 t4 (by lia) (by erw[rwl (hb ..) ?_];simp) (by simp;lia) (by lia)
   rw[List.length_append] at ih
   refine⟨u3,u4,ZiE go h (ih.trans ?_)⟩
   erw[rwl (e ..) ?_];simp
  by_cases h1:c=42
  ·subst h1
   exact step none (Zpy hb hl (by lia)) rfl
  ·by_cases h2:c=63
   ·subst h2
    exact step (some (true,[])) (ZvR hb hl (by lia)) rfl
   ·by_cases h3:c=91
    ·subst h3
     cases hk:Zae 93 r (clS r) with
     | none=>exact step (some (false,[[91]])) (ZoW hb h1 h2 (λ_=>hk) hl (by lia)) (congrArg (List.map Zrq) (Zgl h1 h2 λ_=>hk))
     | some k=>
      obtain⟨t3,t4,h⟩:=Zte (its:=its) (s3:=s3) (s4:=s4) hb hk hl (by lia)
      obtain⟨k1,k2,_⟩:=ZaS hk
      have hkl:k < r.length:=by
       rcases Nat.lt_or_ge k r.length with q | q
       ·exact q
       ·rw[List.getElem?_eq_none q] at k2;cases k2
      obtain⟨u3,u4,ih⟩:=ZiL hl n (r.drop (k+1)) (pre++91::r.take (k+1)) (its++[ZaV (Zh4 (r.take k))]) N t3 t4 (by simp;lia) (by erw[rwl (hb ..) ?_];simp) (by simp;lia) (by lia)
      have e1:(pre++91::r.take (k+1)).length=pre.length+1+(k+1):=by simp;lia
      rw[e1] at ih
      refine⟨u3,u4,ZiE go h (ih.trans ?_)⟩
      erw[rwl (show Zar (91::r)=some (Zh4 (r.take k))::Zar (r.drop (k+1)) from congrArg (List.map Zrq) (ZiR hk) ..) ?_]
      simp[ZvK,ZvZ]
    ·exact step (some (false,[[c]])) (ZoW hb h1 h2 (λq=>absurd q h3) hl (by lia)) (congrArg (List.map Zrq) (Zgl h1 h2 λq=>absurd q h3))
 | 0,_::_,_,_,_,_,_,hn,_,_,_=>by simp at hn
 | n,_,_,_,0,_,_,_,_,_,hN=>absurd hN (Nat.not_lt_zero _)
theorem Zqa{p:List Nat}(hl:p.length<=800):ZtQ [.str p]=some (.list ((Zar p).map Zfv)):=by
 refine Zbb rfl ?_
 obtain⟨t3,t4,h⟩:=ZiL hl p.length p [] [] fuel .un .un (Nat.le_refl _) rfl (by simp;lia) (by simp[fuel];lia)
 exact⟨_,Zaa (σ':=[.fz (.str p),.own [],.un,.un,.un]) rfl (Zaa (σ':=stI p [] 0 .un .un) rfl (Zaa h (Za7 (ZbB rfl))))⟩
end
section
set_option backward.match.sparseCases false
theorem ZkW(n:Nat):Zcg 0 (n:Int) 1=(List.range n).map λ(i:Nat)=>D.int (i:Int):=by
 unfold Zcg
 rw[if_pos (by decide)]
 have e:(((n:Int) - 0+1 - 1) / 1).toNat=n:=by
  erw[rwl (Int.ediv_one ..) ?_];lia
 erw[rwl (e ..) ?_]
 apply List.map_congr_left
 intro i _
 congr 1
 lia
theorem Zei{n:Nat}(h:n<=1000000):Zcx (n:Int)=true:=decide_eq_true ⟨by lia,by lia⟩
theorem Zck{Γ:ZaC}{σ:Sg}{x:X}{n:Nat}(h:ev Γ σ x=some (.int (n:Int)))(hn:n<=1000000):ev Γ σ (.range1 x)=some (.list ((List.range n).map λ(i:Nat)=>D.int (i:Int))):=by
 show(ev Γ σ x).bind _=_
 refine Zag h ((if_pos (Zei hn)).trans ?_)
 erw[rwl (ZkW ..) ?_]
noncomputable def ZcB(name:List Nat)(h:List Bool):Option Item->List Bool
 | none=>(List.range h.length).map λk=>(h.take (k+1)).contains true
 | some it=>false::(List.range name.length).map λk=>h.getD k false&&Zgy it (name.getD k 0)
noncomputable def Zen(its:List (Option Item))(name:List Nat):Bool:=(its.foldl (ZcB name) (true::List.replicate name.length false)).getLastD false
theorem ZdQ(name:List Nat)(h:List Bool)(it:Option Item)(hl:h.length=name.length+1):(ZcB name h it).length=name.length+1:=by
 cases it<;>simp[ZcB,hl]
noncomputable def stT(its:D)(name:List Nat)(h:List Bool)(s3:Slot):Sg:=[.fz its,.fz (.str name),.fz (.list (h.map .bool)),s3,.un]
noncomputable def Zpe:S:=match Ze4 with
 | .seq _ (.seq (.fors _ _ b) _)=>b
 | _=>.skip
noncomputable def ZtE(h:List Bool):D->D
 | .int i=>.bool ((h.take (i.toNat+1)).contains true)
 | _=>.none
noncomputable def itemOf(name:List Nat)(h:List Bool)(it:Item):D->D
 | .int i=>.bool (h.getD i.toNat false&&Zgy it (name.getD i.toNat 0))
 | _=>.none
theorem Zk0(l:List Bool)(b:Bool):inD (.bool b) (.list (l.map .bool))=some (l.contains b):=by
 show(ZdE (l.map .bool)).map (·.contains b)=_
 have:=Ze8 (λb:Bool=>b) l
 erw[rwl (this ..) ?_];simp
theorem Zqu{its:D}{name:List Nat}{h:List Bool}{s3:Slot}(hn:name.length<=100)(hh:h.length=name.length+1)(it:Option Item)(ok:∀i,it=some i->Zh3 i) :
  ex ΓA fuel Zpe ((stT its name h s3).set 3 (.fz (Zfv it)))=some (.next,stT its name (ZcB name h it) (.fz (Zfv it))):=by
 cases it with
 | none=>
  refine Zaf (x_t (ZbV rfl rfl rfl) (Zaf (Zav ?_)))
  have:=Zf1 (Γ:=ΓA) (σ:=stT its name h (.fz (Zfv none))) (fr:=[2]) (t:=4) (e:=.cmp .isin (.const (.bool true)) (.slc (.var 2) (.const .none) (.bin .add (.var 4) (.const (.int 1))))) (it:=.range1 (.bfn .len (.var 2))) (g:=ZtE h)
   (Zck (n:=h.length) (Zdo rfl (by show some (D.int ((h.map D.bool).length:Int))=_;erw[rwl (List.length_map ..) ?_])) (by lia)) (by simp;lia) (λd hd=>by
    obtain⟨k,hk,rfl⟩:=List.mem_map.mp hd
    refine ZhU (p:=.bool true) (q:=.list ((h.take (k+1)).map .bool)) rfl (Zcu (p:=.list (h.map .bool)) (q:=.none) (r:=.int ((k+1:Nat):Int)) rfl rfl rfl ?_) (Zk0 _ _)
    show some (D.list (slice (h.map D.bool) none (some ((k+1:Nat):Int))))=_
    erw[rwl (ZdZ ..) (rwl (List.map_take ..) ?_)])
  refine this.trans ?_
  erw[rwl (List.map_map ..) ?_]
  show _=some (D.list (((List.range h.length).map λk=>(h.take (k+1)).contains true).map D.bool))
  erw[rwl (List.map_map ..) ?_]
  rfl
 | some it=>
  have oki:=ok it rfl
  refine Zaf (x_f (Zaj (p:=ZaV it) (q:=.str [42]) rfl rfl rfl) (Zaf (Zav ?_)))
  have:=Zf1 (Γ:=ΓA) (σ:=stT its name h (.fz (ZaV it))) (fr:=[2,3,1]) (t:=4) (e:=.band (.cons (.idx (.var 2) (.var 4)) (.cons (.call 7 (.cons (.var 3) (.cons (.idx (.var 1) (.var 4)) .nil))) .nil))) (it:=.range1 (.bfn .len (.var 1))) (g:=itemOf name h it)
   (Zck (n:=name.length) (Zdo rfl rfl) (by lia)) (by simp;lia) (λd hd=>by
    obtain⟨k,hk,rfl⟩:=List.mem_map.mp hd
    have hk:k < name.length:=List.mem_range.mp hk
    show Zfi _ _ _=_
    refine Zc5 (a:=h.getD k false) (ZaK (p:=.list (h.map .bool)) (q:=.int (k:Int)) rfl rfl (ZaM ?_ (by lia))) (λe=>ZdX (Zbe (ds:=[ZaV it,.str [name.getD k 0]]) ?_ ?_)) λe=>?_
    ·rw[List.getElem?_map,List.getD_eq_getElem?_getD,List.getElem?_eq_getElem (show k < h.length by lia)];rfl
    ·have e2:ev ΓA ((mask [2,3,1] (stT its name h (.fz (ZaV it)))).set 4 (.fz (.int (k:Int)))) (.idx (.var 1) (.var 4))=some (.str [name.getD k 0]):=by
      refine ZaK (p:=.str name) (q:=.int (k:Int)) rfl rfl (ZaW ?_ (by lia))
      erw[rwl (List.getD_eq_getElem?_getD ..) (rwl (List.getElem?_eq_getElem hk ..) ?_)];rfl
     exact ZaP rfl (Zcc e2)
    ·show Zsq _=_
     erw[rwl (Zmz oki ..) ?_]
     show _=some (D.bool (h.getD k false&&Zgy it (name.getD k 0)))
     erw[rwl (e ..) (rwl (Bool.true_and ..) ?_)]
    ·show some (D.bool (h.getD k false&&Zgy it (name.getD k 0)))=_
     erw[rwl (e ..) ?_];rfl)
  refine(ZaF (p:=.list [.bool false]) rfl this rfl).trans ((ZcO ?_).trans ?_)
  ·simp;lia
  ·erw[rwl (List.map_map ..) ?_]
   show _=some (D.list ((false::(List.range name.length).map λk=>h.getD k false&&Zgy it (name.getD k 0)).map D.bool))
   erw[rwl (List.map_cons ..) (rwl (List.map_map ..) ?_)]
   rfl
theorem ZmG{its0:D}{name:List Nat}(hn:name.length<=100):∀(its:List (Option Item)) (h:List Bool) (s3:Slot),h.length=name.length+1->(∀i,some i∈its->Zh3 i)->
  ∃t3,forL 3 (ex ΓA fuel Zpe) (its.map Zfv) (stT its0 name h s3)=some (.next,stT its0 name (its.foldl (ZcB name) h) t3)
 | [],h,s3,_,_=>⟨s3,rfl⟩
 | it::its,h,s3,hh,ok=>by
  obtain⟨t3,ih⟩:=ZmG hn its (ZcB name h it) (.fz (Zfv it)) (ZdQ name h it hh) λi hi=>ok i (List.mem_cons_of_mem _ hi)
  exact⟨t3,Zj8 (Zqu hn hh it λi e=>ok i (e▸List.mem_cons_self)) ih⟩
theorem ZjN(name:List Nat):∀(its:List (Option Item)) (h:List Bool),h.length=name.length+1->(its.foldl (ZcB name) h).length=name.length+1
 | [],_,hh=>hh
 | it::its,h,hh=>ZjN name its _ (ZdQ name h it hh)
theorem ZfB{Γ:ZaC}{N i:Nat}{σ:Sg}{it:X}{b:S}{ds:List D}{o:Option (Fl×Sg)}(h:ev Γ σ it=some (.list ds))(hl:ds.length<=16777216)(k:forL i (ex Γ N b) ds σ=o):ex Γ N (.fors i it b) σ=o:=show((ev Γ σ it).bind itemsOf).bind _=_ from Zag (Zag h (Zc3 hl)) k
theorem Zqr{its:List (Option Item)}{name:List Nat}(hn:name.length<=100)(hi:its.length<=1000)(ok:∀i,some i∈its->Zh3 i):ZtT [.list (its.map Zfv),.str name]=some (.bool (Zen its name)):=by
 have hl0:(true::List.replicate name.length false).length=name.length+1:=by simp
 refine Zbb rfl ?_
 obtain⟨t3,h⟩:=ZmG (its0:=.list (its.map Zfv)) hn its (true::List.replicate name.length false) .un hl0 ok
 refine⟨_,Zaa (σ':=stT (.list (its.map Zfv)) name (true::List.replicate name.length false) .un) (Zav (ZaF (p:=.list [.bool true]) (q:=.list (List.replicate name.length (.bool false))) rfl (ZaF (p:=.list [.bool false]) (q:=.int (name.length:Int)) rfl (Zdo rfl rfl) ?_) ?_)) (Zaa (ZfB (ds:=its.map Zfv) rfl (by simp;lia) h) (Za7 (ZbB (ZaK (q:=.int (-1)) rfl rfl (ZeN ?_)))))⟩
 ·show(if(0:Int)<=(name.length:Int)∧(name.length:Int)<=16777216 then okL (List.replicate (name.length:Int).toNat (D.bool false)) else none)=_
  rw[if_pos (by lia),ZcO (by simp;lia)]
  rfl
 ·show okL ([D.bool true]++List.replicate name.length (D.bool false))=_
  rw[ZcO (by simp;lia)]
  show _=some (D.list ((true::List.replicate name.length false).map D.bool))
  erw[rwl (List.map_cons ..) (rwl (List.map_replicate ..) ?_)]
  rfl
 ·have hf:=ZjN name its _ hl0
  erw[rwl (List.getLast?_map ..) ?_]
  unfold Zen
  cases e:its.foldl (ZcB name) (true::List.replicate name.length false) with
  | nil=>rw[e] at hf;simp at hf
  | cons a r=>erw[rwl (List.getLastD_cons ..) (rwl (List.getLast?_cons ..) ?_)];simp
end
section
noncomputable def Zoc(first last:Bool)(run:List Item)(name:List Nat)(p:Nat):Bool:=
 (!first||p==0)&&(!last||p+run.length==name.length)&&(List.range run.length).all λi=>Zgy (run.getD i (false,[])) (name.getD (p+i) 0)
noncomputable def Zas(first last:Bool)(run:List Item)(name:List Nat)(i:Nat):List Nat:=(List.range' i (name.length+1 - run.length - i)).filter (Zoc first last run name)
noncomputable def Zb5(name:List Nat):Bool->List (List Item)->Nat->Bool
 | _,[],_=>true
 | first,run::rest,i=>match Zas first rest.isEmpty run name i with
  | []=>false
  | p::_=>Zb5 name false rest (p+run.length)
theorem Zuc(n:List Nat)(f:Bool)(i:Nat):Zb5 n f [] i=true:=rfl
theorem ZqO(n:List Nat)(f:Bool)(run:List Item)(rest:List (List Item))(i:Nat):Zb5 n f (run::rest) i=match Zas f rest.isEmpty run n i with
  | []=>false
  | p::_=>Zb5 n false rest (p+run.length):=rfl
noncomputable def Zhk(run:List Item):D:=.list (run.map ZaV)
theorem ZkY{Γ:ZaC}{N i:Nat}{σ:Sg}{xs:X}{ds:List D}(h:Zgn i σ=true)(he:evL Γ σ xs=some ds)(hl:ds.length<=16777216):ex Γ N (.asgO i xs) σ=some (.next,σ.set i (.own ds)):=show(if Zgn i σ then _ else none)=_ from(if_pos h).trans (Zag he (if_pos hl))
theorem ZuB{i:Nat}{b:Sg->Option (Fl×Sg)}{d d':D}{ds:List D}{σ σ':Sg}(hb:b (σ.set i (.fz d))=some (.ret d',σ')):forL i b (d::ds) σ=some (.ret d',σ'):=show(b _).bind _=_ from Zag hb rfl
theorem Zkq(a n s:Nat):Zcg (a:Int) ((n:Int) - (s:Int)+1) 1=(List.range' a (n+1 - s - a)).map λ(i:Nat)=>D.int (i:Int):=by
 unfold Zcg
 rw[if_pos (by decide),List.range'_eq_map_range,List.map_map]
 have e:(((n:Int) - (s:Int)+1 - (a:Int)+1 - 1) / 1).toNat=n+1 - s - a:=by
  erw[rwl (Int.ediv_one ..) ?_];lia
 erw[rwl (e ..) ?_]
 apply List.map_congr_left
 intro i _
 show D.int ((a:Int)+(i:Int) * 1)=D.int ((a+i:Nat):Int)
 congr 1
 lia
theorem Zoa{Γ:ZaC}{σ:Sg}{x y:X}{a n s:Nat}(hx:ev Γ σ x=some (.int (a:Int)))(hy:ev Γ σ y=some (.int ((n:Int) - (s:Int)+1)))(ha:a<=10000)(hn:n<=10000)(hs:s<=10000):ev Γ σ (.range2 x y)=some (.list ((List.range' a (n+1 - s - a)).map λ(i:Nat)=>D.int (i:Int))):=by
 show(ev Γ σ x).bind _=_
 refine Zag hx (Zag hy ((if_pos ?_).trans (by erw[rwl (Zkq ..) ?_])))
 rw[Zei (Nat.le_trans ha (by decide)),show Zcx ((n:Int) - (s:Int)+1)=true from decide_eq_true ⟨by lia,by lia⟩]
 rfl
theorem lt_int{Γ:ZaC}{σ:Sg}{x y:X}{a b:Int}(hx:ev Γ σ x=some (.int a))(hy:ev Γ σ y=some (.int b)):tv Γ σ (.tcmp .lt x y)=some (decide (a < b)):=Zaj hx hy rfl
theorem gt_int{Γ:ZaC}{σ:Sg}{x y:X}{a b:Int}(hx:ev Γ σ x=some (.int a))(hy:ev Γ σ y=some (.int b)):tv Γ σ (.tcmp .gt x y)=some (decide (b < a)):=Zaj hx hy rfl
theorem eq_int{Γ:ZaC}{σ:Sg}{x y:X}{a b:Int}(hx:ev Γ σ x=some (.int a))(hy:ev Γ σ y=some (.int b)):tv Γ σ (.tcmp .eq x y)=some (decide (a=b)):=Zaj hx hy (by
 show some (a==b)=_
 by_cases h:a=b
 ·erw[rwl (decide_eq_true h ..) (rwl (h ..) ?_)];simp
 ·erw[rwl (decide_eq_false h ..) (rwl (beq_eq_false_iff_ne.mpr h ..) ?_)])
noncomputable def Zhe:S:=match Zey with
 | .seq _ (.seq (.fors _ _ b) _)=>b
 | _=>.skip
noncomputable def Zt6:S:=match Zhe with
 | .seq _ (.seq _ (.seq (.fors _ _ b) _))=>b
 | _=>.skip
noncomputable def stK(runs:List (List Item))(name:List Nat)(i:Nat)(s3 s4 s5 s6:Slot):Sg:=[.fz (.list (runs.map Zhk)),.fz (.str name),.fz (.int (i:Int)),s3,s4,s5,s6,.un]
noncomputable def Zbs(k:Nat):Slot:=.fz (.int (k:Int))
noncomputable def Zr7(run:List Item)(name:List Nat)(p:Nat):D->D
 | .int i=>.bool (Zgy (run.getD i.toNat (false,[])) (name.getD (p+i.toNat) 0))
 | _=>.none
theorem ZuA{runs:List (List Item)}{name:List Nat}{i k p:Nat}{run:List Item}{fs:List D}(hk:runs[k]? = some run)(hr:runs.length<=1000)(hn:name.length<=100)(hp:p+run.length<=name.length)(ok:∀it∈run,Zh3 it)(hf:fs.length<=1000) :
  ex ΓA fuel Zt6 (stK runs name i (Zbs k) (Zbs run.length) (.own fs) (Zbs p))=some (.next,stK runs name i (Zbs k) (Zbs run.length) (.own (if Zoc (k==0) (k+1==runs.length) run name p then fs++[.int (p:Int)] else fs)) (Zbs p)):=by
 have hkl:k < runs.length:=by
  rcases Nat.lt_or_ge k runs.length with q | q
  ·exact q
  ·rw[List.getElem?_eq_none q] at hk;cases hk
 have t1:tv ΓA (stK runs name i (Zbs k) (Zbs run.length) (.own fs) (Zbs p)) (.tor (.cons (.tcmp .gt (.var 3) (.const (.int 0))) (.cons (.tcmp .eq (.var 6) (.const (.int 0))) .nil)))=some (!(k==0)||p==0):=by
  cases h0:(k==0) with
  | true=>
   have hk0:k=0:=by simpa using h0
   refine Zjf ((gt_int (a:=(k:Int)) (b:=0) rfl rfl).trans (by rw[decide_eq_false (by lia)])) ?_
   have:=eq_int (Γ:=ΓA) (σ:=stK runs name i (Zbs k) (Zbs run.length) (.own fs) (Zbs p)) (x:=.var 6) (y:=.const (.int 0)) (a:=(p:Int)) (b:=0) rfl rfl
   by_cases hp0:p=0
   ·rw[decide_eq_true (by lia)] at this
    erw[rwl (ZeF this ..) ?_];simp[hp0]
   ·rw[decide_eq_false (by lia)] at this
    refine Zjf this ?_
    show some false=_
    simp[hp0]
  | false=>
   have hk0:k≠0:=by simpa using h0
   exact(ZeF ((gt_int (a:=(k:Int)) (b:=0) rfl rfl).trans (by rw[decide_eq_true (by lia)]))).trans (by simp)
 have elen:ev ΓA (stK runs name i (Zbs k) (Zbs run.length) (.own fs) (Zbs p)) (.bin .sub (.bfn .len (.var 0)) (.const (.int 1)))=some (.int ((runs.length:Int) - 1)):=
  ZaF (p:=.int (runs.length:Int)) (q:=.int 1) (Zdo rfl (by show some (D.int ((runs.map Zhk).length:Int))=_;erw[rwl (List.length_map ..) ?_])) rfl rfl
 have esum:ev ΓA (stK runs name i (Zbs k) (Zbs run.length) (.own fs) (Zbs p)) (.bin .add (.var 6) (.var 4))=some (.int ((p+run.length:Nat):Int)):=ZaF (p:=.int (p:Int)) (q:=.int (run.length:Int)) rfl rfl rfl
 have t2:tv ΓA (stK runs name i (Zbs k) (Zbs run.length) (.own fs) (Zbs p)) (.tor (.cons (.tcmp .lt (.var 3) (.bin .sub (.bfn .len (.var 0)) (.const (.int 1)))) (.cons (.tcmp .eq (.bin .add (.var 6) (.var 4)) (.bfn .len (.var 1))) .nil)))=some (!(k+1==runs.length)||p+run.length==name.length):=by
  cases h0:(k+1==runs.length) with
  | true=>
   have hk0:k+1=runs.length:=by simpa using h0
   refine Zjf ((lt_int (a:=(k:Int)) rfl elen).trans (by rw[decide_eq_false (by lia)])) ?_
   have:=eq_int (Γ:=ΓA) (σ:=stK runs name i (Zbs k) (Zbs run.length) (.own fs) (Zbs p)) (y:=.bfn .len (.var 1)) (b:=(name.length:Int)) esum rfl
   by_cases hp0:p+run.length=name.length
   ·rw[decide_eq_true (by lia)] at this
    erw[rwl (ZeF this ..) ?_];simp[hp0]
   ·rw[decide_eq_false (by lia)] at this
    refine Zjf this ?_
    show some false=_
    simp[hp0]
  | false=>
   have hk0:k+1≠runs.length:=by simpa using h0
   exact(ZeF ((lt_int (a:=(k:Int)) rfl elen).trans (by rw[decide_eq_true (by lia)]))).trans (by simp)
 have eall:(Zoc (k==0) (k+1==runs.length) run name p)=((!(k==0)||p==0)&&((!(k+1==runs.length)||p+run.length==name.length)&&(List.range run.length).all λi=>Zgy (run.getD i (false,[])) (name.getD (p+i) 0))):=by
  unfold Zoc;erw[rwl (Bool.and_assoc ..) ?_]
 erw[rwl (eall ..) ?_]
 cases c1:(!(k==0)||p==0) with
 | false=>
  rw[c1] at t1
  exact Zaf (x_f (Zaw t1) rfl)
 | true=>
  rw[c1] at t1
  cases c2:(!(k+1==runs.length)||p+run.length==name.length) with
  | false=>
   rw[c2] at t2
   exact Zaf (x_f (ZaL t1 (Zaw t2)) rfl)
  | true=>
   rw[c2] at t2
   have e0:∀σ0:Sg,rd σ0 0=some (.list (runs.map Zhk))->rd σ0 3=some (.int (k:Int))->ev ΓA σ0 (.idx (.var 0) (.var 3))=some (Zhk run):=λσ0 h0 h3=>
    ZaK (p:=.list (runs.map Zhk)) (q:=.int (k:Int)) h0 h3 (ZaM (by erw[rwl (List.getElem?_map ..) (rwl (hk ..) ?_)];rfl) (by lia))
   have hc:=Zf1 (Γ:=ΓA) (σ:=stK runs name i (Zbs k) (Zbs run.length) (.own fs) (Zbs p)) (fr:=[1,0,3,6]) (t:=7) (e:=.call 7 (.cons (.idx (.idx (.var 0) (.var 3)) (.var 7)) (.cons (.idx (.var 1) (.bin .add (.var 6) (.var 7))) .nil))) (it:=.range1 (.var 4)) (g:=Zr7 run name p)
    (Zck (n:=run.length) rfl (by lia)) (by simp;lia) (λd hd=>by
     obtain⟨j,hj,rfl⟩:=List.mem_map.mp hd
     have hj:j < run.length:=List.mem_range.mp hj
     have g1:run[j]? = some (run.getD j (false,[])):=by erw[rwl (List.getD_eq_getElem?_getD ..) (rwl (List.getElem?_eq_getElem hj ..) ?_)];rfl
     have g2:name[p+j]? = some (name.getD (p+j) 0):=by rw[List.getD_eq_getElem?_getD,List.getElem?_eq_getElem (show p+j < name.length by lia)];rfl
     have e1:ev ΓA ((mask [1,0,3,6] (stK runs name i (Zbs k) (Zbs run.length) (.own fs) (Zbs p))).set 7 (.fz (.int (j:Int)))) (.idx (.idx (.var 0) (.var 3)) (.var 7))=some (ZaV (run.getD j (false,[]))):=
      ZaK (q:=.int (j:Int)) (e0 _ rfl rfl) rfl (ZaM (by erw[rwl (List.getElem?_map ..) (rwl (g1 ..) ?_)];rfl) (by lia))
     have e2:ev ΓA ((mask [1,0,3,6] (stK runs name i (Zbs k) (Zbs run.length) (.own fs) (Zbs p))).set 7 (.fz (.int (j:Int)))) (.idx (.var 1) (.bin .add (.var 6) (.var 7)))=some (.str [name.getD (p+j) 0]):=
      ZaK (p:=.str name) (q:=.int ((p+j:Nat):Int)) rfl (ZaF (p:=.int (p:Int)) (q:=.int (j:Int)) rfl rfl rfl) (ZaW g2 (by lia))
     refine Zbe (ds:=[ZaV (run.getD j (false,[])),.str [name.getD (p+j) 0]]) (ZaP e1 (Zcc e2)) ?_
     show Zsq _=_
     erw[rwl (Zmz (ok _ (List.mem_of_getElem? g1)) ..) ?_]
     rfl)
   rw[List.map_map] at hc
   have hc2:(List.range run.length).map (Zr7 run name p ∘ λ(i:Nat)=>D.int (i:Int))=((List.range run.length).map λi=>Zgy (run.getD i (false,[])) (name.getD (p+i) 0)).map D.bool:=by
    erw[rwl (List.map_map ..) ?_];rfl
   rw[hc2] at hc
   have hn2:((List.range run.length).map λi=>Zgy (run.getD i (false,[])) (name.getD (p+i) 0)).contains false = !((List.range run.length).all λi=>Zgy (run.getD i (false,[])) (name.getD (p+i) 0)):=by
    erw[rwl (propext (Bool.eq_iff_iff ..)) ?_]
    simp
   have t3:tv ΓA (stK runs name i (Zbs k) (Zbs run.length) (.own fs) (Zbs p)) (.tcmp .notin (.const (.bool false)) (.comp [1,0,3,6] 7 (.call 7 (.cons (.idx (.idx (.var 0) (.var 3)) (.var 7)) (.cons (.idx (.var 1) (.bin .add (.var 6) (.var 7))) .nil))) (.range1 (.var 4)) (.const .none)))=some ((List.range run.length).all λi=>Zgy (run.getD i (false,[])) (name.getD (p+i) 0)):=by
    refine Zaj rfl hc ?_
    show(inD (.bool false) _).map (!·)=_
    erw[rwl (Zk0 ..) (rwl (hn2 ..) ?_)]
    simp
   cases c3:((List.range run.length).all λi=>Zgy (run.getD i (false,[])) (name.getD (p+i) 0)) with
   | true=>
    rw[c3] at t3
    exact Zaf (x_t (ZaL t1 (ZaL t2 rfl)) (Zaf (x_t t3 (Zaf (Zef (ds:=fs) (d:=.int (p:Int)) rfl rfl (by lia))))))
   | false=>
    rw[c3] at t3
    exact Zaf (x_t (ZaL t1 (ZaL t2 rfl)) (Zaf (x_f t3 rfl)))
theorem Zi7{runs:List (List Item)}{name:List Nat}{i k:Nat}{run:List Item}(hk:runs[k]? = some run)(hr:runs.length<=1000)(hn:name.length<=100)(ok:∀it∈run,Zh3 it):∀(ps:List Nat) (fs:List D) (s6:Slot),(∀p∈ps,p+run.length<=name.length)->fs.length+ps.length<=1000->s6.isApp 5=false->
  ∃t6,t6.isApp 5=false∧forL 6 (ex ΓA fuel Zt6) (ps.map λ(p:Nat)=>D.int (p:Int)) (stK runs name i (Zbs k) (Zbs run.length) (.own fs) s6) =
   some (.next,stK runs name i (Zbs k) (Zbs run.length) (.own (fs++(ps.filter (Zoc (k==0) (k+1==runs.length) run name)).map λ(p:Nat)=>D.int (p:Int))) t6)
 | [],fs,s6,_,_,h6=>⟨s6,h6,by simp[ZvB]⟩
 | p::ps,fs,s6,hp,hf,h6=>by
  simp at hf
  have h1:=ZuA (i:=i) (fs:=fs) hk hr hn (hp p List.mem_cons_self) ok (by lia)
  obtain⟨t6,ht6,ih⟩:=Zi7 hk hr hn ok ps (if Zoc (k==0) (k+1==runs.length) run name p then fs++[.int (p:Int)] else fs) (Zbs p) (λq hq=>hp q (List.mem_cons_of_mem _ hq)) (by split<;>(try simp)<;>lia) rfl
  refine⟨t6,ht6,Zj8 h1 (ih.trans ?_)⟩
  cases h:Zoc (k==0) (k+1==runs.length) run name p with
  | true=>erw[rwl (List.filter_cons_of_pos h ..) ?_];simp
  | false=>rw[List.filter_cons_of_neg (by erw[rwl (h ..) ?_];decide)];simp
theorem ZqC{runs:List (List Item)}{name:List Nat}{i k:Nat}{run:List Item}{s4 s5 s6:Slot}(h4:s4.isApp 5=false)(h5:s5.isApp 5=false)(h6:s6.isApp 5=false)(hk:runs[k]? = some run)(hr:runs.length<=1000)(hrl:run.length<=1000)(hn:name.length<=100)(hi:i<=1000)(ok:∀it∈run,Zh3 it) :
  (Zas (k==0) (k+1==runs.length) run name i=[]∧∃σ,ex ΓA fuel Zhe ((stK runs name i (Zbs 0) s4 s5 s6).set 3 (.fz (.int (k:Int))))=some (.ret (.bool false),σ))∨
  (∃p r,Zas (k==0) (k+1==runs.length) run name i=p::r∧∃t4 t5 t6,t4.isApp 5=false∧t5.isApp 5=false∧t6.isApp 5=false∧ex ΓA fuel Zhe ((stK runs name i (Zbs 0) s4 s5 s6).set 3 (.fz (.int (k:Int))))=some (.next,stK runs name (p+run.length) (Zbs k) t4 t5 t6)):=by
 have e0:ev ΓA (stK runs name i (Zbs k) s4 s5 s6) (.idx (.var 0) (.var 3))=some (Zhk run):=by
  have hkl:k < runs.length:=by
   rcases Nat.lt_or_ge k runs.length with q | q
   ·exact q
   ·rw[List.getElem?_eq_none q] at hk;cases hk
  exact ZaK (p:=.list (runs.map Zhk)) (q:=.int (k:Int)) rfl rfl (ZaM (by erw[rwl (List.getElem?_map ..) (rwl (hk ..) ?_)];rfl) (by lia))
 have e1:ex ΓA fuel (.asg 4 (.bfn .len (.idx (.var 0) (.var 3)))) (stK runs name i (Zbs k) s4 s5 s6)=some (.next,stK runs name i (Zbs k) (Zbs run.length) s5 s6):=by
  refine Zav (Zdo e0 ?_)
  show some (D.int ((run.map ZaV).length:Int))=_
  erw[rwl (List.length_map ..) ?_]
 have e2:ex ΓA fuel (.asgO 5 .nil) (stK runs name i (Zbs k) (Zbs run.length) s5 s6)=some (.next,stK runs name i (Zbs k) (Zbs run.length) (.own []) s6):=by
  refine ZkY ?_ rfl (by simp)
  show([Slot.fz _,.fz _,.fz _,Zbs k,Zbs run.length,s5,s6,.un].all λs=>!s.isApp 5)=true
  simp only[List.all_cons,List.all_nil,h5,h6]
  rfl
 have er:ev ΓA (stK runs name i (Zbs k) (Zbs run.length) (.own []) s6) (.range2 (.var 2) (.bin .add (.bin .sub (.bfn .len (.var 1)) (.var 4)) (.const (.int 1))))=some (.list ((List.range' i (name.length+1 - run.length - i)).map λ(i:Nat)=>D.int (i:Int))):=
  Zoa (a:=i) (n:=name.length) (s:=run.length) rfl (ZaF (p:=.int ((name.length:Int) - (run.length:Int))) (q:=.int 1) (ZaF (p:=.int (name.length:Int)) (q:=.int (run.length:Int)) rfl rfl rfl) rfl rfl) (by lia) (by lia) (by lia)
 obtain⟨t6,ht6,hin⟩:=Zi7 (i:=i) hk hr hn ok (List.range' i (name.length+1 - run.length - i)) [] s6 (λp hp=>by simp only[List.mem_range'_1] at hp;lia) (by simp;lia) h6
 have ef:=ZfB (Γ:=ΓA) (N:=fuel) (i:=6) (b:=Zt6) er (by simp;lia) hin
 rw[List.nil_append] at ef
 have hfl:(List.range' i (name.length+1 - run.length - i)).filter (Zoc (k==0) (k+1==runs.length) run name)=Zas (k==0) (k+1==runs.length) run name i:=rfl
 rw[hfl] at ef
 cases hff:Zas (k==0) (k+1==runs.length) run name i with
 | nil=>
  rw[hff] at ef
  exact .inl ⟨rfl,_,Zaa e1 (Zaa e2 (Zaa ef (Za7 (x_t (Zaj rfl rfl rfl) (Za7 (ZbB rfl))))))⟩
 | cons p r=>
  rw[hff] at ef
  refine .inr ⟨p,r,rfl,Zbs run.length,.own ((p::r).map λ(p:Nat)=>D.int (p:Int)),t6,rfl,rfl,ht6,Zaa e1 (Zaa e2 (Zaa ef (Zaa (x_f (Zaj rfl rfl rfl) rfl) (Zaf (Zav (ZaF (p:=.int (p:Int)) (q:=.int (run.length:Int)) (ZaK rfl rfl (ZaM (i:=0) rfl (by lia))) rfl rfl))))))⟩
theorem Zhw{first last:Bool}{run:List Item}{name:List Nat}{i p:Nat}{r:List Nat}(h:Zas first last run name i=p::r):i<=p∧p+run.length<=name.length:=by
 have:p∈Zas first last run name i:=by erw[rwl (h ..) ?_];exact List.mem_cons_self
 unfold Zas at this
 have:=(List.mem_filter.mp this).1
 have:=List.mem_range'_1.mp this
 exact⟨this.1,(ZqA this.1).mp this.2⟩
theorem ZlM{runs:List (List Item)}{name:List Nat}(hr:runs.length<=1000)(hn:name.length<=100)(ok:∀run∈runs,run.length<=1000∧∀it∈run,Zh3 it):∀(m k i:Nat) (s3 s4 s5 s6:Slot),k+m=runs.length->i<=1000->s4.isApp 5=false->s5.isApp 5=false->s6.isApp 5=false->
  (Zb5 name (k==0) (runs.drop k) i=true∧∃σ,forL 3 (ex ΓA fuel Zhe) ((List.range' k m).map λ(k:Nat)=>D.int (k:Int)) (stK runs name i s3 s4 s5 s6)=some (.next,σ))∨
  (Zb5 name (k==0) (runs.drop k) i=false∧∃σ,forL 3 (ex ΓA fuel Zhe) ((List.range' k m).map λ(k:Nat)=>D.int (k:Int)) (stK runs name i s3 s4 s5 s6)=some (.ret (.bool false),σ))
 | 0,k,i,s3,s4,s5,s6,hk,_,_,_,_=>by
  rw[List.drop_of_length_le (by lia)]
  exact .inl ⟨by simp[Zuc,ZqO],_,rfl⟩
 | m+1,k,i,s3,s4,s5,s6,hk,hi,h4,h5,h6=>by
  have hkl:k < runs.length:=by lia
  have hd:=List.drop_eq_getElem_cons hkl
  have hg:runs[k]? = some runs[k]:=List.getElem?_eq_getElem hkl
  have okr:=ok _ (List.getElem_mem hkl)
  have hlast:(runs.drop (k+1)).isEmpty=(k+1==runs.length):=by
   erw[rwl (propext (Bool.eq_iff_iff ..)) (rwl (propext (List.isEmpty_iff ..)) (rwl (propext (List.drop_eq_nil_iff ..)) ?_))]
   simp;lia
  erw[rwl (List.range'_succ ..) (rwl (List.map_cons ..) (rwl (hd ..) (rwl (ZqO ..) (rwl (hlast ..) ?_))))]
  rcases ZqC (i:=i) h4 h5 h6 hg hr okr.1 hn hi okr.2 with⟨e,σ,h⟩ | ⟨p,r,e,t4,t5,t6,g4,g5,g6,h⟩
  ·erw[rwl (e ..) ?_]
   exact .inr ⟨rfl,σ,ZuB h⟩
  ·erw[rwl (e ..) ?_]
   have hfit:=Zhw e
   have e0:(k+1==0)=false:=by simp
   have ih:=ZlM hr hn ok m (k+1) (p+runs[k].length) (Zbs k) t4 t5 t6 (by lia) (by lia) g4 g5 g6
   rw[e0] at ih
   rcases ih with⟨i1,σ,i2⟩ | ⟨i1,σ,i2⟩
   ·exact .inl ⟨i1,σ,Zj8 h i2⟩
   ·exact .inr ⟨i1,σ,Zj8 h i2⟩
theorem Znr{runs:List (List Item)}{name:List Nat}(hr:runs.length<=1000)(hn:name.length<=100)(ok:∀run∈runs,run.length<=1000∧∀it∈run,Zh3 it):Zk9 [.list (runs.map Zhk),.str name]=some (.bool (Zb5 name true runs 0)):=by
 refine Zbb rfl ?_
 have e1:ex ΓA fuel (.asg 2 (.const (.int 0))) (Ze3 8 [.list (runs.map Zhk),.str name])=some (.next,stK runs name 0 .un .un .un .un):=rfl
 have e2:ev ΓA (stK runs name 0 .un .un .un .un) (.range1 (.bfn .len (.var 0)))=some (.list ((List.range runs.length).map λ(i:Nat)=>D.int (i:Int))):=
  Zck (Zdo rfl (by show some (D.int ((runs.map Zhk).length:Int))=_;erw[rwl (List.length_map ..) ?_])) (by lia)
 rw[List.range_eq_range'] at e2
 have hl:=ZlM hr hn ok runs.length 0 0 .un .un .un .un (by lia) (by lia) rfl rfl rfl
 rw[List.drop_zero] at hl
 rcases hl with⟨h1,σ,h2⟩ | ⟨h1,σ,h2⟩
 ·erw[rwl (show Zb5 name true runs 0=true from h1 ..) ?_]
  exact⟨_,Zaa e1 (Zaa (ZfB e2 (by simp;lia) h2) (Za7 (ZbB rfl)))⟩
 ·erw[rwl (show Zb5 name true runs 0=false from h1 ..) ?_]
  exact⟨_,Zaa e1 (Za7 (ZfB e2 (by simp;lia) h2))⟩
end
section
set_option backward.match.sparseCases false
noncomputable abbrev Pz:=List Nat×List (Nat×Nat×List Nat)
noncomputable def Zao:List Nat->Pz
 | a::c::x::r=>if c=45 then([],(a,x,(Zao r).1)::(Zao r).2) else(a::(Zao (c::x::r)).1,(Zao (c::x::r)).2)
 | [a,c]=>([a,c],[])
 | [a]=>([a],[])
 | []=>([],[])
theorem ZpV:Zao []=([],[]):=rfl
theorem Zqz(a:Nat):Zao [a]=([a],[]):=rfl
theorem Zp7(a c:Nat):Zao [a,c]=([a,c],[]):=rfl
theorem Zjs(a c x:Nat)(r:List Nat):Zao (a::c::x::r)=if c=45 then([],(a,x,(Zao r).1)::(Zao r).2) else(a::(Zao (c::x::r)).1,(Zao (c::x::r)).2):=rfl
noncomputable def Zb7:List (Nat×Nat×List Nat)->List Nat->List (List Nat)
 | [],d=>[d]
 | (lo,hi,d')::rs,d=>(d++[lo])::Zb7 rs (hi::d')
theorem Znj(d:List Nat):Zb7 [] d=[d]:=rfl
theorem ZkG(lo hi:Nat)(d' d:List Nat)(rs:List (Nat×Nat×List Nat)):Zb7 ((lo,hi,d')::rs) d=(d++[lo])::Zb7 rs (hi::d'):=rfl
noncomputable def Zdg(p:Pz):List (List Nat):=Zb7 p.2 p.1
noncomputable def rmR:List (Nat×Nat×List Nat)->List Nat×List (Nat×Nat×List Nat)
 | []=>([],[])
 | (lo,hi,d)::rs=>if hi < lo then(d++(rmR rs).1,(rmR rs).2) else([],(lo,hi,d++(rmR rs).1)::(rmR rs).2)
theorem ZtN:rmR []=([],[]):=rfl
theorem Zrw(lo hi:Nat)(d:List Nat)(rs:List (Nat×Nat×List Nat)):rmR ((lo,hi,d)::rs)=if hi < lo then(d++(rmR rs).1,(rmR rs).2) else([],(lo,hi,d++(rmR rs).1)::(rmR rs).2):=rfl
theorem ZgI(lo hi:Nat)(d:List Nat)(rs:List (Nat×Nat×List Nat)):rmR ((lo,hi,d)::rs)=if hi < lo then(d++(rmR rs).1,(rmR rs).2) else([],(lo,hi,d++(rmR rs).1)::(rmR rs).2):=rfl
noncomputable def rm(p:Pz):Pz:=(p.1++(rmR p.2).1,(rmR p.2).2)
noncomputable def Zrt(p:Pz):List (List Nat):=p.1.map (λc=>[c])++p.2.flatMap λt=>[t.1,45,t.2.1]::t.2.2.map λc=>[c]
theorem ZbJ:∀b:List Nat,setMembers b=Zrt (rm (Zao b))
 | []=>rfl
 | [a]=>rfl
 | [a,c]=>rfl
 | a::c::x::r=>by
  erw[rwl (ZgS ..) (rwl (Zjs ..) ?_)]
  by_cases hc:c=45
  ·erw[rwl (if_pos hc ..) (rwl (if_pos hc ..) (rwl (ZbJ r ..) ?_))]
   show _=Zrt ([]++(rmR ((a,x,(Zao r).1)::(Zao r).2)).1,(rmR ((a,x,(Zao r).1)::(Zao r).2)).2)
   erw[rwl (ZgI ..) ?_]
   by_cases h:a<=x
   ·rw[if_pos h,if_neg (by lia)]
    unfold Zrt rm
    simp
   ·rw[if_neg h,if_pos (by lia)]
    unfold rm
    simp
  ·erw[rwl (if_neg hc ..) (rwl (if_neg hc ..) (rwl (ZbJ (c::x::r) ..) ?_))]
   unfold rm Zrt
   simp
noncomputable def Zde:List Nat->Nat->List Nat->List (List Nat)
 | cur,_,[]=>[cur]
 | cur,skip,c::r=>if skip=0∧c=45 then cur::Zde [] 2 r else Zde (cur++[c]) (skip - 1) r
theorem Zrs(cur:List Nat)(s:Nat):Zde cur s []=[cur]:=rfl
theorem Zhp(cur:List Nat)(s c:Nat)(r:List Nat):Zde cur s (c::r)=if s=0∧c=45 then cur::Zde [] 2 r else Zde (cur++[c]) (s - 1) r:=rfl
noncomputable def ZfE:List (List Nat)->List (List Nat)
 | []=>[]
 | [x]=>[x]
 | [x,[]]=>[x++[45]]
 | x::r=>x::ZfE r
theorem Zha(r:List Nat):∀(cur:List Nat) (skip:Nat),cur≠[]->∃h t,Zde cur skip r=h::t∧h≠[]:=by
 induction r with
 | nil=>intro cur skip h;exact⟨cur,[],rfl,h⟩
 | cons c r ih=>
  intro cur skip h
  erw[rwl (Zhp ..) ?_]
  split
  ·exact⟨cur,_,rfl,h⟩
  ·exact ih _ _ (by simp)
theorem ZhO{x h:List Nat}{t:List (List Nat)}(hh:h≠[]):ZfE (x::h::t)=x::ZfE (h::t):=by
 rw[ZfE]
 all_goals
  intro q
  simp at q
  try exact hh q.1
theorem Zch:∀(r cur:List Nat),cur++r≠[]->ZfE (Zde cur 1 r)=Zdg (cur++(Zao r).1,(Zao r).2)
 | [],cur,_=>by simp[Zrs,Zhp,ZfE,ZpV,Zqz,Zp7,Zjs,Zdg,Znj,ZkG]
 | [a],cur,_=>by simp[Zrs,Zhp,ZfE,ZpV,Zqz,Zp7,Zjs,Zdg,Znj,ZkG]
 | [a,c],cur,_=>by
  by_cases hc:c=45
  ·subst hc;simp[Zrs,Zhp,ZfE,ZpV,Zqz,Zp7,Zjs,Zdg,Znj,ZkG]
  ·simp[Zrs,Zhp,hc,ZfE,ZpV,Zqz,Zp7,Zjs,Zdg,Znj,ZkG]
 | a::c::x::r,cur,_=>by
  erw[rwl (Zjs ..) ?_]
  by_cases hc:c=45
  ·subst hc
   have e1:Zde cur 1 (a::45::x::r)=(cur++[a])::Zde [x] 1 r:=by
    rw[Zhp,if_neg (by simp),Zhp,if_pos (by simp),Zhp,if_neg (by simp)]
    rfl
   obtain⟨h,t,e2,hh⟩:=Zha r [x] 1 (by simp)
   rw[e1,e2,ZhO hh,←e2,Zch r [x] (by simp),if_pos rfl]
   simp[Zdg,Znj,ZkG]
  ·erw[rwl (if_neg hc ..) ?_]
   have s1:Zde cur 1 (a::c::x::r)=Zde (cur++[a]) 0 (c::x::r):=by rw[Zhp,if_neg (by simp)]
   have s2:Zde (cur++[a]) 0 (c::x::r)=Zde (cur++[a]++[c]) 0 (x::r):=by rw[Zhp,if_neg (by simp[hc])]
   have s3:Zde (cur++[a]) 1 (c::x::r)=Zde (cur++[a]++[c]) 0 (x::r):=by rw[Zhp,if_neg (by simp)]
   have e1:Zde cur 1 (a::c::x::r)=Zde (cur++[a]) 1 (c::x::r):=by erw[rwl (s1 ..) (rwl (s2 ..) (rwl (s3 ..) ?_))]
   rw[e1,Zch (c::x::r) (cur++[a]) (by simp)]
   simp
noncomputable def ZbN:List (List Nat)->List (List Nat)
 | []=>[]
 | x::r=>match ZbN r with
  | []=>[x]
  | y::t=>if y.headD 0 < x.getLastD 0 then(x.dropLast++y.tail)::t else x::y::t
theorem Zvt:ZbN []=[]:=rfl
theorem Zsm(x:List Nat)(r:List (List Nat)):ZbN (x::r)=match ZbN r with
  | []=>[x]
  | y::t=>if y.headD 0 < x.getLastD 0 then(x.dropLast++y.tail)::t else x::y::t:=rfl
theorem ZdJ:∀(rs:List (Nat×Nat×List Nat)) (d:List Nat),∃y t,Zb7 rs d=y::t∧∃z,y=d++z
 | [],d=>⟨d,[],rfl,[],by simp⟩
 | (lo,hi,d')::rs,d=>⟨d++[lo],_,rfl,[lo],rfl⟩
theorem Zf2:∀(rs:List (Nat×Nat×List Nat)) (d e:List Nat) (y:List Nat) (t:List (List Nat)),Zb7 rs e=y::t->Zb7 rs (d++e)=(d++y)::t
 | [],d,e,y,t,h=>by simp[Znj,ZkG] at h ⊢;simp[h]
 | (lo,hi,d')::rs,d,e,y,t,h=>by simp[Znj,ZkG] at h ⊢;obtain⟨rfl,rfl⟩:=h;simp
theorem Zd8:∀(rs:List (Nat×Nat×List Nat)) (d:List Nat),ZbN (Zb7 rs d)=Zb7 (rmR rs).2 (d++(rmR rs).1)
 | [],d=>by simp[Znj,ZkG,Zvt,Zsm,ZtN,Zrw]
 | (lo,hi,d')::rs,d=>by
  erw[rwl (ZkG ..) (rwl (Zsm ..) (rwl (Zd8 rs (hi::d') ..) ?_))]
  obtain⟨y,t,e,z,hz⟩:=ZdJ (rmR rs).2 ((hi::d')++(rmR rs).1)
  erw[rwl (e ..) ?_]
  dsimp only
  have h1:y.headD 0=hi:=by erw[rwl (hz ..) ?_];rfl
  have h2:(d++[lo]).getLastD 0=lo:=by erw[rwl (List.getLastD_eq_getLast? ..) ?_];simp
  erw[rwl (h1 ..) (rwl (h2 ..) (rwl (Zrw ..) ?_))]
  by_cases h:hi < lo
  ·erw[rwl (if_pos h ..) (rwl (if_pos h ..) ?_)]
   have e2:Zb7 (rmR rs).2 (d'++(rmR rs).1)=y.tail::t:=by
    obtain⟨y',t',e',_⟩:=ZdJ (rmR rs).2 (d'++(rmR rs).1)
    have:=Zf2 (rmR rs).2 [hi] (d'++(rmR rs).1) y' t' e'
    rw[show [hi]++(d'++(rmR rs).1)=(hi::d')++(rmR rs).1 by simp,e] at this
    injection this with q1 q2
    erw[rwl (e' ..) (rwl (q1 ..) (rwl (q2 ..) ?_))];rfl
   have:=Zf2 (rmR rs).2 d (d'++(rmR rs).1) y.tail t e2
   erw[rwl (this ..) ?_]
   simp
  ·erw[rwl (if_neg h ..) (rwl (if_neg h ..) (rwl (ZkG ..) ?_))]
   erw[rwl (List.append_nil ..) ?_]
   congr 1
   erw[rwr (e ..) ?_]
   simp
theorem Zgg(p:Pz):ZbN (Zdg p)=Zdg (rm p):=Zd8 p.2 p.1
noncomputable def eC(c:Nat):List Nat:=if c=92 then [92,92] else if c=45 then [92,45] else if c=38∨c=126∨c=124 then [92,c] else [c]
noncomputable def Zh6(p:Pz):List Nat:=p.1.flatMap eC++p.2.flatMap λt=>eC t.1++[45]++eC t.2.1++t.2.2.flatMap eC
theorem ZgH:∀(rs:List (Nat×Nat×List Nat)) (d:List Nat),ZbT [45] ((Zb7 rs d).map λl=>l.flatMap eC)=Zh6 (d,rs)
 | [],d=>by simp[Znj,ZkG,ZkL,ZmH,Zid,Zh6]
 | (lo,hi,d')::rs,d=>by
  have ih:=ZgH rs (hi::d')
  obtain⟨y,t,e,_⟩:=ZdJ rs (hi::d')
  erw[rwl (ZkG ..) ?_]
  rw[e] at ih ⊢
  erw[rwl (List.map_cons ..) (rwl (List.map_cons ..) (rwl (Zid ..) ?_))]
  rw[List.map_cons] at ih
  erw[rwl (ih ..) ?_]
  unfold Zh6
  simp
noncomputable def ZfG(l:List Nat):List Nat:=Zbd 45 [92,45] (Zbd 92 [92,92] l)
theorem Zdn(a b:List Nat):Zel (a++b)=Zel a++Zel b:=by unfold Zel;erw[rwl (List.flatMap_append ..) ?_]
theorem Zh8(l:List Nat):Zel (ZfG l)=l.flatMap eC:=by
 induction l with
 | nil=>rfl
 | cons c r ih=>
  have e:ZfG (c::r)=ZfG [c]++ZfG r:=by unfold ZfG Zbd;simp
  erw[rwl (e ..) (rwl (Zdn ..) (rwl (ih ..) (rwl (List.flatMap_cons ..) ?_)))]
  congr 1
  unfold ZfG Zbd eC
  by_cases h1:c=92
  ·subst h1;rfl
  ·by_cases h2:c=45
   ·subst h2;rfl
   ·simp[h1,h2,Zel]
theorem Zje:∀cs:List (List Nat),Zel (ZbT [45] (cs.map ZfG))=ZbT [45] (cs.map λl=>l.flatMap eC)
 | []=>rfl
 | [x]=>by simp[ZkL,ZmH,Zid,Zh8]
 | x::y::r=>by
  have:=Zje (y::r)
  rw[List.map_cons] at this
  erw[rwl (List.map_cons ..) (rwl (List.map_cons ..) (rwl (Zid ..) (rwl (Zdn ..) (rwl (Zdn ..) (rwl (Zh8 ..) (rwl (this ..) ?_))))))]
  rfl
theorem Zmo{l:List Nat}(h:45 ∉ l):Zel (Zbd 92 [92,92] l)=l.flatMap eC:=by
 erw[rwr (Zh8 ..) ?_]
 congr 1
 unfold ZfG
 symm
 unfold Zbd
 erw[rwl (List.flatMap_assoc ..) ?_]
 induction l with
 | nil=>rfl
 | cons c r ih=>
  simp only[List.mem_cons,not_or] at h
  erw[rwl (List.flatMap_cons ..) (rwl (List.flatMap_cons ..) (rwl (ih h.2 ..) ?_))]
  congr 1
  by_cases h1:c=92
  ·subst h1;rfl
  ·simp[h1];intro q;exact absurd q.symm h.1
theorem ZeY:∀{l:List Nat},45 ∉ l->Zao l=(l,[])
 | [],_=>rfl
 | [a],_=>rfl
 | [a,c],_=>rfl
 | a::c::x::r,h=>by
  simp only[List.mem_cons,not_or] at h
  rw[Zjs,if_neg (λq=>h.2.1 q.symm),ZeY (l:=c::x::r) (by simp only[List.mem_cons,not_or];exact h.2)]
noncomputable def Zbc(b:List Nat):List Nat:=if b.head?==some 33 then 33::Zh6 (rm (Zao b.tail)) else Zh6 (rm (Zao b))
end
section
noncomputable def ZjG:X:=match ZcG with
 | .seq _ (.seq _ (.seq _ (.seq (.whl t _) _)))=>t
 | _=>.nil
noncomputable def Zdk:S:=match ZcG with
 | .seq _ (.seq _ (.seq _ (.seq (.whl _ b) _)))=>b
 | _=>.skip
noncomputable def Zo6:S:=match Zdk with
 | .seq _ (.seq _ b)=>b
 | _=>.skip
noncomputable def Zp1:S:=match Zo6 with
 | .seq (.ifs _ _ (.seq (.ifs _ _ (.seq (.ifs _ b _) _)) _)) _=>b
 | _=>.skip
noncomputable def ZiN:S:=match Zp1 with
 | .seq _ (.seq _ (.seq _ (.seq _ b)))=>b
 | _=>.skip
noncomputable def stR(p:List Nat)(g:Addr)(res:List D)(i:Nat)(s7 s8 s9 s10 s11 s12:Slot):Sg:=
 [.fz (.str p),.fz (.obj g),.fz (.str [46]),.own res,.app 3,.fz (.int (i:Int)),.fz (.int (p.length:Int)),s7,s8,s9,s10,s11,s12,.un]
noncomputable def Zap(g:Addr):Option (List Nat)->D
 | none=>.obj g
 | some t=>.str t
theorem ZvF(g:Addr):Zap g none=.obj g:=rfl
theorem ZvN(g:Addr)(t:List Nat):Zap g (some t)=.str t:=rfl
noncomputable def ZbE(ps:List (Option (List Nat)))(x:Option (List Nat)):List (Option (List Nat)):=if x=none∧ps.getLast? = some none then ps else ps++[x]
section
variable {p:List Nat}{g:Addr}{ps:List (Option (List Nat))}{s7 s8 s9 s10 s11 s12:Slot}
theorem ZhM{pre r:List Nat}{c:Nat}{res:List D}(hb:p=pre++c::r)(hl:p.length<=800){o:Option (Fl×Sg)}(k:ex ΓA fuel Zo6 (stR p g res (pre.length+1) (.fz (.str [c])) s8 s9 s10 s11 s12)=o) :
  ex ΓA fuel Zdk (stR p g res pre.length s7 s8 s9 s10 s11 s12)=o:=by
 have hlen:p.length=pre.length+(r.length+1):=by erw[rwl (hb ..) ?_];simp
 refine Zaa (σ':=stR p g res pre.length (.fz (.str [c])) s8 s9 s10 s11 s12) (Zav (ZaK (p:=.str p) (q:=.int (pre.length:Int)) rfl rfl (ZaW (by erw[rwl (hb ..) ?_];exact ZbC pre _ 0) (by lia)))) ?_
 exact Zaa (σ':=stR p g res (pre.length+1) (.fz (.str [c])) s8 s9 s10 s11 s12) (Zav (ZaF (p:=.int (pre.length:Int)) (q:=.int 1) rfl rfl rfl)) k
theorem Zql{pre r:List Nat}(hb:p=pre++42::r)(hl:p.length<=800)(hm:ps.length<=1000) :
  ex ΓA fuel Zdk (stR p g (ps.map (Zap g)) pre.length s7 s8 s9 s10 s11 s12)=some (.next,stR p g ((ZbE ps none).map (Zap g)) (pre.length+1) (.fz (.str [42])) s8 s9 s10 s11 s12):=by
 refine ZhM hb hl (Zaf (x_t (ZbV rfl rfl rfl) (Zaf ?_)))
 have add:∀ps:List (Option (List Nat)),ps.length<=1000->ex ΓA fuel (.seq (.add 4 3 (.var 1)) .skip) (stR p g (ps.map (Zap g)) (pre.length+1) (.fz (.str [42])) s8 s9 s10 s11 s12)=some (.next,stR p g ((ps++[none]).map (Zap g)) (pre.length+1) (.fz (.str [42])) s8 s9 s10 s11 s12):=λps hm=>by
  have:=ZpH (Γ:=ΓA) (N:=fuel) (σ:=stR p g (ps.map (Zap g)) (pre.length+1) (.fz (.str [42])) s8 s9 s10 s11 s12) (i:=3) (j:=4) (x:=.var 1) (ds:=ps.map (Zap g)) (d:=.obj g) rfl rfl rfl (by simp;lia)
  erw[rwl (List.map_append ..) ?_]
  exact Zaf this
 cases hg:ps.getLast? with
 | none=>
  have:ps=[]:=List.getLast?_eq_none_iff.mp hg
  subst this
  refine x_t (ZeF (Zfj (ZcA (d:=.list []) rfl rfl))) ?_
  exact add [] (by simp)
 | some x=>
  have h0:(ps.map (Zap g)).isEmpty=false:=by
   cases ps with
   | nil=>cases hg
   | cons a r=>rfl
  have t0:tv ΓA (stR p g (ps.map (Zap g)) (pre.length+1) (.fz (.str [42])) s8 s9 s10 s11 s12) (.tnot (.tval (.tvar 3)))=some false:=
   (Zfj (ZcA (d:=.list (ps.map (Zap g))) (b:=true) rfl (by show some (!(ps.map (Zap g)).isEmpty)=_;erw[rwl (h0 ..) ?_];rfl)))
  have e1:ev ΓA (stR p g (ps.map (Zap g)) (pre.length+1) (.fz (.str [42])) s8 s9 s10 s11 s12) (.idx (.tvar 3) (.const (.int (-1))))=some (Zap g x):=ZaK rfl rfl (ZeN (by erw[rwl (List.getLast?_map ..) (rwl (hg ..) ?_)];rfl))
  cases x with
  | none=>
   have e:ZbE ps none=ps:=if_pos ⟨rfl,hg⟩
   erw[rwl (e ..) ?_]
   refine x_f (Zjf t0 (Zjf (Zaj e1 (q:=.obj g) rfl ?_) rfl)) rfl
   show((if g=g then some true else none).map (!·))=some false
   erw[rwl (if_pos rfl ..) ?_];rfl
  | some t=>
   have e:ZbE ps none=ps++[none]:=if_neg (λq=>by rw[hg] at q;cases q.2)
   erw[rwl (e ..) ?_]
   exact x_t (Zjf t0 (ZeF (Zaj e1 (q:=.obj g) rfl rfl))) (add ps hm)
theorem ZfX{x:X}{t:List Nat}{i:Nat}(he:ev ΓA (stR p g (ps.map (Zap g)) i s7 s8 s9 s10 s11 s12) x=some (.str t))(hm:ps.length<=1000) :
  ex ΓA fuel (.seq (.add 4 3 x) .skip) (stR p g (ps.map (Zap g)) i s7 s8 s9 s10 s11 s12)=some (.next,stR p g ((ZbE ps (some t)).map (Zap g)) i s7 s8 s9 s10 s11 s12):=by
 have e:ZbE ps (some t)=ps++[some t]:=if_neg (λq=>by cases q.1)
 erw[rwl (e ..) (rwl (List.map_append ..) ?_)]
 exact Zaf (ZpH (i:=3) (j:=4) (ds:=ps.map (Zap g)) rfl rfl he (by simp;lia))
theorem ZvE{pre r:List Nat}(hb:p=pre++63::r)(hl:p.length<=800)(hm:ps.length<=1000) :
  ex ΓA fuel Zdk (stR p g (ps.map (Zap g)) pre.length s7 s8 s9 s10 s11 s12)=some (.next,stR p g ((ZbE ps (some [46])).map (Zap g)) (pre.length+1) (.fz (.str [63])) s8 s9 s10 s11 s12):=
 ZhM hb hl (Zaf (x_f (ZaH (by decide) rfl rfl) (Zaf (x_t (ZbV rfl rfl rfl) (ZfX rfl hm)))))
theorem Ztw{pre r:List Nat}{c:Nat}(hb:p=pre++c::r)(h1:c≠42)(h2:c≠63)(h3:c≠91)(hl:p.length<=800)(hm:ps.length<=1000) :
  ex ΓA fuel Zdk (stR p g (ps.map (Zap g)) pre.length s7 s8 s9 s10 s11 s12)=some (.next,stR p g ((ZbE ps (some (Zff c))).map (Zap g)) (pre.length+1) (.fz (.str [c])) s8 s9 s10 s11 s12):=
 ZhM hb hl (Zaf (x_f (ZaH h1 rfl rfl) (Zaf (x_f (ZaH h2 rfl rfl) (Zaf (x_f (ZaH h3 rfl rfl) (ZfX rfl hm)))))))
theorem Zct{c:Nat}{l:List Nat}{t x:Nat}(h:l[t]? = some x):Zae c l t=if x=c then some t else Zae c l (t+1):=by
 have ht:t < l.length:=by
  rcases Nat.lt_or_ge t l.length with q | q
  ·exact q
  ·rw[List.getElem?_eq_none q] at h;cases h
 unfold Zae
 rw[show l.length - t=(l.length - (t+1))+1 by lia,List.range'_succ,List.find?_cons,h]
 by_cases q:x=c
 ·erw[rwl (if_pos q ..) (rwl (q ..) ?_)];simp
 ·have:(some x==some c)=false:=by simpa using q
  erw[rwl (if_neg q ..) (rwl (this ..) ?_)]
theorem Zb2{c:Nat}{l:List Nat}{t:Nat}(h:l.length<=t):Zae c l t=none:=by
 unfold Zae
 rw[show l.length - t=0 by lia]
 rfl
noncomputable def ZqD(l:List Nat):Option Nat->Nat
 | some k=>k
 | none=>l.length
variable {res:List D}{q r:List Nat}
theorem ZnN{t:Nat}(hb:p=q++r):tv ΓA (stR p g res q.length s7 (.fz (.int ((q.length+t:Nat):Int))) s9 s10 s11 s12) (.tcmp .lt (.var 8) (.var 6))=some (decide (t < r.length)):=by
 refine(lt_int (a:=((q.length+t:Nat):Int)) (b:=(p.length:Int)) rfl rfl).trans ?_
 have hlen:p.length=q.length+r.length:=by erw[rwl (hb ..) ?_];simp
 congr 1
 erw[rwl (propext (Bool.eq_iff_iff ..)) ?_]
 simp
 lia
theorem Zs2{t x:Nat}(hb:p=q++r)(hl:p.length<=800)(hx:r[t]? = some x):ev ΓA (stR p g res q.length s7 (.fz (.int ((q.length+t:Nat):Int))) s9 s10 s11 s12) (.idx (.var 0) (.var 8))=some (.str [x]):=by
 have ht:t < r.length:=by
  rcases Nat.lt_or_ge t r.length with h | h
  ·exact h
  ·rw[List.getElem?_eq_none h] at hx;cases hx
 have hlen:p.length=q.length+r.length:=by erw[rwl (hb ..) ?_];simp
 exact ZaK (p:=.str p) (q:=.int ((q.length+t:Nat):Int)) rfl rfl (ZaW (by erw[rwl (hb ..) (rwl (ZbC ..) ?_)];exact hx) (by lia))
theorem ZoS{t c:Nat}(hb:p=q++r)(hl:p.length<=800):ex ΓA fuel (.ifs (.tand (.cons (.tcmp .lt (.var 8) (.var 6)) (.cons (.tcmp .eq (.idx (.var 0) (.var 8)) (.const (.str [c]))) .nil))) (.seq (.asg 8 (.bin .add (.var 8) (.const (.int 1)))) .skip) .skip)
  (stR p g res q.length s7 (.fz (.int ((q.length+t:Nat):Int))) s9 s10 s11 s12)=some (.next,stR p g res q.length s7 (.fz (.int ((q.length+(if r[t]? = some c then t+1 else t):Nat):Int))) s9 s10 s11 s12):=by
 cases hx:r[t]? with
 | none=>
  have ht:r.length<=t:=List.getElem?_eq_none_iff.mp hx
  rw[if_neg (by nofun)]
  exact x_f (Zaw ((ZnN hb).trans (by rw[decide_eq_false (by lia)]))) rfl
 | some x=>
  have ht:t < r.length:=by
   rcases Nat.lt_or_ge t r.length with h | h
   ·exact h
   ·rw[List.getElem?_eq_none h] at hx;cases hx
  have t1:=(ZnN (p:=p) (g:=g) (res:=res) (s7:=s7) (s9:=s9) (s10:=s10) (s11:=s11) (s12:=s12) (t:=t) hb).trans (by erw[rwl (decide_eq_true ht ..) ?_])
  have t2:=ZlE (σ:=stR p g res q.length s7 (.fz (.int ((q.length+t:Nat):Int))) s9 s10 s11 s12) (y:=.const (.str [c])) (b:=c) (Zs2 hb hl hx) rfl
  by_cases h:x=c
  ·rw[decide_eq_true h] at t2
   rw[if_pos (by erw[rwl (h ..) ?_])]
   exact x_t (ZaL t1 (ZaL t2 rfl)) (Zaf (Zav (ZaF (p:=.int ((q.length+t:Nat):Int)) (q:=.int 1) rfl rfl rfl)))
  ·rw[decide_eq_false h] at t2
   rw[if_neg (by simpa using h)]
   exact x_f (ZaL t1 (Zaw t2)) rfl
theorem Zmb(hb:p=q++r)(hl:p.length<=800):∀(n t N:Nat),r.length - t<=n->t<=r.length->n < N->
  Zbk (λσ=>tv ΓA σ (.tand (.cons (.tcmp .lt (.var 8) (.var 6)) (.cons (.tcmp .ne (.idx (.var 0) (.var 8)) (.const (.str [93]))) .nil)))) (ex ΓA fuel (.seq (.asg 8 (.bin .add (.var 8) (.const (.int 1)))) .skip)) N (stR p g res q.length s7 (.fz (.int ((q.length+t:Nat):Int))) s9 s10 s11 s12) =
   some (.next,stR p g res q.length s7 (.fz (.int ((q.length+ZqD r (Zae 93 r t):Nat):Int))) s9 s10 s11 s12)
 | n,t,N+1,hn,ht,hN=>by
  by_cases he:t=r.length
  ·subst he
   erw[rwl (Zb2 (Nat.le_refl _) ..) ?_]
   exact ZcS (Zaw ((ZnN hb).trans (by erw[rwl (decide_eq_false (Nat.lt_irrefl _) ..) ?_])))
  ·have ht':t < r.length:=Nat.lt_of_le_of_ne ht he
   have hx:r[t]? = some r[t]:=List.getElem?_eq_getElem ht'
   have t1:=(ZnN (p:=p) (g:=g) (res:=res) (s7:=s7) (s9:=s9) (s10:=s10) (s11:=s11) (s12:=s12) (t:=t) hb).trans (by erw[rwl (decide_eq_true ht' ..) ?_])
   have e1:=Zs2 (g:=g) (res:=res) (s7:=s7) (s9:=s9) (s10:=s10) (s11:=s11) (s12:=s12) hb hl hx
   have t2:tv ΓA (stR p g res q.length s7 (.fz (.int ((q.length+t:Nat):Int))) s9 s10 s11 s12) (.tcmp .ne (.idx (.var 0) (.var 8)) (.const (.str [93])))=some (!decide (r[t]=93)):=by
    refine Zaj e1 (q:=.str [93]) rfl ?_
    show some (!([r[t]]==[93]))=_
    by_cases h:r[t]=93
    ·erw[rwl (h ..) ?_];rfl
    ·rw[decide_eq_false h,beq_eq_false_iff_ne.mpr (by simpa using h)]
   erw[rwl (Zct hx ..) ?_]
   by_cases h:r[t]=93
   ·erw[rwl (if_pos h ..) ?_]
    rw[decide_eq_true h] at t2
    exact ZcS (ZaL t1 (Zaw t2))
   ·erw[rwl (if_neg h ..) ?_]
    rw[decide_eq_false h] at t2
    match n,hn,hN with
    | n+1,hn,hN=>exact ZiE (ZaL t1 (ZaL t2 rfl)) (Zaf (Zav (ZaF (p:=.int ((q.length+t:Nat):Int)) (q:=.int 1) rfl rfl rfl))) (Zmb hb hl n (t+1) N (Nat.pred_le_pred hn) ht' (Nat.lt_of_succ_lt_succ hN))
    | 0,hn,hN=>exact absurd (Nat.lt_of_lt_of_le (Nat.sub_pos_of_lt ht') hn) (Nat.lt_irrefl 0)
 | n,t,0,_,_,hN=>absurd hN (Nat.not_lt_zero _)
theorem Zpm(r:List Nat):Zae 93 r (if r[(if r[0]? = some 33 then 1 else 0)]? = some 93 then(if r[0]? = some 33 then 1 else 0)+1 else(if r[0]? = some 33 then 1 else 0))=Zae 93 r (clS r):=by
 have e:clS r=(if r[0]? = some 33 then 1 else 0)+1:=by
  unfold clS
  cases r with
  | nil=>rfl
  | cons a r=>simp;split<;>simp_all
 erw[rwl (e ..) ?_]
 generalize (if r[0]? = some 33 then 1 else 0)=t
 cases h:r[t]? with
 | none=>
  have:=List.getElem?_eq_none_iff.mp h
  rw[if_neg (by nofun),Zb2 this,Zb2 (by lia)]
 | some x=>
  by_cases hx:x=93
  ·rw[if_pos (by erw[rwl (hx ..) ?_])]
  ·rw[if_neg (by simpa using hx),Zct h,if_neg hx]
set_option tactic.hygienic true in
theorem ZlV{r:List Nat}{t c:Nat}(h:t<=r.length):(if r[t]? = some c then t+1 else t)<=r.length:=by
 split
 ·rename_i q
  rcases Nat.lt_or_ge t r.length with z | z
  ·exact z
  ·rw[List.getElem?_eq_none z] at q;cases q
 ·exact h
theorem ZlU(hb:p=q++r)(hl:p.length<=800){o:Option (Fl×Sg)}(k:ex ΓA fuel ZiN (stR p g res q.length s7 (.fz (.int ((q.length+ZqD r (Zae 93 r (clS r)):Nat):Int))) s9 s10 s11 s12)=o) :
  ex ΓA fuel Zp1 (stR p g res q.length s7 s8 s9 s10 s11 s12)=o:=by
 have hlen:p.length=q.length+r.length:=by erw[rwl (hb ..) ?_];simp
 have a0:ex ΓA fuel (.asg 8 (.var 5)) (stR p g res q.length s7 s8 s9 s10 s11 s12)=some (.next,stR p g res q.length s7 (.fz (.int ((q.length+0:Nat):Int))) s9 s10 s11 s12):=rfl
 refine Zaa a0 (Zaa (ZoS (c:=33) hb hl) (Zaa (ZoS (c:=93) hb hl) ?_))
 rw[←Zpm r] at k
 refine Zaa (Zmb hb hl r.length _ fuel (Nat.sub_le _ _) ?_ (by simp[fuel];lia)) k
 exact ZlV (ZlV (Nat.zero_le _))
end
end
section
noncomputable def Zvu:S:=match ZiN with
 | .seq (.ifs _ _ (.seq _ b)) _=>b
 | _=>.skip
noncomputable def Zo3:S:=match Zvu with
 | .seq (.ifs _ _ b) _=>b
 | _=>.skip
noncomputable def ZrS:S:=match Zo3 with
 | .seq _ (.seq _ b)=>b
 | _=>.skip
noncomputable def cutBody:S:=match ZrS with
 | .seq (.whl _ b) _=>b
 | _=>.skip
noncomputable def ZoL:S:=match ZrS with
 | .seq _ b=>b
 | _=>.skip
noncomputable def Zs9:S:=match ZoL with
 | .seq _ (.seq _ b)=>b
 | _=>.skip
noncomputable def Zjp:S:=match Zs9 with
 | .seq (.fors _ _ b) _=>b
 | _=>.skip
theorem ZdS(c x:Nat)(l:List Nat)(s:Nat):Zae c (x::l) (s+1)=(Zae c l s).map (· + 1):=by
 have:=ZcV c [x] l s
 simp only[List.cons_append,List.nil_append,List.length_cons,List.length_nil] at this
 erw[rwl (Nat.add_comm s 1 ..) ?_]
 rw[Nat.zero_add] at this
 erw[rwl (this ..) ?_]
 congr 1
 funext j
 lia
theorem ZeW:∀(r cur:List Nat) (s:Nat),Zde cur s r=match Zae 45 r s with
  | some m=>(cur++r.take m)::Zde [] 2 (r.drop (m+1))
  | none=>[cur++r]
 | [],cur,s=>by
  rw[Zb2 (by simp)]
  simp[Zrs,Zhp]
 | c::r,cur,0=>by
  erw[rwl (Zhp ..) (rwl (Zct (x:=c) rfl ..) ?_)]
  by_cases h:c=45
  ·erw[rwl (if_pos ⟨rfl,h⟩ ..) (rwl (if_pos h ..) ?_)]
   simp
  ·rw[if_neg (by simp[h]),if_neg h,ZdS,ZeW r (cur++[c]) 0]
   cases Zae 45 r 0<;>simp
 | c::r,cur,s+1=>by
  rw[Zhp,if_neg (by simp),ZdS,Nat.add_sub_cancel,ZeW r (cur++[c]) s]
  cases Zae 45 r s<;>simp
theorem ZnX{q r:List Nat}{t k:Nat}(hk:k<=r.length):ZeD 45 (q++r) (q.length+t) (q.length+k)=match Zae 45 (r.take k) t with
  | some m=>((q.length+m:Nat):Int)
  | none=>-1:=by
 have e:((List.range' (q.length+t) (q.length+k - (q.length+t))).find? λi=>(q++r)[i]?==some 45)=(Zae 45 (r.take k) t).map (q.length + ·):=by
  unfold Zae
  have e1:List.range' (q.length+t) (q.length+k - (q.length+t))=(List.range' t (k - t)).map (q.length + ·):=by
   erw[rwl (List.map_add_range' ..) ?_]
   congr 1
   lia
  erw[rwl (e1 ..) (rwl (List.find?_map ..) (rwl (List.length_take ..) (rwl (Nat.min_eq_left hk ..) ?_)))]
  congr 1
  have:∀L:List Nat,(∀j∈L,j < k)->List.find? ((λi=>(q++r)[i]?==some 45) ∘ λx=>q.length+x) L=List.find? (λi=>(r.take k)[i]?==some 45) L:=by
   intro L
   induction L with
   | nil=>intro _;rfl
   | cons a L ih=>
    intro h
    have ha:((λi=>(q++r)[i]?==some 45) ∘ λx=>q.length+x) a=((r.take k)[a]?==some 45):=by
     show((q++r)[q.length+a]?==some 45)=_
     erw[rwl (ZbC ..) (rwl (List.getElem?_take ..) (rwl (if_pos (h a List.mem_cons_self) ..) ?_))]
    erw[rwl (List.find?_cons ..) (rwl (List.find?_cons ..) (rwl (ha ..) (rwl (ih λj hj=>h j (List.mem_cons_of_mem _ hj) ..) ?_)))]
  exact this _ λj hj=>by simp at hj;lia
 unfold ZeD
 erw[rwl (e ..) ?_]
 cases Zae 45 (r.take k) t<;>rfl
section
variable {p:List Nat}{g:Addr}{res:List D}{s7 s9 s10 s11 s12:Slot}{q r:List Nat}
noncomputable def jS(q:List Nat)(k:Nat):Slot:=.fz (.int ((q.length+k:Nat):Int))
theorem Zpw{a c:Nat}{x y:X}{σ:Sg}(hb:p=q++r)(h0:rd σ 0=some (.str p))(hx:ev ΓA σ x=some (.int ((q.length+a:Nat):Int)))(hy:ev ΓA σ y=some (.int ((q.length+c:Nat):Int))):ev ΓA σ (.slc (.var 0) x y)=some (.str ((r.take c).drop a)):=by
 refine Zcu (p:=.str p) h0 hx hy ?_
 show some (D.str (slice p _ _))=_
 erw[rwl (hb ..) (rwl (ZbQ ..) ?_)]
theorem ZqN{σ:Sg}{x y z w:X}{l:List Nat}{c i j:Nat}(hx:ev ΓA σ x=some (.str l))(hy:ev ΓA σ y=some (.str [c]))(hz:ev ΓA σ z=some (.int (i:Int)))(hw:ev ΓA σ w=some (.int (j:Int)))(hi:i<=1000000000)(hj:j<=l.length) :
  ev ΓA σ (.find3 x y z w)=some (.int (ZeD c l i j)):=
 show(ev ΓA σ x).bind _=_ from Zag hx (Zag hy (Zag hz (Zag hw (if_pos ⟨Int.natCast_nonneg i,Int.ofNat_le.mpr hi,Int.natCast_nonneg j,Int.ofNat_le.mpr hj⟩))))
theorem Zjw{k:Nat}(hb:p=q++r)(hl:p.length<=100)(hk:k<=r.length):∀(n a s:Nat) (cs:List D) (N:Nat),k - a<=n->a<=k->s<=2->cs.length+n<=1000->n < N->
  ∃(a':Nat) (fr:List (List Nat)),a'<=k∧Zde [] s ((r.take k).drop a)=fr++[(r.take k).drop a']∧
  Zbk (λσ=>tv ΓA σ (.tval (.const (.bool true)))) (ex ΓA fuel cutBody) N (stR p g res (q.length+a) s7 (jS q k) s9 (.own cs) (.fz (.int ((q.length+(a+s):Nat):Int))) s12) =
   some (.next,stR p g res (q.length+a') s7 (jS q k) s9 (.own (cs++fr.map .str)) (.fz (.int (-1))) s12)
 | n,a,s,cs,N+1,hn,ha,hs,hc,hN=>by
  have hlen:p.length=q.length+r.length:=by erw[rwl (hb ..) ?_];simp
  have e1:=ZqN (σ:=stR p g res (q.length+a) s7 (jS q k) s9 (.own cs) (.fz (.int ((q.length+(a+s):Nat):Int))) s12) (x:=.var 0) (y:=.const (.str [45])) (z:=.var 11) (w:=.var 8) (l:=p) (c:=45) (i:=q.length+(a+s)) (j:=q.length+k) rfl rfl rfl rfl (by lia) (by lia)
  have e2:ZeD 45 p (q.length+(a+s)) (q.length+k)=ZeD 45 (q++r) (q.length+(a+s)) (q.length+k):=by erw[rwl (hb ..) ?_]
  rw[e2,ZnX (t:=a+s) hk] at e1
  have e3:Zae 45 (r.take k) (a+s)=(Zae 45 ((r.take k).drop a) s).map (a + ·):=by
   have:=ZcV 45 ((r.take k).take a) ((r.take k).drop a) s
   rw[List.take_append_drop] at this
   rw[show((r.take k).take a).length=a by simp;lia] at this
   exact this
  rw[e3] at e1
  erw[rwl (ZeW ..) ?_]
  cases hf:Zae 45 ((r.take k).drop a) s with
  | none=>
   rw[hf] at e1
   exact⟨a,[],ha,by simp,Zr9 rfl (Zaa (σ':=stR p g res (q.length+a) s7 (jS q k) s9 (.own cs) (.fz (.int (-1))) s12) (Zav e1) (Zn0 (x_t (Zaj (p:=.int (-1)) (q:=.int 0) rfl rfl rfl) (Zn0 rfl)))) |>.trans (by simp)⟩
  | some m=>
   rw[hf] at e1
   have hm:=(ZaS hf).2.1
   have hmk:a+m < k:=by
    rcases Nat.lt_or_ge (a+m) k with z | z
    ·exact z
    ·rw[List.getElem?_eq_none (by simp;lia)] at hm;cases hm
   have f1:ex ΓA fuel cutBody (stR p g res (q.length+a) s7 (jS q k) s9 (.own cs) (.fz (.int ((q.length+(a+s):Nat):Int))) s12)=some (.next,stR p g res (q.length+(a+m+1)) s7 (jS q k) s9 (.own (cs++[.str (((r.take k).drop a).take m)])) (.fz (.int ((q.length+(a+m+1+2):Nat):Int))) s12):=by
    refine Zaa (σ':=stR p g res (q.length+a) s7 (jS q k) s9 (.own cs) (.fz (.int ((q.length+(a+m):Nat):Int))) s12) (Zav e1) ?_
    refine Zaa (x_f (Zaj (p:=.int ((q.length+(a+m):Nat):Int)) (q:=.int 0) rfl rfl ?_) rfl) ?_
    ·show some (decide _)=_
     rw[decide_eq_false (by lia)]
    refine Zaa (σ':=stR p g res (q.length+a) s7 (jS q k) s9 (.own (cs++[.str (((r.take k).drop a).take m)])) (.fz (.int ((q.length+(a+m):Nat):Int))) s12) (Zef (ds:=cs) rfl ((Zpw (a:=a) (c:=a+m) hb rfl rfl rfl).trans ?_) (by lia)) ?_
    ·erw[rwr (List.take_drop ..) (rwl (List.drop_take ..) (rwl (List.take_take ..) ?_))]
     erw[rwl (Nat.min_eq_left (Nat.le_sub_of_add_le (Nat.le_of_lt (Nat.add_comm a m▸hmk))) ..) ?_]
    refine Zaa (σ':=stR p g res (q.length+(a+m+1)) s7 (jS q k) s9 (.own (cs++[.str (((r.take k).drop a).take m)])) (.fz (.int ((q.length+(a+m):Nat):Int))) s12) (Zav (ZaF (p:=.int ((q.length+(a+m):Nat):Int)) (q:=.int 1) rfl rfl rfl)) ?_
    exact Zaf (Zav (ZaF (p:=.int ((q.length+(a+m):Nat):Int)) (q:=.int 3) rfl rfl rfl))
   match n,hn,hc,hN with
   | n+1,hn,hc,hN=>
    obtain⟨a',fr,h1,h2,h3⟩:=Zjw hb hl hk n (a+m+1) 2 (cs++[.str (((r.take k).drop a).take m)]) N (Zr0 hn (Nat.le_add_right a m)) hmk (Nat.le_refl 2) (by simp;lia) (Nat.lt_of_succ_lt_succ hN)
    refine⟨a',(((r.take k).drop a).take m)::fr,h1,?_,ZiE rfl f1 (h3.trans ?_)⟩
    ·dsimp only
     erw[rwl (List.drop_drop ..) ?_]
     erw[rwl (show a+(m+1)=a+m+1 from rfl ..) (rwl (h2 ..) ?_)]
     rfl
    ·simp
   | 0,hn,hc,hN=>exact absurd (Nat.lt_of_lt_of_le (Nat.sub_pos_of_lt (Nat.lt_of_le_of_lt (Nat.le_add_right a m) hmk)) hn) (Nat.lt_irrefl 0)
 | n,a,s,cs,0,_,_,_,_,hN=>absurd hN (Nat.not_lt_zero _)
end
theorem Zmk{x:List Nat}(hx:x≠[]):∀fr:List (List Nat),ZfE (fr++[x])=fr++[x]
 | []=>rfl
 | [a]=>ZhO (t:=[]) hx
 | a::b::t=>by
  have ih:=Zmk hx (b::t)
  rw[List.cons_append,List.cons_append,ZfE]
  ·rw[List.cons_append] at ih
   rw[ih]
  all_goals
   intro q
   simp at q
theorem ZjY:∀{fr:List (List Nat)} {y:List Nat},fr.getLast? = some y->ZfE (fr++[[]])=fr.dropLast++[y++[45]]
 | [],_,h=>by cases h
 | [a],y,h=>by simp at h;subst h;rfl
 | a::b::t,y,h=>by
  have ih:=ZjY (fr:=b::t) (y:=y) (by simpa using h)
  rw[List.cons_append,List.cons_append,ZfE]
  ·rw[List.cons_append] at ih
   rw[ih]
   rfl
  all_goals
   intro q
   simp at q
noncomputable def ZhC:Nat->List D
 | 0=>[]
 | m+1=>.int ((m+1:Nat):Int)::ZhC m
theorem Zva(m:Nat):ZhC (m+1)=.int ((m+1:Nat):Int)::ZhC m:=rfl
theorem ZnE(m:Nat):ZhC m=(List.range m).map λ(i:Nat)=>D.int ((m:Int)+(i:Int) * (-1)):=by
 induction m with
 | zero=>rfl
 | succ m ih=>
  erw[rwl (Zva ..) (rwl (ih ..) (rwl (List.range_succ_eq_map ..) (rwl (List.map_cons ..) (rwl (List.map_map ..) ?_))))]
  congr 1
  apply List.map_congr_left
  intro i _
  show D.int ((m:Int)+(i:Int) * (-1))=D.int (((m+1:Nat):Int)+((i+1:Nat):Int) * (-1))
  congr 1
  lia
theorem Zkw(m:Nat):Zcg (m:Int) 0 (-1)=ZhC m:=by
 unfold Zcg
 rw[if_neg (by decide),ZnE]
 have e:(((m:Int) - 0 - (-1) - 1) / (-(-1))).toNat=m:=by
  rw[show(-(-1):Int)=1 by rfl,Int.ediv_one];lia
 erw[rwl (e ..) ?_]
theorem ZhL{m i:Nat}(h:i < m):Zm6 m (.int (i:Int))=some i:=if_pos ⟨Int.natCast_nonneg i,Int.ofNat_lt.mpr h⟩
theorem ZsO{Γ:ZaC}{N i n:Nat}{σ:Sg}{k v:X}{ds:List D}{d:D}(ho:σ[i]? = some (.own ds))(hv:ev Γ σ v=some d)(hk:ev Γ σ k=some (.int (n:Int)))(hn:n < ds.length)(hl:ds.length<=16777216):ex Γ N (.setI i k v) σ=some (.next,σ.set i (.own (ds.set n d))):=
 show(ownOf σ i).bind _=_ from Zag (ZgT ho) (Zag hv (Zag hk (Zag (ZhL hn) (if_pos (Nat.le_trans (Nat.le_of_eq List.length_set) hl)))))
theorem Ztj{Γ:ZaC}{N i n:Nat}{σ:Sg}{k:X}{ds:List D}(ho:σ[i]? = some (.own ds))(hk:ev Γ σ k=some (.int (n:Int)))(hn:n < ds.length)(hl:ds.length<=16777216):ex Γ N (.delI i k) σ=some (.next,σ.set i (.own (ds.eraseIdx n))):=
 show(ownOf σ i).bind _=_ from Zag (ZgT ho) (Zag hk (Zag (ZhL hn) (if_pos (Nat.le_trans (List.length_eraseIdx_le ..) hl))))
inductive GoodC:List (List Nat)->Prop
 | one (x:List Nat):GoodC [x]
 | cons {x:List Nat} {R:List (List Nat)} {c:Nat} {z:List Nat} {t:List (List Nat)}:x≠[]->ZbN R=(c::z)::t->GoodC R->GoodC (x::R)
theorem Zf4:∀(rs:List (Nat×Nat×List Nat)) (d:List Nat),GoodC (Zb7 rs d)
 | [],d=>.one d
 | (lo,hi,d')::rs,d=>by
  have h:=Zd8 rs (hi::d')
  obtain⟨y,t,e,z,hz⟩:=ZdJ (rmR rs).2 ((hi::d')++(rmR rs).1)
  rw[e,hz] at h
  exact .cons (by simp) h (Zf4 rs (hi::d'))
theorem ZpL{R:List (List Nat)}(h:GoodC R):R≠[]:=by cases h<;>simp
section
variable {p:List Nat}{g:Addr}{res:List D}{s7 s8 s9 s10 s11 s12:Slot}{i:Nat}
theorem ZgE(n m:Nat)(hm:0 < m):Zdy n (-(m:Int))=n - m:=by
 unfold Zdy
 rw[if_pos (by lia)]
 lia
theorem Zjt{α:Type}(l:List α):slice l none (some (-1))=l.dropLast:=by
 unfold slice
 simp only[Option.map_some,Option.map_none,Option.getD_none,Option.getD_some]
 erw[rwl (List.drop_zero ..) (rwl (List.dropLast_eq_take ..) ?_)]
 exact congrArg (λk=>l.take k) (ZgE l.length 1 (by decide))
theorem Zmm{pre:List (List Nat)}{x:List Nat}{Rs:List (List Nat)}{c:Nat}{z:List Nat}{t:List (List Nat)}(hx:x≠[])(hp:ZbN Rs=(c::z)::t)(hl:(pre++x::(c::z)::t).length<=1000)(hx2:x.length+z.length<=1000) :
  ex ΓA fuel Zjp ((stR p g res i s7 s8 s9 (.own ((pre++x::(c::z)::t).map .str)) s11 s12).set 11 (.fz (.int ((pre.length+1:Nat):Int)))) =
   some (.next,stR p g res i s7 s8 s9 (.own ((pre++ZbN (x::Rs)).map .str)) (.fz (.int ((pre.length+1:Nat):Int))) s12):=by
 have hlen:pre.length+(t.length+2)<=1000:=by simpa using hl
 obtain⟨y,hy⟩:∃y,x.getLast? = some y:=by
  cases x with
  | nil=>exact absurd rfl hx
  | cons a r=>exact⟨_,List.getLast?_eq_some_getLast (by simp)⟩
 have d1:((pre++x::(c::z)::t).map D.str)[pre.length]? = some (.str x):=by
  erw[rwl (List.getElem?_map ..) ?_]
  have:=ZbC pre (x::(c::z)::t) 0
  rw[Nat.add_zero] at this
  erw[rwl (this ..) ?_];rfl
 have d2:((pre++x::(c::z)::t).map D.str)[pre.length+1]? = some (.str (c::z)):=by
  erw[rwl (List.getElem?_map ..) (rwl (ZbC ..) ?_)];rfl
 have i1:∀σ:Sg,rd σ 11=some (.int ((pre.length+1:Nat):Int))->ev ΓA σ (.bin .sub (.var 11) (.const (.int 1)))=some (.int ((pre.length:Nat):Int)):=λσ h=>ZaF (p:=.int ((pre.length+1:Nat):Int)) (q:=.int 1) h rfl (by
  show some (D.int (((pre.length+1:Nat):Int) - 1))=_
  congr 2;lia)
 have e1:∀σ:Sg,rd σ 11=some (.int ((pre.length+1:Nat):Int))->rdt σ 10=some (.list ((pre++x::(c::z)::t).map .str))->ev ΓA σ (.idx (.tvar 10) (.bin .sub (.var 11) (.const (.int 1))))=some (.str x):=λσ h h'=>
  ZaK (p:=.list ((pre++x::(c::z)::t).map .str)) (q:=.int ((pre.length:Nat):Int)) h' (i1 σ h) (ZaM d1 (by lia))
 have e2:∀σ:Sg,rd σ 11=some (.int ((pre.length+1:Nat):Int))->rdt σ 10=some (.list ((pre++x::(c::z)::t).map .str))->ev ΓA σ (.idx (.tvar 10) (.var 11))=some (.str (c::z)):=λσ h h'=>
  ZaK (p:=.list ((pre++x::(c::z)::t).map .str)) (q:=.int ((pre.length+1:Nat):Int)) h' h (ZaM d2 (by lia))
 have t1:tv ΓA (stR p g res i s7 s8 s9 (.own ((pre++x::(c::z)::t).map .str)) (.fz (.int ((pre.length+1:Nat):Int))) s12) (.tcmp .gt (.idx (.idx (.tvar 10) (.bin .sub (.var 11) (.const (.int 1)))) (.const (.int (-1)))) (.idx (.idx (.tvar 10) (.var 11)) (.const (.int 0))))=some (decide (c < y)):=by
  refine Zaj (p:=.str [y]) (q:=.str [c]) (ZaK (e1 _ rfl rfl) rfl (Zhl hy)) (ZaK (e2 _ rfl rfl) rfl (ZaW (i:=0) rfl (by lia))) ?_
  show some (ltL [c] [y])=_
  erw[rwl (lt1 ..) ?_]
 have hyD:x.getLastD 0=y:=by erw[rwl (List.getLastD_eq_getLast? ..) (rwl (hy ..) ?_)];rfl
 erw[rwl (Zsm ..) (rwl (hp ..) ?_)]
 show _=some (Fl.next,stR p g res i s7 s8 s9 (.own ((pre++if c < x.getLastD 0 then(x.dropLast++z)::t else x::(c::z)::t).map .str)) (.fz (.int ((pre.length+1:Nat):Int))) s12)
 erw[rwl (hyD ..) ?_]
 by_cases h:c < y
 ·rw[decide_eq_true h] at t1
  erw[rwl (if_pos h ..) ?_]
  have v:ev ΓA (stR p g res i s7 s8 s9 (.own ((pre++x::(c::z)::t).map .str)) (.fz (.int ((pre.length+1:Nat):Int))) s12) (.bin .add (.slc (.idx (.tvar 10) (.bin .sub (.var 11) (.const (.int 1)))) (.const .none) (.const (.int (-1)))) (.slc (.idx (.tvar 10) (.var 11)) (.const (.int 1)) (.const .none)))=some (.str (x.dropLast++z)):=by
   refine ZaF (p:=.str x.dropLast) (q:=.str z) (Zcu (e1 _ rfl rfl) (q:=.none) (r:=.int (-1)) rfl rfl ?_) (Zcu (e2 _ rfl rfl) (q:=.int 1) (r:=.none) rfl rfl ?_) (Zcq (by simp;lia))
   ·exact congrArg (λl=>some (D.str l)) (Zjt x)
   ·exact congrArg (λl=>some (D.str l)) (Zce (c::z) 1)
  have h1:=ZsO (N:=fuel) (i:=10) rfl v (i1 _ rfl) (by simp) (by simp;lia)
  have q1:((pre++x::(c::z)::t).map D.str).set pre.length (.str (x.dropLast++z))=(pre++(x.dropLast++z)::(c::z)::t).map D.str:=by
   rw[List.map_append,List.set_append_right _ _ (by simp)]
   simp
  rw[q1] at h1
  have h2:=Ztj (Γ:=ΓA) (N:=fuel) (i:=10) (k:=.var 11) (n:=pre.length+1) (σ:=stR p g res i s7 s8 s9 (.own ((pre++(x.dropLast++z)::(c::z)::t).map .str)) (.fz (.int ((pre.length+1:Nat):Int))) s12) rfl rfl (by simp) (by simp;lia)
  have q2:((pre++(x.dropLast++z)::(c::z)::t).map D.str).eraseIdx (pre.length+1)=(pre++(x.dropLast++z)::t).map D.str:=by
   rw[List.map_append,List.eraseIdx_append_of_length_le (by simp)]
   simp
  rw[q2] at h2
  exact Zaf (x_t t1 (Zaa h1 (Zaf h2)))
 ·rw[decide_eq_false h] at t1
  erw[rwl (if_neg h ..) ?_]
  exact Zaf (x_f t1 rfl)
end
end
section
set_option backward.match.sparseCases false
noncomputable def tot(L:List (List Nat)):Nat:=(L.map List.length).sum
theorem Za2(x:List Nat)(L:List (List Nat)):tot (x::L)=x.length+tot L:=by simp[tot]
theorem Zqx:tot []=0:=rfl
theorem ZeU:∀(r cur:List Nat) (s:Nat),tot (Zde cur s r)<=cur.length+r.length∧(Zde cur s r).length<=r.length+1
 | [],cur,s=>by simp[Zrs,Zhp,tot]
 | c::r,cur,s=>by
  erw[rwl (Zhp ..) ?_]
  split
  ·have:=ZeU r [] 2
   erw[rwl (Za2 ..) ?_];simp at this ⊢;lia
  ·have:=ZeU r (cur++[c]) (s - 1)
   simp at this ⊢;lia
theorem Zgr:∀L:List (List Nat),tot (ZfE L)<=tot L+1∧(ZfE L).length<=L.length
 | []=>by simp[ZfE,tot]
 | [x]=>by simp[ZfE,tot]
 | x::y::r=>by
  have ih:=Zgr (y::r)
  by_cases h:y=[]∧r=[]
  ·obtain⟨rfl,rfl⟩:=h
   simp[ZfE,tot]
  ·rw[ZfE]
   ·rw[Za2,Za2];simp at ih ⊢;lia
   all_goals
    intro q
    simp at q
    try exact h q
theorem Zdz:∀L:List (List Nat),tot (ZbN L)<=tot L∧(ZbN L).length<=L.length
 | []=>by simp[Zvt,Zsm]
 | x::r=>by
  have ih:=Zdz r
  erw[rwl (Zsm ..) ?_]
  cases h:ZbN r with
  | nil=>simp[Za2,Zqx]
  | cons y t=>
   rw[h,Za2] at ih
   have hl:(x.dropLast++y.tail).length<=x.length+y.length:=by erw[rwl (List.length_append ..) (rwl (List.length_dropLast ..) (rwl (List.length_tail ..) ?_))];exact Nat.add_le_add (Nat.sub_le _ _) (Nat.sub_le _ _)
   show _∧_
   erw[rwl (Za2 x r ..) ?_]
   dsimp only
   split
   ·erw[rwl (Za2 ..) ?_]
    exact⟨Nat.le_trans (Nat.add_le_add_right hl _) (Nat.add_assoc ..▸Nat.add_le_add_left ih.1 _),Nat.le_succ_of_le ih.2⟩
   ·erw[rwl (Za2 ..) (rwl (Za2 ..) ?_)]
    exact⟨Nat.add_le_add_left ih.1 _,Nat.succ_le_succ ih.2⟩
theorem ZiM{x:List Nat}:∀{L:List (List Nat)},x∈L->x.length<=tot L
 | y::L,h=>by
  erw[rwl (Za2 ..) ?_]
  rcases List.mem_cons.mp h with rfl | h
  ·lia
  ·have:=ZiM h;lia
theorem Zdb(c:Nat)(z:List Nat)(hz:z.length<=2)(l:List Nat):(Zbd c z l).length<=2 * l.length:=by
 induction l with
 | nil=>simp[Zbd]
 | cons a l ih=>
  have e:Zbd c z (a::l)=(if a=c then z else [a])++Zbd c z l:=by unfold Zbd;erw[rwl (List.flatMap_cons ..) ?_]
  erw[rwl (e ..) (rwl (List.length_append ..) ?_)]
  split<;>simp<;>lia
theorem Zor(l:List Nat):(ZfG l).length<=4 * l.length:=by
 have h1:=Zdb 92 [92,92] (by decide) l
 have h2:=Zdb 45 [92,45] (by decide) (Zbd 92 [92,92] l)
 unfold ZfG;lia
theorem ZgN:∀L:List (List Nat),tot (L.map ZfG)<=4 * tot L
 | []=>by simp[tot]
 | x::L=>by
  erw[rwl (List.map_cons ..) (rwl (Za2 ..) (rwl (Za2 ..) ?_))]
  have:=Zor x
  have:=ZgN L
  lia
theorem ZfV:∀L:List (List Nat),(ZbT [45] L).length<=tot L+L.length
 | []=>by simp[ZkL,ZmH,Zid]
 | [x]=>by simp[ZkL,ZmH,Zid,tot]
 | x::y::r=>by
  have:=ZfV (y::r)
  erw[rwl (Zid ..) (rwl (Za2 ..) ?_)];simp at this ⊢;lia
section
variable {p:List Nat}{g:Addr}{res:List D}{s7 s8 s9 s10 s11 s12:Slot}{i:Nat}
theorem ZgU:∀(m:Nat) (pre R:List (List Nat)) (s11:Slot),pre.length=m->R≠[]->GoodC (pre++R)->tot (pre++R)<=1000->(pre++R).length<=1000->
  ∃t11,(s11.isApp 10=false->t11.isApp 10=false)∧forL 11 (ex ΓA fuel Zjp) (ZhC m) (stR p g res i s7 s8 s9 (.own ((pre++ZbN R).map .str)) s11 s12)=some (.next,stR p g res i s7 s8 s9 (.own ((ZbN (pre++R)).map .str)) t11 s12)
 | 0,pre,R,s11,hm,_,_,_,_=>by
  have:pre=[]:=List.eq_nil_of_length_eq_zero hm
  subst this
  exact⟨s11,id,rfl⟩
 | m+1,pre,R,s11,hm,hR,hg,ht,hl=>by
  obtain⟨pre',x,rfl⟩:∃pre' x,pre=pre'++[x]:=by
   rcases List.eq_nil_or_concat pre with h | ⟨a,b,h⟩
   ·rw[h] at hm;cases hm
   ·exact⟨a,b,by erw[rwl (h ..) ?_];simp⟩
  have hm':pre'.length=m:=by simpa using hm
  subst hm'
  have hgx:∀(P:List (List Nat)),GoodC (P++x::R)->GoodC (x::R):=by
   intro P
   induction P with
   | nil=>exact id
   | cons a P ih=>
    intro h
    rw[List.cons_append] at h
    generalize hQ:P++x::R=Q at h ih
    cases h with
    | one _=>simp at hQ
    | cons _ _ h=>exact ih h
  have hg1:=hgx pre' (by simpa using hg)
  cases hg1 with
  | one _=>exact absurd rfl hR
  | @cons _ _ c z t hx hp _=>
   have hpt:=Zdz R
   rw[hp] at hpt
   have hmx:x.length+tot R<=1000:=by
    have e:tot (pre'++[x]++R)=tot pre'+(x.length+tot R):=by unfold tot;simp
    lia
   have h1:=Zmm (p:=p) (g:=g) (res:=res) (s7:=s7) (s8:=s8) (s9:=s9) (s11:=s11) (s12:=s12) (i:=i) (pre:=pre') hx hp (by simp at hl hpt ⊢;lia) (by have:=hpt.1;rw[Za2] at this;simp at this;lia)
   obtain⟨t11,i11,ih⟩:=ZgU pre'.length pre' (x::R) (.fz (.int ((pre'.length+1:Nat):Int))) rfl (by simp) (by simpa using hg) (by simpa using ht) (by simpa using hl)
   refine⟨t11,λ_=>i11 rfl,?_⟩
   erw[rwl (hp ..) ?_]
   have e1:pre'++[x]++(c::z)::t=pre'++x::(c::z)::t:=by simp
   have e2:pre'++[x]++R=pre'++x::R:=by simp
   erw[rwl (e1 ..) (rwl (e2 ..) ?_)]
   exact Zj8 h1 ih
theorem ZnD{σ:Sg}{x:X}{m:Nat}(hx:ev ΓA σ x=some (.int (m:Int)))(hm:m<=1000):ev ΓA σ (.range3 x (.const (.int 0)) (.const (.int (-1))))=some (.list (ZhC m)):=by
 show(ev ΓA σ x).bind _=_
 refine Zag hx ((if_pos ?_).trans (by erw[rwl (Zkw ..) ?_]))
 rw[Zei (Nat.le_trans hm (by decide))]
 rfl
theorem Zhu:∀m,(ZhC m).length=m
 | 0=>rfl
 | m+1=>by erw[rwl (Zva ..) (rwl (List.length_cons ..) (rwl (Zhu m ..) ?_))]
theorem Zk2{Γ:ZaC}{σ:Sg}{x:X}{l:List Nat}{c z:Nat}{zs:List Nat}(h:ev Γ σ x=some (.str l))(hl:l.length<=1000000)(hz:zs.length<=8):ev Γ σ (.repl x c z zs)=some (.str (Zbd c (z::zs) l)):=show(ev Γ σ x).bind _=_ from Zag h (if_pos ⟨hl,hz⟩)
theorem Zqi{σ:Sg}{L:List (List Nat)}(h:rdt σ 10=some (.list (L.map .str)))(ht:tot L<=200)(hl:L.length<=200)(h13:13 < σ.length) :
  ev ΓA σ (.joing (.const (.str [45])) 13 (.repl (.repl (.var 13) 92 92 [92]) 45 92 [45]) (.tvar 10))=some (.str (ZbT [45] (L.map ZfG))):=by
 have hc:ZbX (λd=>(ev ΓA ((σ.map λ_=>Slot.un).set 13 (.fz d)) (.repl (.repl (.var 13) 92 92 [92]) 45 92 [45])).map some) (L.map .str)=some ((L.map ZfG).map .str):=by
  rw[ZgA (g:=λd=>match d with | .str l=>.str (ZfG l) | d=>d) λd hd=>?_]
  ·rw[List.map_map,List.map_map];rfl
  ·obtain⟨l,hl',rfl⟩:=List.mem_map.mp hd
   have hm:=ZiM hl'
   have e1:ev ΓA ((σ.map λ_=>Slot.un).set 13 (.fz (.str l))) (.var 13)=some (.str l):=by
    show rd _ _=_
    unfold rd;rw[List.getElem?_set_self (by simpa using h13)]
   have h2:=Zdb 92 [92,92] (by decide) l
   rw[Zk2 (Zk2 e1 (by lia) (by decide)) (by lia) (by decide)]
   rfl
 have hi:itemsOf (.list (L.map D.str))=some (L.map .str):=Zc3 (by simp;lia)
 show((rdt σ 10).bind itemsOf).bind _=_
 refine Zag (Zag h hi) (Zag hc (Zag (strs_map _) (if_pos ⟨by simp;lia,by decide,?_⟩)))
 have:=ZgN L
 have e:((L.map ZfG).map (·.length)).sum=tot (L.map ZfG):=rfl
 rw[e];lia
noncomputable def Zaz(b:List Nat):List (List Nat):=ZfE (if b.head?==some 33 then Zde [33] 1 b.tail else Zde [] 1 b)
theorem Zg2{b:List Nat}(hb:b≠[]):∃d rs,Zaz b=Zb7 rs d:=by
 unfold Zaz
 split
 ·rw[Zch _ _ (by simp)]
  exact⟨_,_,rfl⟩
 ·rw[Zch _ _ (by simpa using hb)]
  exact⟨_,_,rfl⟩
theorem Zga{b:List Nat}(hb:b≠[]):∃s,1<=s∧s<=2∧Zaz b=ZfE (Zde [] s b)∧(s=2↔b.head? = some 33):=by
 cases b with
 | nil=>exact absurd rfl hb
 | cons c t=>
  by_cases hc:c=33
  ·subst hc
   refine⟨2,by decide,by decide,?_,by simp⟩
   unfold Zaz
   rw[if_pos (by simp)]
   congr 1
  ·refine⟨1,by decide,by decide,?_,by simpa using hc⟩
   unfold Zaz
   rw[if_neg (by simpa using hc)]
theorem Zic{b:List Nat}(hb:b≠[]){s:Nat}(hs:1<=s):Zde [] s b≠[[]]:=by
 cases b with
 | nil=>exact absurd rfl hb
 | cons c t=>
  match s,hs with
  | s+1,_=>
   rw[Zhp,if_neg (by simp)]
   obtain⟨h,t',e,hh⟩:=Zha t ([]++[c]) (s+1 - 1) (by simp)
   erw[rwl (e ..) ?_]
   intro q
   injection q with q1 _
   exact hh q1
theorem ZrF{Γ:ZaC}{N:Nat}{σ:Sg}{i c:Nat}{ds:List D}{l:List Nat}(ho:σ[i]? = some (.own (ds++[.str l])))(hl:l.length<=1000)(hd:ds.length<=1000):ex Γ N (.augL i c) σ=some (.next,σ.set i (.own (ds++[.str (l++[c])]))):=by
 show(ownOf σ i).bind _=_
 refine Zag (ZgT ho) (Zag List.getLast?_concat (Zag (Zcq (by simp;lia)) ?_))
 have e:(ds++[D.str l]).set ((ds++[D.str l]).length - 1) (.str (l++[c]))=ds++[.str (l++[c])]:=by
  rw[List.set_append_right _ _ (by simp)]
  simp
 erw[rwl (e ..) ?_]
 exact if_pos (by simp;lia)
end
end
section
section
variable {p:List Nat}{g:Addr}{res:List D}{s7 s9 s10 s11 s12:Slot}{q r:List Nat}
theorem Zqb{k a:Nat}{cs:List (List Nat)}{b:List Nat}(hb:p=q++r)(hbr:b=r.take k)(hl:p.length<=40)(hk:k<=r.length)(hb0:b≠[]){s:Nat}(hs:1<=s)(hcut:Zde [] s b=cs++[b.drop a])(hch:Zaz b=ZfE (Zde [] s b))(h11:s11.isApp 10=false) :
  ∃t10 t11 t12,t10.isApp 10=false∧t11.isApp 10=false∧t12.isApp 10=false∧ex ΓA fuel ZoL (stR p g res (q.length+a) s7 (jS q k) s9 (.own (cs.map .str)) s11 s12)=some (.next,stR p g res (q.length+a) s7 (jS q k) (.fz (.str (ZbT [45] ((ZbN (Zaz b)).map ZfG)))) t10 t11 t12):=by
 have hlen:p.length=q.length+r.length:=by erw[rwl (hb ..) ?_];simp
 have hbl:b.length<=40:=by erw[rwl (hbr ..) ?_];simp;lia
 have h0:=ZeU b [] s
 have h1:=Zgr (Zde [] s b)
 rw[←hch] at h1
 have h2:=Zdz (Zaz b)
 simp only[List.length_nil,Nat.zero_add] at h0
 have hcl:cs.length+1<=41:=by
  have:=h0.2
  rw[hcut] at this
  simp at this
  lia
 have e1:ex ΓA fuel (.asg 12 (.slc (.var 0) (.var 5) (.var 8))) (stR p g res (q.length+a) s7 (jS q k) s9 (.own (cs.map .str)) s11 s12)=some (.next,stR p g res (q.length+a) s7 (jS q k) s9 (.own (cs.map .str)) s11 (.fz (.str (b.drop a)))):=by
  erw[rwl (hbr ..) ?_]
  exact Zav (Zpw (a:=a) (c:=k) hb rfl rfl rfl)
 have e2:ex ΓA fuel (.ifs (.tval (.var 12)) (.seq (.app 10 (.var 12)) .skip) (.seq (.augL 10 45) .skip)) (stR p g res (q.length+a) s7 (jS q k) s9 (.own (cs.map .str)) s11 (.fz (.str (b.drop a))))=some (.next,stR p g res (q.length+a) s7 (jS q k) s9 (.own ((Zaz b).map .str)) s11 (.fz (.str (b.drop a)))):=by
  erw[rwl (hch ..) (rwl (hcut ..) ?_)]
  by_cases hd:b.drop a=[]
  ·erw[rwl (hd ..) ?_]
   have hne:cs≠[]:=by
    intro z
    rw[z,hd] at hcut
    exact Zic hb0 hs hcut
   obtain⟨fr,y,rfl⟩:∃fr y,cs=fr++[y]:=by
    rcases List.eq_nil_or_concat cs with z | ⟨u,v,z⟩
    ·exact absurd z hne
    ·exact⟨u,v,by erw[rwl (z ..) ?_];simp⟩
   rw[ZjY (y:=y) (by simp)]
   erw[rwl (List.dropLast_concat ..) ?_]
   refine x_f rfl (Zaf ?_)
   have hy:y.length<=tot (Zde [] s b):=ZiM (by erw[rwl (hcut ..) ?_];simp)
   have:=ZrF (Γ:=ΓA) (N:=fuel) (σ:=stR p g res (q.length+a) s7 (jS q k) s9 (.own ((fr++[y]).map .str)) s11 (.fz (.str []))) (i:=10) (c:=45) (ds:=fr.map .str) (l:=y) (by simp[stR]) (by lia) (by simp at hcl ⊢;lia)
   erw[rwl (this ..) ?_]
   simp[stR]
  ·erw[rwl (Zmk hd ..) ?_]
   refine x_t (ZcA rfl (by cases hz:b.drop a with
    | nil=>exact absurd hz hd
    | cons u v=>rfl)) (Zaf ?_)
   have:=Zef (Γ:=ΓA) (N:=fuel) (σ:=stR p g res (q.length+a) s7 (jS q k) s9 (.own (cs.map .str)) s11 (.fz (.str (b.drop a)))) (i:=10) (x:=.var 12) (ds:=cs.map .str) (d:=.str (b.drop a)) rfl rfl (by simp;lia)
   erw[rwl (this ..) ?_]
   simp[stR]
 obtain⟨d,rs,hcr⟩:=Zg2 hb0
 have hg:GoodC (Zaz b):=hcr▸Zf4 rs d
 obtain⟨L,z,hz⟩:∃L z,Zaz b=L++[z]:=by
  rcases List.eq_nil_or_concat (Zaz b) with w | ⟨u,v,w⟩
  ·exact absurd w (ZpL hg)
  ·exact⟨u,v,by erw[rwl (w ..) ?_];simp⟩
 obtain⟨t11,j11,e3⟩:=ZgU (p:=p) (g:=g) (res:=res) (s7:=s7) (s8:=jS q k) (s9:=s9) (s12:=.fz (.str (b.drop a))) (i:=q.length+a) L.length L [z] s11 rfl (by simp) (hz▸hg) (by erw[rwr (hz ..) ?_];lia) (by erw[rwr (hz ..) ?_];lia)
 rw[show ZbN [z]=[z] from rfl,←hz] at e3
 have e4:=ZnD (σ:=stR p g res (q.length+a) s7 (jS q k) s9 (.own ((Zaz b).map .str)) s11 (.fz (.str (b.drop a)))) (x:=.bin .sub (.bfn .len (.tvar 10)) (.const (.int 1))) (m:=L.length)
  (ZaF (p:=.int ((Zaz b).length:Int)) (q:=.int 1) (Zdo rfl (by show some (D.int (((Zaz b).map D.str).length:Int))=_;erw[rwl (List.length_map ..) ?_])) rfl (by
   show some (D.int (((Zaz b).length:Int) - 1))=_
   congr 2
   erw[rwl (hz ..) ?_]
   simp)) (by
   have:=h1.2
   rw[hz] at this
   simp at this
   lia)
 have hL:L.length<=41:=by
  have:=h1.2
  rw[hz] at this
  simp at this
  lia
 refine⟨.own ((ZbN (Zaz b)).map .str),t11,.fz (.str (b.drop a)),rfl,j11 h11,rfl,Zaa e1 (Zaa e2 (Zaa (ZfB e4 (by erw[rwl (Zhu ..) ?_];lia) e3) (Zaf ?_)))⟩
 have:=Zqi (σ:=stR p g res (q.length+a) s7 (jS q k) s9 (.own ((ZbN (Zaz b)).map .str)) t11 (.fz (.str (b.drop a)))) (L:=ZbN (Zaz b)) rfl (by lia) (by lia) (by simp[stR])
 exact(show(ev ΓA _ (.joing _ _ _ _)).map _=_ from ZgR this rfl)
theorem ZlJ{k:Nat}(hb:p=q++r)(hl:p.length<=40)(hk:k<=r.length){s:Nat}(hs:s<=2) :
  ∃(a':Nat) (fr:List (List Nat)),a'<=k∧Zde [] s (r.take k)=fr++[(r.take k).drop a']∧
  ex ΓA fuel (.whl (.tval (.const (.bool true))) cutBody) (stR p g res q.length s7 (jS q k) s9 (.own []) (.fz (.int ((q.length+s:Nat):Int))) s12) =
   some (.next,stR p g res (q.length+a') s7 (jS q k) s9 (.own (fr.map .str)) (.fz (.int (-1))) s12):=by
 have hlen:p.length=q.length+r.length:=by erw[rwl (hb ..) ?_];simp
 obtain⟨a',fr,h1,h2,h3⟩:=Zjw (p:=p) (g:=g) (res:=res) (s7:=s7) (s9:=s9) (s12:=s12) hb (by lia) hk k 0 s [] fuel (by lia) (by lia) hs (by simp;lia) (by simp[fuel];lia)
 refine⟨a',fr,h1,by simpa using h2,?_⟩
 simp only[Nat.add_zero,Nat.zero_add,List.nil_append] at h3
 exact h3
theorem Zq0{k:Nat}(hb:p=q++r)(hl:p.length<=40)(hk:k<=r.length)(hb0:r.take k≠[])(h10:s10.isApp 10=false)(h7:s7.isApp 10=false)(h9:s9.isApp 10=false)(h11:s11.isApp 10=false)(h12:s12.isApp 10=false) :
  ∃i t10 t11 t12,t10.isApp 10=false∧t11.isApp 10=false∧t12.isApp 10=false∧ex ΓA fuel Zo3 (stR p g res q.length s7 (jS q k) s9 s10 s11 s12)=some (.next,stR p g res i s7 (jS q k) (.fz (.str (ZbT [45] ((ZbN (Zaz (r.take k))).map ZfG)))) t10 t11 t12):=by
 have hlen:p.length=q.length+r.length:=by erw[rwl (hb ..) ?_];simp
 obtain⟨s,hs1,hs2,hch,hs3⟩:=Zga hb0
 obtain⟨a',fr,c1,c2,c3⟩:=ZlJ (p:=p) (g:=g) (res:=res) (s7:=s7) (s9:=s9) (s12:=s12) hb hl hk hs2
 obtain⟨t10,t11,t12,j10,j11,j12,hlast⟩:=Zqb (p:=p) (g:=g) (res:=res) (s7:=s7) (s9:=s9) (s11:=.fz (.int (-1))) (s12:=s12) hb rfl hl hk hb0 hs1 c2 hch rfl
 have e0:ex ΓA fuel (.asgO 10 .nil) (stR p g res q.length s7 (jS q k) s9 s10 s11 s12)=some (.next,stR p g res q.length s7 (jS q k) s9 (.own []) s11 s12):=by
  refine ZkY ?_ rfl (by simp)
  show([Slot.fz _,.fz _,.fz _,.own res,.app 3,.fz _,.fz _,s7,jS q k,s9,s10,s11,s12,.un].all λs=>!s.isApp 10)=true
  simp only[List.all_cons,List.all_nil,h7,h9,h10,h11,h12]
  rfl
 obtain⟨c,t,hr⟩:∃c t,r=c::t:=by
  cases r with
  | nil=>simp at hb0
  | cons c t=>exact⟨c,t,rfl⟩
 have hc:p[q.length]? = some c:=by
  have:=ZbC q r 0
  rw[Nat.add_zero] at this
  erw[rwl (hb ..) (rwl (this ..) (rwl (hr ..) ?_))];rfl
 have hh:(r.take k).head? = some c:=by
  match k,hb0 with
  | k+1,_=>erw[rwl (hr ..) ?_];rfl
  | 0,hb0=>simp at hb0
 have ei:ev ΓA (stR p g res q.length s7 (jS q k) s9 (.own []) s11 s12) (.idx (.var 0) (.var 5))=some (.str [c]):=ZaK (p:=.str p) (q:=.int (q.length:Int)) rfl rfl (ZaW hc (by lia))
 have e1:ex ΓA fuel (.asg 11 (.ite (.tcmp .eq (.idx (.var 0) (.var 5)) (.const (.str [33]))) (.bin .add (.var 5) (.const (.int 2))) (.bin .add (.var 5) (.const (.int 1))))) (stR p g res q.length s7 (jS q k) s9 (.own []) s11 s12)=some (.next,stR p g res q.length s7 (jS q k) s9 (.own []) (.fz (.int ((q.length+s:Nat):Int))) s12):=by
  by_cases h:c=33
  ·have:s=2:=hs3.mpr (by erw[rwl (hh ..) (rwl (h ..) ?_)])
   subst this
   exact Zav (Zfo (ZbV h ei rfl) (ZaF (p:=.int (q.length:Int)) (q:=.int 2) rfl rfl rfl))
  ·have:s=1:=by
    have:s≠2:=λz=>by
     have:=hs3.mp z
     rw[hh] at this
     exact h (by injection this)
    lia
   subst this
   exact Zav (ZgM (ZaH h ei rfl) (ZaF (p:=.int (q.length:Int)) (q:=.int 1) rfl rfl rfl))
 exact⟨_,t10,t11,t12,j10,j11,j12,Zaa e0 (Zaa e1 (Zaa c3 hlast))⟩
end
end
section
theorem Zs3(c:Nat)(p:Pz):rm (c::p.1,p.2)=(c::(rm p).1,(rm p).2):=rfl
theorem ZlW{b:List Nat}(hb:b≠[]):Zel (ZbT [45] ((ZbN (Zaz b)).map ZfG))=Zbc b:=by
 erw[rwl (Zje ..) ?_]
 unfold Zaz Zbc
 split
 ·rw[Zch _ _ (by simp),Zgg]
  unfold Zdg
  erw[rwl (ZgH ..) ?_]
  show Zh6 (rm (33::(Zao b.tail).1,(Zao b.tail).2))=_
  erw[rwl (Zs3 ..) ?_]
  rfl
 ·rw[Zch _ _ (by simpa using hb),Zgg]
  unfold Zdg
  erw[rwl (ZgH ..) ?_]
  rfl
theorem Zhh{b:List Nat}(h:45 ∉ b):Zh6 (rm (Zao b))=b.flatMap eC:=by
 erw[rwl (ZeY h ..) ?_]
 unfold rm Zh6 rmR
 simp
set_option tactic.hygienic true in
theorem Zii{b:List Nat}(h:45 ∉ b):Zel (Zbd 92 [92,92] b)=Zbc b:=by
 erw[rwl (Zmo h ..) ?_]
 unfold Zbc
 split
 ·rename_i h'
  cases b with
  | nil=>simp at h'
  | cons c t=>
   have:c=33:=by simpa using h'
   subst this
   erw[rwl (List.tail_cons ..) (rwl (Zhh λq=>h (List.mem_cons_of_mem _ q) ..) ?_)]
   rfl
 ·erw[rwl (Zhh h ..) ?_]
noncomputable def Zpv:List Nat->List Nat
 | []=>[]
 | c::t=>if c=33 then 94::t else if c=94∨c=91 then 92::c::t else c::t
theorem ZaY(c:Nat)(t:List Nat):Zpv (c::t)=if c=33 then 94::t else if c=94∨c=91 then 92::c::t else c::t:=rfl
noncomputable def ZaN(w:List Nat):List Nat:=if w=[] then [40,63,33,41] else if w=[33] then [46] else 91::Zpv w++[93]
theorem ZlG(c:Nat):(eC c).length<=2:=by
 unfold eC
 split
 ·simp
 split
 ·simp
 split<;>simp
noncomputable def ZsU:S:=match Zvu with
 | .seq _ b=>b
 | _=>.skip
noncomputable def Zt3:S:=match ZsU with
 | .seq _ (.seq _ b)=>b
 | _=>.skip
section
variable {p:List Nat}{g:Addr}{ps:List (Option (List Nat))}{s7 s8 s9 s10 s11 s12:Slot}{q r:List Nat}{i:Nat}
theorem Zsl{w:List Nat}(hw:w.length<=1000)(hm:ps.length<=1000) :
  ∃w',ex ΓA fuel Zt3 (stR p g (ps.map (Zap g)) i s7 s8 (.fz (.str w)) s10 s11 s12)=some (.next,stR p g ((ZbE ps (some (ZaN w))).map (Zap g)) i s7 s8 (.fz (.str w')) s10 s11 s12):=by
 cases w with
 | nil=>exact⟨[],Zaf (x_t (Zfj (ZcA (b:=false) rfl rfl)) (ZfX rfl hm))⟩
 | cons c t=>
  have t0:tv ΓA (stR p g (ps.map (Zap g)) i s7 s8 (.fz (.str (c::t))) s10 s11 s12) (.tnot (.tval (.var 9)))=some false:=Zfj (ZcA (b:=true) rfl rfl)
  by_cases h1:c::t=[33]
  ·erw[rwl (h1 ..) ?_]
   exact⟨[33],Zaf (x_f (Zfj (ZcA (b:=true) rfl rfl)) (Zaf (x_t (Zaj (p:=.str [33]) (q:=.str [33]) rfl rfl rfl) (ZfX rfl hm))))⟩
  ·have t1:tv ΓA (stR p g (ps.map (Zap g)) i s7 s8 (.fz (.str (c::t))) s10 s11 s12) (.tcmp .eq (.var 9) (.const (.str [33])))=some false:=by
    refine Zaj (p:=.str (c::t)) (q:=.str [33]) rfl rfl ?_
    show some (c::t==[33])=_
    erw[rwl (beq_eq_false_iff_ne.mpr h1 ..) ?_]
   have ei:ev ΓA (stR p g (ps.map (Zap g)) i s7 s8 (.fz (.str (c::t))) s10 s11 s12) (.idx (.var 9) (.const (.int 0)))=some (.str [c]):=ZaK (p:=.str (c::t)) (q:=.int 0) rfl rfl (ZaW (i:=0) rfl (by lia))
   have fin:∀w',(Zpv (c::t))=w'->ex ΓA fuel (.seq (.add 4 3 (.fstr [91] (.var 9) [93])) .skip) (stR p g (ps.map (Zap g)) i s7 s8 (.fz (.str w')) s10 s11 s12)=some (.next,stR p g ((ZbE ps (some (ZaN (c::t)))).map (Zap g)) i s7 s8 (.fz (.str w')) s10 s11 s12):=λw' hw'=>by
    have e:ZaN (c::t)=[91]++w'++[93]:=by
     unfold ZaN
     rw[if_neg (by simp),if_neg h1,hw']
     rfl
    have hl:w'.length<=1002:=by
     erw[rwr (hw' ..) (rwl (ZaY ..) ?_)]
     have hw:t.length+1<=1000:=hw
     split
     ·show t.length+1<=1002
      lia
     ·split
      ·show t.length+1+1<=1002
       lia
      ·show t.length+1<=1002
       lia
    erw[rwl (e ..) ?_]
    exact ZfX (Zcq (by simp;lia)) hm
   by_cases h2:c=33
   ·refine⟨94::t,Zaf (x_f t0 (Zaf (x_f t1 (Zaa (x_t (ZbV h2 ei rfl) (Zaf (Zav (d:=.str (94::t)) (ZaF (p:=.str [94]) (q:=.str t) rfl (Zcu (p:=.str (c::t)) (q:=.int 1) (r:=.none) rfl rfl rfl ?_) (Zcq ?_))))) (fin _ ?_)))))⟩
    ·exact congrArg (λl=>some (D.str l)) (Zce (c::t) 1)
    ·simp at hw ⊢;lia
    ·erw[rwl (ZaY ..) (rwl (if_pos h2 ..) ?_)]
   ·have t3:tv ΓA (stR p g (ps.map (Zap g)) i s7 s8 (.fz (.str (c::t))) s10 s11 s12) (.tcmp .isin (.idx (.var 9) (.const (.int 0))) (.tuple (.cons (.const (.str [94])) (.cons (.const (.str [91])) .nil))))=some (decide (c=94∨c=91)):=by
     refine Zaj (p:=.str [c]) (q:=.tuple [.str [94],.str [91]]) ei rfl ?_
     show some ([[94],[91]].contains [c])=_
     congr 1
     erw[rwl (propext (Bool.eq_iff_iff ..)) ?_]
     simp
    by_cases h3:c=94∨c=91
    ·rw[decide_eq_true h3] at t3
     refine⟨92::c::t,Zaf (x_f t0 (Zaf (x_f t1 (Zaa (x_f (ZaH h2 ei rfl) (Zaf (x_t t3 (Zaf (Zav (d:=.str (92::c::t)) (ZaF (p:=.str [92]) (q:=.str (c::t)) rfl rfl (Zcq ?_))))))) (fin _ ?_)))))⟩
     ·simp at hw ⊢;lia
     ·erw[rwl (ZaY ..) (rwl (if_neg h2 ..) (rwl (if_pos h3 ..) ?_))]
    ·rw[decide_eq_false h3] at t3
     refine⟨c::t,Zaf (x_f t0 (Zaf (x_f t1 (Zaa (x_f (ZaH h2 ei rfl) (Zaf (x_f t3 rfl))) (fin _ ?_)))))⟩
     erw[rwl (ZaY ..) (rwl (if_neg h2 ..) (rwl (if_neg h3 ..) ?_))]
theorem ZgL:∀l:List Nat,(l.flatMap eC).length<=2 * l.length
 | []=>by simp
 | c::l=>by
  have:=ZgL l
  have:=ZlG c
  erw[rwl (List.flatMap_cons ..) (rwl (List.length_append ..) (rwl (List.length_cons ..) ?_))];lia
theorem ZjK:∀b:List Nat,(Zh6 (rm (Zao b))).length<=2 * b.length:=by
 intro b
 have h:∀(rs:List (Nat×Nat×List Nat)) (d:List Nat),(Zh6 (d,rs)).length<=(List.length (d.flatMap eC))+(rs.map λt=>5+2 * t.2.2.length).sum:=by
  intro rs
  induction rs with
  | nil=>intro d;simp[Zh6]
  | cons t rs ih=>
   intro d
   have:=ih []
   have h1:=ZlG t.1
   have h2:=ZlG t.2.1
   have h3:=ZgL t.2.2
   simp only[Zh6,List.flatMap_cons,List.flatMap_nil,List.length_append,List.map_cons,List.sum_cons,List.nil_append,List.length_nil,List.length_cons] at this ⊢
   lia
 have hs:∀(rs:List (Nat×Nat×List Nat)),2 * (rmR rs).1.length+(((rmR rs).2).map λt=>5+2 * t.2.2.length).sum<=(rs.map λt=>5+2 * t.2.2.length).sum:=by
  intro rs
  induction rs with
  | nil=>simp[ZtN,Zrw]
  | cons t rs ih=>
   obtain⟨lo,hi,d⟩:=t
   erw[rwl (Zrw ..) ?_]
   split
   ·simp;lia
   ·simp;lia
 have hp:∀b:List Nat,2 * (Zao b).1.length+((Zao b).2.map λt=>5+2 * t.2.2.length).sum<=2 * b.length:=by
  intro b
  induction b using Zao.induct with
  | case1 a x r ih=>erw[rwl (Zjs ..) ?_];simp;lia
  | case2 a c x r hc ih=>erw[rwl (Zjs ..) (rwl (if_neg hc ..) ?_)];simp at ih ⊢;lia
  | case3 a c=>simp[ZpV,Zqz,Zp7,Zjs]
  | case4 a=>simp[ZpV,Zqz,Zp7,Zjs]
  | case5=>simp[ZpV,Zqz,Zp7,Zjs]
 have h1:=h (rm (Zao b)).2 (rm (Zao b)).1
 have h2:=hs (Zao b).2
 have h3:=hp b
 have h4:=ZgL (rm (Zao b)).1
 have h5:(rm (Zao b)).1.length=(Zao b).1.length+(rmR (Zao b).2).1.length:=by unfold rm;simp
 have h6:(rm (Zao b)).2=(rmR (Zao b).2).2:=rfl
 rw[h6] at h1
 have h7:Zh6 ((rm (Zao b)).1,(rmR (Zao b).2).2)=Zh6 (rm (Zao b)):=rfl
 rw[h7] at h1
 lia
set_option tactic.hygienic true in
theorem ZfA(b:List Nat):(Zbc b).length<=2 * b.length:=by
 unfold Zbc
 split
 ·rename_i h
  cases b with
  | nil=>simp at h
  | cons c t=>
   have:=ZjK t
   simp at this ⊢;lia
 ·exact ZjK b
end
end
section
section
variable {p:List Nat}{g:Addr}{ps:List (Option (List Nat))}{s7 s8 s9 s10 s11 s12:Slot}{i:Nat}
noncomputable abbrev NoA(s7 s8 s9 s10 s11 s12:Slot):Prop:=(s7.isApp 10=false)∧(s8.isApp 10=false)∧(s9.isApp 10=false)∧(s10.isApp 10=false)∧(s11.isApp 10=false)∧(s12.isApp 10=false)
theorem NoA.a7{s7 s8 s9 s10 s11 s12:Slot}(slf:NoA s7 s8 s9 s10 s11 s12):s7.isApp 10=false:=slf.1
theorem NoA.a8{s7 s8 s9 s10 s11 s12:Slot}(slf:NoA s7 s8 s9 s10 s11 s12):s8.isApp 10=false:=slf.2.1
theorem NoA.a9{s7 s8 s9 s10 s11 s12:Slot}(slf:NoA s7 s8 s9 s10 s11 s12):s9.isApp 10=false:=slf.2.2.1
theorem NoA.a10{s7 s8 s9 s10 s11 s12:Slot}(slf:NoA s7 s8 s9 s10 s11 s12):s10.isApp 10=false:=slf.2.2.2.1
theorem NoA.a11{s7 s8 s9 s10 s11 s12:Slot}(slf:NoA s7 s8 s9 s10 s11 s12):s11.isApp 10=false:=slf.2.2.2.2.1
theorem NoA.a12{s7 s8 s9 s10 s11 s12:Slot}(slf:NoA s7 s8 s9 s10 s11 s12):s12.isApp 10=false:=slf.2.2.2.2.2
theorem ZpE{pre r:List Nat}(hb:p=pre++91::r)(hl:p.length<=40)(hm:ps.length<=1000)(hf:Zae 93 r (clS r)=none) :
  ∃t8,ex ΓA fuel Zdk (stR p g (ps.map (Zap g)) pre.length s7 s8 s9 s10 s11 s12)=some (.next,stR p g ((ZbE ps (some [92,91])).map (Zap g)) (pre.length+1) (.fz (.str [91])) (.fz t8) s9 s10 s11 s12):=by
 have hlen:p.length=pre.length+(r.length+1):=by erw[rwl (hb ..) ?_];simp
 have hb':p=(pre++[91])++r:=by erw[rwl (hb ..) ?_];simp
 have e:(pre++[91]).length=pre.length+1:=by simp
 have h:ex ΓA fuel Zp1 (stR p g (ps.map (Zap g)) (pre++[91]).length (.fz (.str [91])) s8 s9 s10 s11 s12)=some (.next,stR p g ((ZbE ps (some [92,91])).map (Zap g)) (pre++[91]).length (.fz (.str [91])) (.fz (.int (((pre++[91]).length+r.length:Nat):Int))) s9 s10 s11 s12):=by
  refine ZlU hb' (by lia) ?_
  erw[rwl (hf ..) ?_]
  refine Zaf (x_t (Zaj (p:=.int (((pre++[91]).length+r.length:Nat):Int)) (q:=.int (p.length:Int)) rfl rfl ?_) (ZfX rfl hm))
  show some (decide ((p.length:Int)<=_))=_
  rw[decide_eq_true (by lia)]
 rw[e] at h
 exact⟨_,ZhM hb (by lia) (Zaf (x_f (ZaH (by decide) rfl rfl) (Zaf (x_f (ZaH (by decide) rfl rfl) (Zaf (x_t (ZbV rfl rfl rfl) h))))))⟩
theorem ZsS{pre r:List Nat}{k:Nat}(hb:p=pre++91::r)(hl:p.length<=40)(hm:ps.length<=1000)(hf:Zae 93 r (clS r)=some k)(na:NoA s7 s8 s9 s10 s11 s12) :
  ∃t7 t8 t9 t10 t11 t12,NoA t7 t8 t9 t10 t11 t12∧ex ΓA fuel Zdk (stR p g (ps.map (Zap g)) pre.length s7 s8 s9 s10 s11 s12)=some (.next,stR p g ((ZbE ps (some (ZaN (Zbc (r.take k))))).map (Zap g)) (pre.length+1+(k+1)) t7 t8 t9 t10 t11 t12):=by
 have hlen:p.length=pre.length+(r.length+1):=by erw[rwl (hb ..) ?_];simp
 obtain⟨k1,k2,_⟩:=ZaS hf
 have hkl:k < r.length:=by
  rcases Nat.lt_or_ge k r.length with z | z
  ·exact z
  ·rw[List.getElem?_eq_none z] at k2;cases k2
 have hcl:1<=clS r:=by unfold clS;split<;>decide
 have hb':p=(pre++[91])++r:=by erw[rwl (hb ..) ?_];simp
 have hq:(pre++[91]).length=pre.length+1:=by simp
 have hb0:r.take k≠[]:=by
  intro z
  have:=congrArg List.length z
  rw[List.length_take,Nat.min_eq_left (by lia)] at this
  have this:k=0:=this
  lia
 have hbl:(r.take k).length<=40:=by simp;lia
 have key:∃t7 t8 t9 t10 t11 t12,NoA t7 t8 t9 t10 t11 t12∧ex ΓA fuel ZiN (stR p g (ps.map (Zap g)) (pre++[91]).length (.fz (.str [91])) (.fz (.int (((pre++[91]).length+ZqD r (Zae 93 r (clS r)):Nat):Int))) s9 s10 s11 s12)=some (.next,stR p g ((ZbE ps (some (ZaN (Zbc (r.take k))))).map (Zap g)) (pre.length+1+(k+1)) t7 t8 t9 t10 t11 t12):=by
  erw[rwl (hf ..) ?_]
  have t0:tv ΓA (stR p g (ps.map (Zap g)) (pre++[91]).length (.fz (.str [91])) (jS (pre++[91]) k) s9 s10 s11 s12) (.tcmp .ge (.var 8) (.var 6))=some false:=by
   refine Zaj (p:=.int (((pre++[91]).length+k:Nat):Int)) (q:=.int (p.length:Int)) rfl rfl ?_
   show some (decide ((p.length:Int)<=_))=_
   rw[decide_eq_false (by lia)]
  have e1:ex ΓA fuel (.asg 9 (.slc (.var 0) (.var 5) (.var 8))) (stR p g (ps.map (Zap g)) (pre++[91]).length (.fz (.str [91])) (jS (pre++[91]) k) s9 s10 s11 s12)=some (.next,stR p g (ps.map (Zap g)) (pre++[91]).length (.fz (.str [91])) (jS (pre++[91]) k) (.fz (.str (r.take k))) s10 s11 s12):=
   Zav (Zpw (a:=0) (c:=k) hb' rfl rfl rfl)
  have fin:∀(i:Nat) (w:List Nat) (t10 t11 t12:Slot),w.length<=1000->Zel w=Zbc (r.take k)->NoA (.fz (.str [91])) (jS (pre++[91]) k) (.fz (.str w)) t10 t11 t12->∃t9,t9.isApp 10=false∧ex ΓA fuel ZsU (stR p g (ps.map (Zap g)) i (.fz (.str [91])) (jS (pre++[91]) k) (.fz (.str w)) t10 t11 t12)=some (.next,stR p g ((ZbE ps (some (ZaN (Zbc (r.take k))))).map (Zap g)) (pre.length+1+(k+1)) (.fz (.str [91])) (jS (pre++[91]) k) t9 t10 t11 t12):=λi w t10 t11 t12 hw hs _=>by
   have hsl:(Zbc (r.take k)).length<=1000:=by have:=ZfA (r.take k);lia
   obtain⟨w',hp⟩:=Zsl (p:=p) (g:=g) (ps:=ps) (s7:=.fz (.str [91])) (s8:=jS (pre++[91]) k) (s10:=t10) (s11:=t11) (s12:=t12) (i:=pre.length+1+(k+1)) hsl hm
   refine⟨.fz (.str w'),rfl,Zaa (σ':=stR p g (ps.map (Zap g)) i (.fz (.str [91])) (jS (pre++[91]) k) (.fz (.str (Zbc (r.take k)))) t10 t11 t12) ?_ (Zaa (σ':=stR p g (ps.map (Zap g)) (pre.length+1+(k+1)) (.fz (.str [91])) (jS (pre++[91]) k) (.fz (.str (Zbc (r.take k)))) t10 t11 t12) ?_ hp)⟩
   ·have:ev ΓA (stR p g (ps.map (Zap g)) i (.fz (.str [91])) (jS (pre++[91]) k) (.fz (.str w)) t10 t11 t12) (.resub (.var 9))=some (.str (Zel w)):=by
     exact if_pos hw
    rw[hs] at this
    exact(show(ev ΓA _ (.resub _)).map _=_ from ZgR this rfl)
   ·refine Zav (ZaF (p:=.int (((pre++[91]).length+k:Nat):Int)) (q:=.int 1) rfl rfl ?_)
    show some (D.int (_+1))=_
    congr 2
    erw[rwl (hq ..) ?_]
    lia
  have t1:tv ΓA (stR p g (ps.map (Zap g)) (pre++[91]).length (.fz (.str [91])) (jS (pre++[91]) k) (.fz (.str (r.take k))) s10 s11 s12) (.tcmp .notin (.const (.str [45])) (.var 9))=some (!(r.take k).contains 45):=Zaj (p:=.str [45]) (q:=.str (r.take k)) rfl rfl rfl
  cases hc:(r.take k).contains 45 with
  | false=>
   rw[hc] at t1
   have hn:45 ∉ r.take k:=by simpa using hc
   have hw:(Zbd 92 [92,92] (r.take k)).length<=1000:=by have:=Zdb 92 [92,92] (by decide) (r.take k);lia
   obtain⟨t9,j9,hfin⟩:=fin (pre++[91]).length (Zbd 92 [92,92] (r.take k)) s10 s11 s12 hw (Zii hn) ⟨rfl,rfl,rfl,na.a10,na.a11,na.a12⟩
   refine⟨.fz (.str [91]),jS (pre++[91]) k,t9,s10,s11,s12,⟨rfl,rfl,j9,na.a10,na.a11,na.a12⟩,Zaf (x_f t0 (Zaa e1 (Zaa (x_t t1 (Zaf (Zav (Zk2 rfl (by lia) (by decide))))) hfin)))⟩
  | true=>
   rw[hc] at t1
   obtain⟨i,t10,t11,t12,j10,j11,j12,hd⟩:=Zq0 (p:=p) (g:=g) (res:=ps.map (Zap g)) (s7:=.fz (.str [91])) (s9:=.fz (.str (r.take k))) (s10:=s10) (s11:=s11) (s12:=s12) hb' hl (Nat.le_of_lt hkl) hb0 na.a10 rfl rfl na.a11 na.a12
   have hw:(ZbT [45] ((ZbN (Zaz (r.take k))).map ZfG)).length<=1000:=by
    obtain⟨s,_,_,hch,_⟩:=Zga hb0
    have h0:=ZeU (r.take k) [] s
    have h1:=Zgr (Zde [] s (r.take k))
    rw[←hch] at h1
    have h2:=Zdz (Zaz (r.take k))
    have h3:=ZgN (ZbN (Zaz (r.take k)))
    have h4:=ZfV ((ZbN (Zaz (r.take k))).map ZfG)
    simp only[List.length_nil,Nat.zero_add,List.length_map] at h0 h4
    lia
   obtain⟨t9,j9,hfin⟩:=fin i _ t10 t11 t12 hw (ZlW hb0) ⟨rfl,rfl,rfl,j10,j11,j12⟩
   exact⟨.fz (.str [91]),jS (pre++[91]) k,t9,t10,t11,t12,⟨rfl,rfl,j9,j10,j11,j12⟩,Zaf (x_f t0 (Zaa e1 (Zaa (x_f t1 hd) hfin)))⟩
 obtain⟨t7,t8,t9,t10,t11,t12,hn,hk⟩:=key
 have h:=ZlU (s8:=s8) hb' (by lia) hk
 rw[hq] at h
 exact⟨t7,t8,t9,t10,t11,t12,hn,ZhM hb (by lia) (Zaf (x_f (ZaH (by decide) rfl rfl) (Zaf (x_f (ZaH (by decide) rfl rfl) (Zaf (x_t (ZbV rfl rfl rfl) h))))))⟩
theorem ZuU(hi:i < p.length){res:List D}:tv ΓA (stR p g res i s7 s8 s9 s10 s11 s12) ZjG=some true:=by
 refine(lt_int (a:=(i:Int)) (b:=(p.length:Int)) rfl rfl).trans ?_
 rw[decide_eq_true (by lia)]
theorem ZtJ(hi:i=p.length){res:List D}:tv ΓA (stR p g res i s7 s8 s9 s10 s11 s12) ZjG=some false:=by
 refine(lt_int (a:=(i:Int)) (b:=(p.length:Int)) rfl rfl).trans ?_
 rw[decide_eq_false (by lia)]
end
noncomputable def Zud:Sn->Option (Item×List Nat)
 | .star=>none
 | .any=>some ((true,[]),[46])
 | .set b=>some (Zh4 b,ZaN (Zbc b))
 | .lit c=>some ((false,[[c]]),Zff c)
noncomputable def ipL(p:List Nat):List (Option (Item×List Nat)):=(Zqt p).map Zud
theorem ZjJ(p:List Nat):Zar p=(ipL p).map (·.map (·.1)):=(List.map_congr_left λx _=>by cases x<;>rfl).trans (List.map_map ..).symm
theorem Zll{r:List Nat}{k:Nat}(h:Zae 93 r (clS r)=some k):ipL (91::r)=some (Zh4 (r.take k),ZaN (Zbc (r.take k)))::ipL (r.drop (k+1)):=congrArg (List.map Zud) (ZiR h)
theorem Zjm{c:Nat}{r:List Nat}(h1:c≠42)(h2:c≠63)(h3:c=91->Zae 93 r (clS r)=none):ipL (c::r)=some ((false,[[c]]),Zff c)::ipL r:=congrArg (List.map Zud) (Zgl h1 h2 h3)
theorem Zsc:Zff 91=[92,91]:=if_pos (by decide)
noncomputable def Zb4(ps:List (Option (List Nat)))(l:List (Option (Item×List Nat))):List (Option (List Nat)):=l.foldl (λps x=>ZbE ps (x.map (·.2))) ps
noncomputable def Zer(p:List Nat):List (Option (List Nat)):=Zb4 [] (ipL p)
theorem Zhg(ps:List (Option (List Nat)))(x:Option (List Nat)):(ZbE ps x).length<=ps.length+1:=by
 unfold ZbE;split<;>simp
theorem ZmD{p:List Nat}{g:Addr}(hl:p.length<=40):∀(n:Nat) (r pre:List Nat) (ps:List (Option (List Nat))) (N:Nat) (s7 s8 s9 s10 s11 s12:Slot),r.length<=n->p=pre++r->ps.length+r.length<=1000->n < N->NoA s7 s8 s9 s10 s11 s12->
  ∃t7 t8 t9 t10 t11 t12,Zbk (λσ=>tv ΓA σ ZjG) (ex ΓA fuel Zdk) N (stR p g (ps.map (Zap g)) pre.length s7 s8 s9 s10 s11 s12)=some (.next,stR p g ((Zb4 ps (ipL r)).map (Zap g)) p.length t7 t8 t9 t10 t11 t12)
 | n,[],pre,ps,N+1,s7,s8,s9,s10,s11,s12,_,hb,_,_,_=>by
  have hp:pre.length=p.length:=by erw[rwl (hb ..) ?_];simp
  refine⟨s7,s8,s9,s10,s11,s12,?_⟩
  erw[rwl (ZcS (ZtJ hp) ..) (rwl (hp ..) ?_)]
  rfl
 | n+1,c::r,pre,ps,N+1,s7,s8,s9,s10,s11,s12,hn,hb,hm,hN,na=>by
  simp at hn hm
  have go:=ZuU (g:=g) (res:=ps.map (Zap g)) (s7:=s7) (s8:=s8) (s9:=s9) (s10:=s10) (s11:=s11) (s12:=s12) (show pre.length < p.length by erw[rwl (hb ..) ?_];simp)
  have step:∀(it:Option (Item×List Nat)) (m:Nat),m<=r.length->(∃t7 t8 t9 t10 t11 t12,NoA t7 t8 t9 t10 t11 t12∧ex ΓA fuel Zdk (stR p g (ps.map (Zap g)) pre.length s7 s8 s9 s10 s11 s12)=some (.next,stR p g ((ZbE ps (it.map (·.2))).map (Zap g)) (pre.length+1+m) t7 t8 t9 t10 t11 t12))->ipL (c::r)=it::ipL (r.drop m)->
    ∃t7 t8 t9 t10 t11 t12,Zbk (λσ=>tv ΓA σ ZjG) (ex ΓA fuel Zdk) (N+1) (stR p g (ps.map (Zap g)) pre.length s7 s8 s9 s10 s11 s12)=some (.next,stR p g ((Zb4 ps (ipL (c::r))).map (Zap g)) p.length t7 t8 t9 t10 t11 t12):=λit m hmr ⟨t7,t8,t9,t10,t11,t12,hna,h⟩ e=>by
   have hpl:=Zhg ps (it.map (·.2))
   obtain⟨u7,u8,u9,u10,u11,u12,ih⟩:=ZmD hl n (r.drop m) (pre++c::r.take m) (ZbE ps (it.map (·.2))) N t7 t8 t9 t10 t11 t12 (by simp;lia) (by erw[rwl (hb ..) ?_];simp) (by simp;lia) (by lia) hna
   have e1:(pre++c::r.take m).length=pre.length+1+m:=by simp;lia
   rw[e1] at ih
   refine⟨u7,u8,u9,u10,u11,u12,ZiE go h (ih.trans ?_)⟩
   erw[rwl (e ..) ?_];rfl
  by_cases h1:c=42
  ·subst h1
   exact step none 0 (Nat.zero_le _) ⟨_,_,_,_,_,_,⟨rfl,na.a8,na.a9,na.a10,na.a11,na.a12⟩,Zql hb (by lia) (by lia)⟩ rfl
  ·by_cases h2:c=63
   ·subst h2
    exact step (some ((true,[]),[46])) 0 (Nat.zero_le _) ⟨_,_,_,_,_,_,⟨rfl,na.a8,na.a9,na.a10,na.a11,na.a12⟩,ZvE hb (by lia) (by lia)⟩ rfl
   ·by_cases h3:c=91
    ·subst h3
     cases hk:Zae 93 r (clS r) with
     | none=>
      obtain⟨t8,h⟩:=ZpE (p:=p) (g:=g) (ps:=ps) (s7:=s7) (s8:=s8) (s9:=s9) (s10:=s10) (s11:=s11) (s12:=s12) hb hl (by lia) hk
      exact step (some ((false,[[91]]),[92,91])) 0 (Nat.zero_le _) ⟨_,_,_,_,_,_,⟨rfl,rfl,na.a9,na.a10,na.a11,na.a12⟩,h⟩ (by erw[rwl (Zjm h1 h2 λ_=>hk ..) (rwl (Zsc ..) ?_)];rfl)
     | some k=>
      obtain⟨k1,k2,_⟩:=ZaS hk
      have hkl:k < r.length:=by
       rcases Nat.lt_or_ge k r.length with z | z
       ·exact z
       ·rw[List.getElem?_eq_none z] at k2;cases k2
      exact step (some (Zh4 (r.take k),ZaN (Zbc (r.take k)))) (k+1) (by lia) (ZsS hb hl (by lia) hk na) (Zll hk)
    ·exact step (some ((false,[[c]]),Zff c)) 0 (Nat.zero_le _) ⟨_,_,_,_,_,_,⟨rfl,na.a8,na.a9,na.a10,na.a11,na.a12⟩,Ztw hb h1 h2 h3 (by lia) (by lia)⟩ (Zjm h1 h2 λq=>absurd q h3)
 | 0,_::_,_,_,_,_,_,_,_,_,_,hn,_,_,_,_=>by simp at hn
 | n,_,_,_,0,_,_,_,_,_,_,_,_,_,hN,_=>absurd hN (Nat.not_lt_zero _)
theorem Zrn{p:List Nat}{g:Addr}(hl:p.length<=40):ZuF [.str p,.obj g,.str [46]]=some (.list ((Zer p).map (Zap g))):=by
 refine Zbb rfl ?_
 obtain⟨t7,t8,t9,t10,t11,t12,h⟩:=ZmD (g:=g) hl p.length p [] [] fuel .un .un .un .un .un .un (Nat.le_refl _) rfl (by simp;lia) (by simp[fuel];lia) ⟨rfl,rfl,rfl,rfl,rfl,rfl⟩
 refine⟨_,Zaa (σ':=[.fz (.str p),.fz (.obj g),.fz (.str [46]),.own [],.un,.un,.un,.un,.un,.un,.un,.un,.un,.un]) rfl (Zaa (σ':=[.fz (.str p),.fz (.obj g),.fz (.str [46]),.own [],.app 3,.un,.un,.un,.un,.un,.un,.un,.un,.un]) rfl (Zaa (σ':=stR p g [] 0 .un .un .un .un .un .un) rfl (Zaa h (Zaa (σ':=stR p g ((Zer p).map (Zap g)) p.length t7 t8 t9 t10 t11 t12) ?_ (Za7 (ZbB rfl))))))⟩
 have:tv ΓA (stR p g ((Zb4 [] (ipL p)).map (Zap g)) p.length t7 t8 t9 t10 t11 t12) (.tcmp .eq (.var 5) (.var 6))=some true:=(eq_int (a:=(p.length:Int)) (b:=(p.length:Int)) rfl rfl).trans (by erw[rwl (decide_eq_true rfl ..) ?_])
 exact Zm9 this
end
section
noncomputable def Zaq{α:Type}:List (Option α)->List (List α)
 | []=>[[]]
 | some x::l=>match Zaq l with
  | y::t=>(x::y)::t
  | []=>[[x]]
 | none::l=>match l with
  | none::_=>Zaq l
  | _=>[]::Zaq l
theorem Zvd{α:Type}:Zaq ([]:List (Option α))=[[]]:=rfl
theorem Zm3{α:Type}(x:α)(l:List (Option α)):Zaq (some x::l)=match Zaq l with
  | y::t=>(x::y)::t
  | []=>[[x]]:=rfl
theorem Zvp{α:Type}(l:List (Option α)):Zaq (none::l)=match l with
  | none::_=>Zaq l
  | _=>[]::Zaq l:=rfl
noncomputable def Zal{α:Type}:List (List α)->List (Option α)
 | []=>[]
 | [x]=>x.map some
 | x::y::t=>x.map some++none::Zal (y::t)
theorem Zu9{α:Type}:Zal ([]:List (List α))=[]:=rfl
theorem Zvq{α:Type}(x:List α):Zal [x]=x.map some:=rfl
noncomputable def Ziv{α:Type}:List (List α)->Prop
 | []=>True
 | [_]=>True
 | x::y::r=>x≠[]∧Ziv (y::r)
theorem ZaX{α:Type}:∀l:List (Option α),∃y t,Zaq l=y::t∧Ziv t∧(l.head? = some none->y=[]∧t≠[])∧((∃x,l.head? = some (some x))->y≠[])
 | []=>⟨[],[],rfl,trivial,by simp,by simp⟩
 | some x::l=>by
  obtain⟨y,t,e,h1,_,_⟩:=ZaX l
  exact⟨x::y,t,by erw[rwl (Zm3 ..) (rwl (e ..) ?_)],h1,by simp,by simp⟩
 | none::[]=>⟨[],[[]],rfl,trivial,by simp,by simp⟩
 | none::none::l=>by
  obtain⟨y,t,e,h1,h2,h3⟩:=ZaX (none::l)
  exact⟨y,t,e,h1,λ_=>h2 rfl,by simp⟩
 | none::some x::l=>by
  obtain⟨y,t,e,h1,h2,h3⟩:=ZaX (some x::l)
  refine⟨[],y::t,congrArg (List.cons []) e,?_,by simp,by simp⟩
  cases t with
  | nil=>trivial
  | cons z t=>exact⟨h3 ⟨x,rfl⟩,h1⟩
theorem ZbS{α:Type}(x:α)(l:List (Option α)):Zaq (none::some x::l)=[]::Zaq (some x::l):=rfl
noncomputable def Zda:List (Option (List Nat))->List (Option (List Nat))
 | none::r=>r
 | r=>r
theorem Zvn:Zda []=[]:=rfl
theorem Zu8(r:List (Option (List Nat))):Zda (none::r)=r:=rfl
theorem dst2(x:List Nat)(r:List (Option (List Nat))):Zda (some x::r)=some x::r:=rfl
theorem Zhq{α:Type}{y:List α}{t:List (List α)}:Zal ([]::y::t)=none::Zal (y::t):=rfl
theorem ZcL{α:Type}(x:α)(y:List α)(t:List (List α)):Zal ((x::y)::t)=some x::Zal (y::t):=by
 cases t<;>rfl
noncomputable def ZbY(R:List (List (Item×List Nat))):List (List (List Nat)):=R.map (·.map (·.2))
theorem ZcN:∀(l:List (Option (Item×List Nat))) (ps:List (Option (List Nat))),Zb4 ps l=ps++(if ps.getLast? = some none then Zda (Zal (ZbY (Zaq l))) else Zal (ZbY (Zaq l)))
 | [],ps=>by
  show ps=_
  have e:Zal (ZbY (Zaq ([]:List (Option (Item×List Nat)))))=[]:=rfl
  rw[e]
  split<;>simp[Zvn,Zu8,dst2]
 | some x::l,ps=>by
  obtain⟨y,t,e,_⟩:=ZaX l
  have e1:Zb4 ps (some x::l)=Zb4 (ps++[some x.2]) l:=by
   show Zb4 (ZbE ps (some x.2)) l=_
   rw[ZbE,if_neg (λq=>by cases q.1)]
  have e2:Zal (ZbY (Zaq (some x::l)))=some x.2::Zal (ZbY (Zaq l)):=by
   rw[Zm3,e]
   exact ZcL x.2 (y.map (·.2)) (ZbY t)
  rw[e1,ZcN l,e2,if_neg (by simp)]
  split<;>simp[Zvn,Zu8,dst2]
 | none::l,ps=>by
  have e1:Zb4 ps (none::l)=Zb4 (ZbE ps none) l:=rfl
  obtain⟨y,t,e,_,h2,h3⟩:=ZaX l
  have key:Zal (ZbY (Zaq (none::l)))=none::Zda (Zal (ZbY (Zaq l))):=by
   cases l with
   | nil=>rfl
   | cons a l=>
    cases a with
    | none=>
     obtain⟨rfl,ht⟩:=h2 rfl
     show Zal (ZbY (Zaq (none::l)))=_
     obtain⟨z,t',rfl⟩:∃z t',t=z::t':=by
      cases t with
      | nil=>exact absurd rfl ht
      | cons z t'=>exact⟨z,t',rfl⟩
     rw[e]
     rfl
    | some x=>
     rw[ZbS,e]
     ·obtain⟨c,y',rfl⟩:∃c y',y=c::y':=by
       cases y with
       | nil=>exact absurd rfl (h3 ⟨x,rfl⟩)
       | cons c y'=>exact⟨c,y',rfl⟩
      have q:=ZcL c.2 (y'.map (·.2)) (ZbY t)
      show none::Zal (ZbY ((c::y')::t))=none::Zda (Zal (ZbY ((c::y')::t)))
      have q2:Zal (ZbY ((c::y')::t))=some c.2::Zal ((y'.map (·.2))::ZbY t):=q
      rw[q2]
      rfl
  rw[e1,ZcN l,key]
  by_cases h:ps.getLast? = some none
  ·rw[ZbE,if_pos ⟨rfl,h⟩,if_pos h,if_pos h];rfl
  ·rw[ZbE,if_neg (λq=>h q.2),if_neg h,if_pos (by simp)];simp
theorem Zij(p:List Nat):Zer p=Zal (ZbY (Zaq (ipL p))):=by
 unfold Zer
 erw[rwl (ZcN ..) ?_]
 simp
noncomputable def ZfY:List (List (List Nat))->List Nat
 | []=>[]
 | [run]=>[46,42]++run.flatten
 | run::r::t=>[40,63,62,46,42,63]++run.flatten++[41]++ZfY (r::t)
theorem ZjL:ZfY []=[]:=rfl
theorem ZjP(run:List (List Nat)):ZfY [run]=[46,42]++run.flatten:=rfl
theorem ZjQ(run r:List (List Nat))(t:List (List (List Nat))):ZfY (run::r::t)=[40,63,62,46,42,63]++run.flatten++[41]++ZfY (r::t):=rfl
noncomputable def ZdY:List (List (List Nat))->List Nat
 | []=>[]
 | run::t=>[40,63,115,58]++(run.flatten++ZfY t)++[41,92,90]
theorem Zhj:∀l:List (List Nat),ZbT [] l=l.flatten
 | []=>rfl
 | [x]=>by simp[ZkL,ZmH,Zid]
 | x::y::r=>by erw[rwl (Zid ..) (rwl (Zhj (y::r) ..) ?_)];simp
noncomputable def Zjn:X:=match ZaB with
 | .seq _ (.seq _ (.seq _ (.seq (.whl t _) _)))=>t
 | _=>.nil
noncomputable def Zrd:S:=match ZaB with
 | .seq _ (.seq _ (.seq _ (.seq (.whl _ b) _)))=>b
 | _=>.skip
noncomputable def Zlf:S:=match ZaB with
 | .seq _ (.seq _ (.seq _ (.seq _ (.seq (.whl _ b) _))))=>b
 | _=>.skip
noncomputable def ZrB:S:=match Zlf with
 | .seq _ (.seq _ (.seq _ (.seq _ (.seq _ b))))=>b
 | _=>.skip
noncomputable def Zqd:S:=match ZrB with
 | .seq (.whl _ b) _=>b
 | _=>.skip
noncomputable def stJ(inp:List (Option (List Nat)))(g:Addr)(L:List (List Nat))(i:Nat)(s6:Slot):Sg:=[.fz (.list (inp.map (Zap g))),.fz (.obj g),.own (L.map .str),.app 2,.fz (.int (i:Int)),.fz (.int (inp.length:Int)),s6]
section
variable {inp:List (Option (List Nat))}{g:Addr}{L:List (List Nat)}{s6:Slot}
theorem ZnF{pre r:List (Option (List Nat))}{x:Option (List Nat)}(hb:inp=pre++x::r)(hl:inp.length<=1000):ev noΓ (stJ inp g L pre.length s6) (.idx (.var 0) (.var 4))=some (Zap g x):=by
 have hlen:inp.length=pre.length+(r.length+1):=by erw[rwl (hb ..) ?_];simp
 refine ZaK (p:=.list (inp.map (Zap g))) (q:=.int (pre.length:Int)) rfl rfl (ZaM ?_ (by lia))
 erw[rwl (List.getElem?_map ..) (rwl (hb ..) ?_)]
 have:=ZbC pre (x::r) 0
 rw[Nat.add_zero] at this
 erw[rwl (this ..) ?_];rfl
theorem ZiO{pre r:List (Option (List Nat))}{x:Option (List Nat)}(hb:inp=pre++x::r)(hl:inp.length<=1000):tv noΓ (stJ inp g L pre.length s6) (.tcmp .isnt (.idx (.var 0) (.var 4)) (.var 1))=some x.isSome:=by
 refine Zaj (ZnF hb hl) (q:=.obj g) rfl ?_
 cases x with
 | none=>
  show((if g=g then some true else none).map (!·))=some false
  rw[if_pos (by simp)];rfl
 | some t=>rfl
theorem Zui{pre r:List (Option (List Nat))}{x:Option (List Nat)}(hb:inp=pre++x::r)(hl:inp.length<=1000):tv noΓ (stJ inp g L pre.length s6) (.tcmp .is_ (.idx (.var 0) (.var 4)) (.var 1))=some x.isNone:=by
 refine Zaj (ZnF hb hl) (q:=.obj g) rfl ?_
 cases x with
 | none=>
  show(if g=g then some true else none)=some true
  rw[if_pos (by simp)]
 | some t=>rfl
theorem Zl8{i:Nat}:tv noΓ (stJ inp g L i s6) (.tcmp .lt (.var 4) (.var 5))=some (decide (i < inp.length)):=by
 refine(lt_int (a:=(i:Int)) (b:=(inp.length:Int)) rfl rfl).trans ?_
 congr 1
 erw[rwl (propext (Bool.eq_iff_iff ..)) ?_];simp
theorem ZqJ{i:Nat}:tv noΓ (stJ inp g L i s6) (.tcmp .eq (.var 4) (.var 5))=some (decide (i=inp.length)):=by
 refine(eq_int (a:=(i:Int)) (b:=(inp.length:Int)) rfl rfl).trans ?_
 congr 1
 erw[rwl (propext (Bool.eq_iff_iff ..)) ?_];simp only[decide_eq_true_eq];lia
noncomputable def Stop(r:List (Option (List Nat))):Prop:=∀x r',r=x::r'->x=none
theorem ZmT{pre r:List (Option (List Nat))}(hs:Stop r)(hb:inp=pre++r)(hl:inp.length<=1000):tv noΓ (stJ inp g L pre.length s6) Zjn=some false:=by
 cases r with
 | nil=>
  have:inp.length=pre.length:=by erw[rwl (hb ..) ?_];simp
  exact Zaw (Zl8.trans (by rw[decide_eq_false (by lia)]))
 | cons x r=>
  have:=hs x r rfl
  subst this
  exact ZaL (Zl8.trans (by rw[hb,decide_eq_true (by simp)])) (Zaw (ZiO hb hl))
theorem ZsM{pre r:List (Option (List Nat))}{t:List Nat}(hb:inp=pre++some t::r)(hl:inp.length<=1000):tv noΓ (stJ inp g L pre.length s6) Zjn=some true:=
 ZaL (Zl8.trans (by rw[hb,decide_eq_true (by simp)])) (ZaL (ZiO hb hl) rfl)
theorem ZhN{i:Nat}{x:X}{t:List Nat}(he:ev noΓ (stJ inp g L i s6) x=some (.str t))(hm:L.length<=5000):ex noΓ fuel (.add 3 2 x) (stJ inp g L i s6)=some (.next,stJ inp g (L++[t]) i s6):=by
 have:=ZpH (Γ:=noΓ) (N:=fuel) (σ:=stJ inp g L i s6) (i:=2) (j:=3) (x:=x) (ds:=L.map .str) (d:=.str t) rfl rfl he (by simp;lia)
 erw[rwl (this ..) ?_]
 simp[stJ]
theorem Zjk(hl:inp.length<=1000):∀(run:List (List Nat)) (pre r:List (Option (List Nat))) (L:List (List Nat)) (N:Nat),inp=pre++(run.map some++r)->Stop r->L.length+run.length<=5000->run.length < N->
  Zbk (λσ=>tv noΓ σ Zjn) (ex noΓ fuel Zrd) N (stJ inp g L pre.length s6)=some (.next,stJ inp g (L++run) (pre.length+run.length) s6)
 | [],pre,r,L,N+1,hb,hs,_,_=>by
  rw[ZcS (ZmT hs (by simpa using hb) hl)]
  simp
 | t::run,pre,r,L,N+1,hb,hs,hm,hN=>by
  simp at hm hN
  have hb1:inp=pre++some t::(run.map some++r):=by erw[rwl (hb ..) ?_];simp
  have ih:=Zjk hl run (pre++[some t]) r (L++[t]) N (by erw[rwl (hb ..) ?_];simp) hs (by simp;lia) (by lia)
  have e:(pre++[some t]).length=pre.length+1:=by simp
  rw[e] at ih
  refine ZiE (ZsM hb1 hl) (Zaa (ZhN (ZnF hb1 hl) (by lia)) (Zaf (ZcT (p:=.int (pre.length:Int)) (q:=.int 1) rfl rfl rfl))) (ih.trans ?_)
  erw[rwl (List.length_cons ..) (rwl (Nat.add_assoc ..) (rwl (Nat.add_comm 1 ..) ?_))]
  simp
 | _,_,_,_,0,_,_,_,hN=>absurd hN (Nat.not_lt_zero _)
theorem Zi5(hl:inp.length<=1000):∀(run:List (List Nat)) (pre r:List (Option (List Nat))) (F:List (List Nat)) (N:Nat),inp=pre++(run.map some++r)->Stop r->F.length+run.length<=5000->run.length < N->
  Zbk (λσ=>tv noΓ σ Zjn) (ex noΓ fuel Zqd) N (stJ inp g L pre.length (.own (F.map .str)))=some (.next,stJ inp g L (pre.length+run.length) (.own ((F++run).map .str)))
 | [],pre,r,F,N+1,hb,hs,_,_=>by
  rw[ZcS (ZmT hs (by simpa using hb) hl)]
  simp
 | t::run,pre,r,F,N+1,hb,hs,hm,hN=>by
  simp at hm hN
  have hb1:inp=pre++some t::(run.map some++r):=by erw[rwl (hb ..) ?_];simp
  have ih:=Zi5 hl run (pre++[some t]) r (F++[t]) N (by erw[rwl (hb ..) ?_];simp) hs (by simp;lia) (by lia)
  have e:(pre++[some t]).length=pre.length+1:=by simp
  rw[e] at ih
  have a1:ex noΓ fuel (.app 6 (.idx (.var 0) (.var 4))) (stJ inp g L pre.length (.own (F.map .str)))=some (.next,stJ inp g L pre.length (.own ((F++[t]).map .str))):=by
   have:=Zef (Γ:=noΓ) (N:=fuel) (σ:=stJ inp g L pre.length (.own (F.map .str))) (i:=6) (ds:=F.map .str) rfl (ZnF (s6:=.own (F.map .str)) (L:=L) (g:=g) hb1 hl) (by simp;lia)
   erw[rwl (this ..) ?_]
   simp[stJ,ZvF,ZvN]
  refine ZiE (ZsM hb1 hl) (Zaa a1 (Zaf (ZcT (p:=.int (pre.length:Int)) (q:=.int 1) rfl rfl rfl))) (ih.trans ?_)
  erw[rwl (List.length_cons ..) (rwl (Nat.add_assoc ..) (rwl (Nat.add_comm 1 ..) ?_))]
  simp
 | _,_,_,_,0,_,_,_,hN=>absurd hN (Nat.not_lt_zero _)
end
end
section
noncomputable def Zdd:List (List (List Nat))->List (Option (List Nat))
 | []=>[]
 | y::t=>none::Zal (y::t)
theorem Ztn:Zdd []=[]:=rfl
theorem Zsh(y:List (List Nat))(t:List (List (List Nat))):Zdd (y::t)=none::Zal (y::t):=rfl
theorem Zet(y:List (List Nat))(t:List (List (List Nat))):Zal (y::t)=y.map some++Zdd t:=by
 cases t with
 | nil=>simp[Zu9,Zvq,Ztn,Zsh]
 | cons z t=>rfl
theorem ZhF(t:List (List (List Nat))):Stop (Zdd t):=by
 intro x r' h
 cases t with
 | nil=>cases h
 | cons z t=>injection h with h1 _;exact h1.symm
theorem Znl{t:List (List (List Nat))}(h:t≠[]):0 < (Zdd t).length:=by
 cases t with
 | nil=>exact absurd rfl h
 | cons z t=>simp[Ztn,Zsh]
theorem Zmw{Γ:ZaC}{σ:Sg}{x:X}{F:List (List Nat)}(h:ev Γ σ x=some (.list (F.map .str)))(h1:F.length<=1000000)(h2:F.flatten.length<=1000000):ev Γ σ (.join (.const (.str [])) x)=some (.str F.flatten):=by
 show(ev Γ σ x).bind _=_
 refine Zag h (Zag (strs_map F) ((if_pos ⟨h1,Nat.zero_le _,?_⟩).trans (by erw[rwl (Zhj ..) ?_])))
 rw[List.length_flatten] at h2
 exact h2
section
variable {inp:List (Option (List Nat))}{g:Addr}{L:List (List Nat)}{s6:Slot}
theorem Zs7{y:List (List Nat)}{t:List (List (List Nat))}{pre:List (Option (List Nat))}(hl:inp.length<=900)(hb:inp=pre++(y.map some++Zdd t))(hm:L.length<=4000)(hT:(ZfY (y::t)).length<=100000) :
  ∃(L':List (List Nat)) (d:D),L'.length<=L.length+2∧L'.flatten=L.flatten++(if t=[] then [46,42]++y.flatten else [40,63,62,46,42,63]++y.flatten++[41])∧
   ex noΓ fuel ZrB (stJ inp g L pre.length (.own []))=some (.next,stJ inp g L' (pre.length+y.length) (.fz d)):=by
 have hlen:inp.length=pre.length+(y.length+(Zdd t).length):=by erw[rwl (hb ..) ?_];simp
 have hyT:y.flatten.length<=100000:=by
  cases t with
  | nil=>simp[ZjL,ZjP,ZjQ] at hT ⊢;lia
  | cons z t=>simp[ZjL,ZjP,ZjQ] at hT ⊢;lia
 have l3:=Zi5 (g:=g) (L:=L) (by lia) y pre (Zdd t) [] fuel hb (ZhF t) (by simp;lia) (by simp[fuel];lia)
 rw[List.nil_append] at l3
 have e6:ex noΓ fuel (.asg 6 (.join (.const (.str [])) (.tvar 6))) (stJ inp g L (pre.length+y.length) (.own (y.map .str)))=some (.next,stJ inp g L (pre.length+y.length) (.fz (.str y.flatten))):=
  Zav (Zmw (F:=y) rfl (by lia) (by lia))
 have te:=ZqJ (inp:=inp) (g:=g) (L:=L) (s6:=.fz (.str y.flatten)) (i:=pre.length+y.length)
 by_cases ht:t=[]
 ·have h0:(Zdd t).length=0:=by erw[rwl (ht ..) ?_];rfl
  rw[decide_eq_true (by lia)] at te
  refine⟨L++[[46,42]]++[y.flatten],.str y.flatten,by simp,by erw[rwl (if_pos ht ..) ?_];simp,Zaa l3 (Zaa e6 (Zaf (x_t te (Zaa (ZhN rfl (by lia)) (Zaf (ZhN rfl (by simp;lia)))))))⟩
 ·have h0:=Znl ht
  rw[decide_eq_false (by lia)] at te
  exact⟨L++[[40,63,62,46,42,63]++y.flatten++[41]],.str y.flatten,by simp,by erw[rwl (if_neg ht ..) ?_];simp,Zaa l3 (Zaa e6 (Zaf (x_f te (Zaf (ZhN (Zcq (by simp only[List.length_append,List.length_cons,List.length_nil];lia)) (by lia))))))⟩
theorem Zjc(hl:inp.length<=900):∀(rest:List (List (List Nat))) (pre:List (Option (List Nat))) (L:List (List Nat)) (s6:Slot) (N:Nat),inp=pre++Zdd rest->Ziv rest->L.length+2 * rest.length<=4000->(ZfY rest).length<=100000->rest.length < N->s6.isApp 6=false->
  ∃(L':List (List Nat)) (t6:Slot),L'.length<=L.length+2 * rest.length∧L'.flatten=L.flatten++ZfY rest∧
   Zbk (λσ=>tv noΓ σ (.tcmp .lt (.var 4) (.var 5))) (ex noΓ fuel Zlf) N (stJ inp g L pre.length s6)=some (.next,stJ inp g L' inp.length t6)
 | [],pre,L,s6,N+1,hb,_,_,_,_,_=>by
  have hlen:inp.length=pre.length:=by erw[rwl (hb ..) ?_];simp[Ztn,Zsh]
  refine⟨L,s6,by simp,by simp[ZjL,ZjP,ZjQ],?_⟩
  rw[ZcS (Zl8.trans (by rw[decide_eq_false (by lia)])),hlen]
 | y::t,pre,L,s6,N+1,hb,hok,hm,hT,hN,h6=>by
  have hb1:inp=pre++none::Zal (y::t):=hb
  have hb2:inp=(pre++[none])++(y.map some++Zdd t):=by erw[rwl (hb1 ..) (rwl (Zet ..) ?_)];simp
  have hlen:inp.length=pre.length+(1+(y.length+(Zdd t).length)):=by erw[rwl (hb2 ..) ?_];simp;lia
  have go:tv noΓ (stJ inp g L pre.length s6) (.tcmp .lt (.var 4) (.var 5))=some true:=Zl8.trans (by rw[decide_eq_true (by lia)])
  have a1:ex noΓ fuel (.asr (.tcmp .is_ (.idx (.var 0) (.var 4)) (.var 1))) (stJ inp g L pre.length s6)=some (.next,stJ inp g L pre.length s6):=Zm9 (Zui hb1 (by lia))
  have a2:ex noΓ fuel (.aug 4 .add (.const (.int 1))) (stJ inp g L pre.length s6)=some (.next,stJ inp g L (pre.length+1) s6):=ZcT (p:=.int (pre.length:Int)) (q:=.int 1) rfl rfl rfl
  have te:=ZqJ (inp:=inp) (g:=g) (L:=L) (s6:=s6) (i:=pre.length+1)
  simp at hm hN
  cases y with
  | nil=>
   have ht:t=[]:=by
    cases t with
    | nil=>rfl
    | cons z t=>exact absurd rfl hok.1
   subst ht
   simp[Ztn,Zsh] at hlen
   rw[decide_eq_true (by lia)] at te
   refine⟨L++[[46,42]],s6,by simp,by simp[ZjL,ZjP,ZjQ],Zr9 go (Zaa a1 (Zaa a2 (Zn0 (x_t te (Zaa (ZhN rfl (by lia)) (Zn0 rfl))))))|>.trans ?_⟩
   erw[rwl (hlen ..) ?_]
  | cons x y=>
   rw[decide_eq_false (by simp at hlen;lia)] at te
   have e1:(pre++[none]).length=pre.length+1:=by simp
   have a3:ex noΓ fuel (.asr (.tcmp .isnt (.idx (.var 0) (.var 4)) (.var 1))) (stJ inp g L (pre.length+1) s6)=some (.next,stJ inp g L (pre.length+1) s6):=by
    have:=ZiO (inp:=inp) (g:=g) (L:=L) (s6:=s6) (pre:=pre++[none]) (x:=some x) (r:=y.map some++Zdd t) (by erw[rwl (hb2 ..) ?_];simp) (by lia)
    rw[e1] at this
    exact Zm9 this
   have a4:ex noΓ fuel (.asgO 6 .nil) (stJ inp g L (pre.length+1) s6)=some (.next,stJ inp g L (pre.length+1) (.own [])):=by
    refine ZkY ?_ rfl (by simp)
    show([Slot.fz _,.fz _,.own _,.app 2,.fz _,.fz _,s6].all λs=>!s.isApp 6)=true
    simp only[List.all_cons,List.all_nil,h6]
    rfl
   obtain⟨L',d,r1,r2,r3⟩:=Zs7 (inp:=inp) (g:=g) (L:=L) (y:=x::y) (t:=t) (pre:=pre++[none]) hl hb2 (by lia) hT
   rw[e1] at r3
   have hT2:(ZfY t).length<=100000:=by
    cases t with
    | nil=>simp[ZjL,ZjP,ZjQ]
    | cons z t=>simp[ZjL,ZjP,ZjQ] at hT ⊢;lia
   have hok2:Ziv t:=by
    cases t with
    | nil=>trivial
    | cons z t=>exact hok.2
   obtain⟨L2,t6,i1,i2,i3⟩:=Zjc hl t (pre++[none]++(x::y).map some) L' (.fz d) N (by erw[rwl (hb2 ..) ?_];simp) hok2 (by lia) hT2 (by lia) rfl
   have e2:(pre++[none]++(x::y).map some).length=pre.length+1+(x::y).length:=by simp;lia
   rw[e2] at i3
   refine⟨L2,t6,by simp;lia,?_,ZiE go (Zaa a1 (Zaa a2 (Zaa (x_f te rfl) (Zaa a3 (Zaa a4 r3))))) i3⟩
   erw[rwl (i2 ..) (rwl (r2 ..) ?_)]
   cases t with
   | nil=>simp[ZjL,ZjP,ZjQ]
   | cons z t=>simp[ZjL,ZjP,ZjQ]
 | _,_,_,_,0,_,_,_,_,hN,_=>absurd hN (Nat.not_lt_zero _)
end
theorem ZpU{run:List (List Nat)}{t:List (List (List Nat))}{g:Addr}(hl:(Zal (run::t)).length<=500)(hok:Ziv t)(hT:(run.flatten++ZfY t).length<=50000) :
  Zuz [.list ((Zal (run::t)).map (Zap g)),.obj g]=some (.str (ZdY (run::t))):=by
 have hu:=Zet run t
 have hlen:(Zal (run::t)).length=run.length+(Zdd t).length:=by erw[rwl (hu ..) ?_];simp
 have htl:t.length<=(Zdd t).length:=by
  clear hl hok hT hu hlen
  have:∀(t:List (List (List Nat))) (y:List (List Nat)),t.length<=(Zal (y::t)).length:=by
   intro t
   induction t with
   | nil=>intro y;simp
   | cons z t ih=>
    intro y
    have:=ih z
    show _<=(y.map some++none::Zal (z::t)).length
    simp;lia
  cases t with
  | nil=>simp
  | cons z t=>
   have:=this t z
   simp[Ztn,Zsh];lia
 generalize hi:Zal (run::t)=inp at *
 have hrl:run.flatten.length+(ZfY t).length<=50000:=by simpa using hT
 have l1:=Zjk (g:=g) (s6:=.un) (show inp.length<=1000 by lia) run [] (Zdd t) [] fuel (by erw[rwl (hu ..) ?_];simp) (ZhF t) (by simp;lia) (by simp[fuel];lia)
 simp only[List.length_nil,Nat.zero_add,List.nil_append] at l1
 obtain⟨L',t6,i1,i2,i3⟩:=Zjc (g:=g) (show inp.length<=900 by lia) t (run.map some) run .un fuel hu hok (by lia) (by lia) (by simp[fuel];lia) rfl
 rw[List.length_map] at i3
 have hf:L'.flatten.length<=100000:=by erw[rwl (i2 ..) ?_];simp;simp at hrl;lia
 refine Zbb rfl ?_
 refine⟨_,Zaa (σ':=[.fz (.list (inp.map (Zap g))),.fz (.obj g),.own [],.un,.un,.un,.un]) rfl (Zaa (σ':=[.fz (.list (inp.map (Zap g))),.fz (.obj g),.own [],.app 2,.un,.un,.un]) rfl (Zaa (σ':=stJ inp g [] 0 .un) ?_ (Zaa l1 (Zaa i3 (Zaa (σ':=stJ inp g L' inp.length t6) ?_ (Zaa (σ':=[.fz (.list (inp.map (Zap g))),.fz (.obj g),.fz (.str L'.flatten),.app 2,.fz (.int (inp.length:Int)),.fz (.int (inp.length:Int)),t6]) ?_ (Za7 (ZbB (d:=.str (ZdY (run::t))) ?_))))))))⟩
 ·show some (Fl.next,([.fz (.list (inp.map (Zap g))),.fz (.obj g),.own [],.app 2,.fz (.int 0),.fz (.int ((inp.map (Zap g)).length:Int)),.un]:Sg))=_
  erw[rwl (List.length_map ..) ?_];rfl
 ·exact Zm9 (ZqJ.trans (by erw[rwl (decide_eq_true rfl ..) ?_]))
 ·exact Zav (Zmw (F:=L') rfl (by lia) (by lia))
 ·refine(Zcq (l:=[40,63,115,58]++L'.flatten++[41,92,90]) (by simp only[List.length_append,List.length_cons,List.length_nil];lia)).trans ?_
  erw[rwl (i2 ..) ?_]
  rfl
end
section
noncomputable def ZkD:List (Option (Item×List Nat))->Nat
 | []=>0
 | none::l=>ZkD l
 | some x::l=>x.2.length+ZkD l
theorem ZqZ:ZkD []=0:=rfl
theorem Zqv(l:List (Option (Item×List Nat))):ZkD (none::l)=ZkD l:=rfl
theorem ZqB(x:Item×List Nat)(l:List (Option (Item×List Nat))):ZkD (some x::l)=x.2.length+ZkD l:=rfl
noncomputable def Zfl:List (List (List Nat))->Nat
 | []=>0
 | run::t=>(run.flatten++ZfY t).length
theorem Zci:∀l:List (Option (Item×List Nat)),Zfl (ZbY (Zaq l))<=ZkD l+8 * l.length
 | []=>by simp[Zvd,Zm3,Zvp,ZbY,Zfl,ZjL,ZjP,ZjQ]
 | some x::l=>by
  obtain⟨y,t,e,_⟩:=ZaX l
  have ih:=Zci l
  erw[rwl (Zm3 ..) (rwl (e ..) ?_)]
  rw[e] at ih
  simp[ZbY,Zfl,ZqZ,Zqv,ZqB] at ih ⊢
  lia
 | none::[]=>by simp[Zvd,Zm3,Zvp,ZbY,Zfl,ZjL,ZjP,ZjQ,ZqZ,Zqv,ZqB]
 | none::none::l=>by
  have ih:=Zci (none::l)
  erw[rwl (show Zaq (none::none::l)=Zaq (none::l) from rfl ..) ?_]
  simp[ZqZ,Zqv,ZqB] at ih ⊢
  lia
 | none::some x::l=>by
  obtain⟨y,t,e,_⟩:=ZaX (some x::l)
  have ih:=Zci (some x::l)
  erw[rwl (ZbS ..) (rwl (e ..) ?_)]
  rw[e] at ih
  have hm:∀(y:List (List Nat)) (t:List (List (List Nat))),(ZfY (y::t)).length<=(y.flatten++ZfY t).length+7:=λy t=>by
   cases t with
   | nil=>simp[ZjL,ZjP,ZjQ]
   | cons z t=>simp only[ZjL,ZjP,ZjQ,List.length_append,List.length_cons,List.length_nil];lia
  have:=hm (y.map (·.2)) (ZbY t)
  have h2:Zfl (ZbY ([]::y::t))=(ZfY (y.map (·.2)::ZbY t)).length:=by simp[ZbY,Zfl]
  have h3:Zfl (ZbY (y::t))=((y.map (·.2)).flatten++ZfY (ZbY t)).length:=rfl
  erw[rwl (h2 ..) ?_]
  rw[h3] at ih
  have h4:ZkD (none::some x::l)=ZkD (some x::l):=rfl
  erw[rwl (h4 ..) ?_]
  simp only[List.length_cons] at ih ⊢
  lia
theorem ZpZ(w:List Nat):(Zpv w).length<=w.length+1:=by
 cases w with
 | nil=>simp[Zpv]
 | cons c t=>
  erw[rwl (ZaY ..) ?_]
  split
  ·simp
  ·split<;>simp
theorem Zf3(w:List Nat):(ZaN w).length<=w.length+4:=by
 have:=ZpZ w
 unfold ZaN
 split
 ·simp
 ·split
  ·simp
  ·simp;lia
theorem Znv(c:Nat):(Zff c).length<=2:=by unfold Zff;split<;>simp
theorem ZlB(p:List Nat):(ipL p).length<=p.length∧ZkD (ipL p)<=5 * p.length:=by
 refine ZgD (P:=λp=>(ipL p).length<=p.length∧ZkD (ipL p)<=5 * p.length) ⟨Nat.le_refl _,Nat.zero_le _⟩ (λr ih=>?_) (λr ih=>?_) (λr k hk ih=>?_) (λc r h1 h2 h3 ih=>?_) p.length p (Nat.le_refl _)
 ·erw[rwl (show ipL (42::r)=none::ipL r from rfl ..) ?_];simp[ZqZ,Zqv,ZqB];lia
 ·erw[rwl (show ipL (63::r)=some ((true,[]),[46])::ipL r from rfl ..) ?_];simp[ZqZ,Zqv,ZqB];lia
 ·erw[rwl (Zll hk ..) ?_]
  obtain⟨k1,k2,_⟩:=ZaS hk
  have hkl:=ZdG k2
  have l1:=Zf3 (Zbc (r.take k))
  have l2:=ZfA (r.take k)
  have l3:(r.take k).length=k:=by simp;lia
  simp[ZqZ,Zqv,ZqB] at ih ⊢;lia
 ·erw[rwl (Zjm h1 h2 h3 ..) ?_]
  have:=Znv c
  simp[ZqZ,Zqv,ZqB];lia
theorem ZfT:∀(l:List (Option (Item×List Nat))) (ps:List (Option (List Nat))),(Zb4 ps l).length<=ps.length+l.length
 | [],ps=>by simp[Zb4]
 | x::l,ps=>by
  have h1:=Zhg ps (x.map (·.2))
  have h2:=ZfT l (ZbE ps (x.map (·.2)))
  have e:Zb4 ps (x::l)=Zb4 (ZbE ps (x.map (·.2))) l:=rfl
  erw[rwl (e ..) ?_];simp;lia
noncomputable def trT(p:List Nat):List Nat:=ZdY (ZbY (Zaq (ipL p)))
theorem Zl2:∀{R:List (List (Item×List Nat))},Ziv R->Ziv (ZbY R)
 | [],_=>trivial
 | [_],_=>trivial
 | x::y::r,h=>⟨λq=>h.1 (by simpa using q),Zl2 h.2⟩
theorem Zp6{p:List Nat}(hl:p.length<=40):ZoU [.str p]=some (.str (trT p)):=by
 refine Zp4 ⟨_,rfl,λg=>?_⟩
 obtain⟨y,t,e,hok,_⟩:=ZaX (ipL p)
 have hip:=ZlB p
 have hw:=Zci (ipL p)
 rw[e] at hw
 have hp:Zer p=Zal ((y.map (·.2))::ZbY t):=by erw[rwl (Zij ..) (rwl (e ..) ?_)];rfl
 have hpl:=ZfT (ipL p) []
 have h4:=ZpU (run:=y.map (·.2)) (t:=ZbY t) (g:=g) (by erw[rwr (hp ..) ?_];unfold Zer;simp at hpl;lia) (Zl2 hok) (by
  have h3:Zfl (ZbY (y::t))=((y.map (·.2)).flatten++ZfY (ZbY t)).length:=rfl
  rw[h3] at hw
  lia)
 rw[←hp] at h4
 have h3:=Zrn (p:=p) (g:=g) hl
 have ht:trT p=ZdY ((y.map (·.2))::ZbY t):=by unfold trT;erw[rwl (e ..) ?_];rfl
 erw[rwl (ht ..) ?_]
 refine⟨_,Zaa (σ':=[.fz (.str p),.fz (.obj g),.fz (.list ((Zer p).map (Zap g)))]) (Zav (Zbe (ds:=[.str p,.obj g,.str [46]]) rfl h3)) (Za7 (ZbB (Zbe (ds:=[.list ((Zer p).map (Zap g)),.obj g]) rfl h4)))⟩
end
section
noncomputable abbrev ZdU:=List Nat×List Nat
noncomputable def CT(c:Nat)(t:List Nat):Prop:=(t=[c]∧c≠92)∨(t=[92,c]∧ZgZ c=false)
inductive Un:ZdU->Prop
 | one {c:Nat} {t:List Nat}:CT c t->Un ([c],t)
 | rng {lo hi:Nat} {tl th:List Nat}:CT lo tl->CT hi th->lo<=hi->th.head?≠some 93->Un ([lo,45,hi],tl++45::th)
noncomputable def UnN(u:ZdU):Prop:=Un u∧u.2.head?≠some 93∧u.2.head?≠some 45
noncomputable def Zdv:List ZdU->Prop
 | []=>True
 | u::us=>Un u∧∀v∈us,UnN v
noncomputable def ZlY:X:=match ZcH with
 | .seq _ (.seq _ (.seq _ (.seq _ (.seq (.whl t _) _))))=>t
 | _=>.nil
noncomputable def Zk6:S:=match ZcH with
 | .seq _ (.seq _ (.seq _ (.seq _ (.seq (.whl _ b) _))))=>b
 | _=>.skip
noncomputable def clA:S:=match Zk6 with
 | .seq a _=>a
 | _=>.skip
noncomputable def stC(x:List Nat)(i:Nat)(bar:Bool)(ms:List D)(s5:Slot):Sg:=[.fz (.str x),.fz (.int (i:Int)),.fz (.bool bar),.own ms,.fz (.bool false),s5]
section
variable {x:List Nat}{bar:Bool}{ms:List D}{s5:Slot}
theorem ZfM{pre r:List Nat}{c:Nat}(hb:x=pre++c::r)(hl:x.length<=100000):ev ΓA (stC x pre.length bar ms s5) (.idx (.var 0) (.var 1))=some (.str [c]):=by
 have hlen:x.length=pre.length+(r.length+1):=by erw[rwl (hb ..) ?_];simp
 exact ZaK (p:=.str x) (q:=.int (pre.length:Int)) rfl rfl (ZaW (by erw[rwl (hb ..) ?_];exact ZbC pre _ 0) (by lia))
theorem Ztd{pre r:List Nat}{c d:Nat}(hb:x=pre++c::d::r)(hl:x.length<=100000):ev ΓA (stC x pre.length bar ms s5) (.idx (.var 0) (.bin .add (.var 1) (.const (.int 1))))=some (.str [d]):=by
 have hlen:x.length=pre.length+(r.length+2):=by erw[rwl (hb ..) ?_];simp
 exact ZaK (p:=.str x) (q:=.int ((pre.length+1:Nat):Int)) rfl rfl (ZaW (by erw[rwl (hb ..) ?_];exact ZbC pre _ 1) (by lia))
theorem ZhX{i:Nat}:ex ΓA fuel (.aug 1 .add (.const (.int 1))) (stC x i bar ms s5)=some (.next,stC x (i+1) bar ms s5):=ZcT (p:=.int (i:Int)) (q:=.int 1) rfl rfl rfl
theorem Zp8{pre r:List Nat}{c:Nat}{t:List Nat}(h:CT c t)(hb:x=pre++(t++r))(hl:x.length<=100000) :
  ∃pre',x=pre'++c::r∧pre'.length+1=pre.length+t.length∧ex ΓA fuel clA (stC x pre.length bar ms s5)=some (.next,stC x pre'.length bar ms s5):=by
 rcases h with⟨rfl,hc⟩ | ⟨rfl,hw⟩
 ·exact⟨pre,hb,by simp,x_f (ZaH hc (ZfM hb hl) rfl) rfl⟩
 ·refine⟨pre++[92],by erw[rwl (hb ..) ?_];simp,by simp,x_t (ZbV rfl (ZfM hb hl) rfl) ?_⟩
  have e:(pre++[92]).length=pre.length+1:=by simp
  erw[rwl (e ..) ?_]
  refine Zaa ZhX (Zaf (Zav (d:=.bool false) ?_))
  have ei:ev ΓA (stC x (pre.length+1) bar ms s5) (.idx (.var 0) (.var 1))=some (.str [c]):=by
   have:=ZfM (x:=x) (bar:=bar) (ms:=ms) (s5:=s5) (pre:=pre++[92]) (c:=c) (r:=r) (by erw[rwl (hb ..) ?_];simp) hl
   rwa [e] at this
  show Zmr _ _ _=_
  refine ZcX (a:=false) rfl (λ_=>ZeL ?_) nofun
  refine Zbe (ds:=[.str [c]]) (Zcc ei) ?_
  show ZrH _=_
  erw[rwl (ZmK ..) (rwl (hw ..) ?_)]
set_option tactic.hygienic true in
theorem Zqc{u:ZdU}(hu:Un u){pre r:List Nat}{z:Nat}(hz:z≠45)(hb:x=pre++(u.2++z::r))(hl:x.length<=100000)(hm:ms.length<=100000) :
  ∃t5,ex ΓA fuel Zk6 (stC x pre.length bar ms s5)=some (.next,stC x (pre.length+u.2.length) bar (ms++[.str u.1]) t5):=by
 cases hu with
 | one h=>
  rename_i c t
  obtain⟨pre',e1,e2,e3⟩:=Zp8 (bar:=bar) (ms:=ms) (s5:=s5) h hb hl
  have e0:(pre'++[c]).length=pre'.length+1:=by simp
  have hb2:x=(pre'++[c])++z::r:=by erw[rwl (e1 ..) ?_];simp
  have ez:ev ΓA (stC x (pre'.length+1) bar ms (.fz (.str [c]))) (.idx (.var 0) (.var 1))=some (.str [z]):=by
   have:=ZfM (bar:=bar) (ms:=ms) (s5:=.fz (.str [c])) hb2 hl
   rwa [e0] at this
  refine⟨.fz (.str [c]),Zaa e3 (Zaa (σ':=stC x pre'.length bar ms (.fz (.str [c]))) (Zav (ZfM e1 hl)) (Zaa ZhX (Zaa (x_f (Zaw (ZaH hz ez rfl)) rfl) (Zaf ?_))))⟩
  erw[rwl (show pre.length+([c],t).2.length=pre'.length+1 from e2.symm ..) ?_]
  exact Zef (ds:=ms) rfl rfl (by lia)
 | @rng lo hi tl th h1 h2 hle h93=>
  have hb1:x=pre++(tl++(45::(th++z::r))):=by erw[rwl (hb ..) ?_];simp
  obtain⟨pre',e1,e2,e3⟩:=Zp8 (bar:=bar) (ms:=ms) (s5:=s5) h1 hb1 hl
  obtain⟨w,th',hth⟩:∃w th',th=w::th':=by
   rcases h2 with⟨rfl,_⟩ | ⟨rfl,_⟩
   ·exact⟨_,_,rfl⟩
   ·exact⟨_,_,rfl⟩
  have hw:w≠93:=λq=>h93 (by erw[rwl (hth ..) (rwl (q ..) ?_)];rfl)
  have e0:(pre'++[lo]).length=pre'.length+1:=by simp
  have hb2:x=(pre'++[lo])++45::(th++z::r):=by erw[rwl (e1 ..) ?_];simp
  have hb2':x=(pre'++[lo])++45::w::(th'++z::r):=by erw[rwl (hb2 ..) (rwl (hth ..) ?_)];simp
  have ez:ev ΓA (stC x (pre'.length+1) bar ms (.fz (.str [lo]))) (.idx (.var 0) (.var 1))=some (.str [45]):=by
   have:=ZfM (bar:=bar) (ms:=ms) (s5:=.fz (.str [lo])) hb2 hl
   rwa [e0] at this
  have ew:ev ΓA (stC x (pre'.length+1) bar ms (.fz (.str [lo]))) (.idx (.var 0) (.bin .add (.var 1) (.const (.int 1))))=some (.str [w]):=by
   have:=Ztd (bar:=bar) (ms:=ms) (s5:=.fz (.str [lo])) hb2' hl
   rwa [e0] at this
  have t2:tv ΓA (stC x (pre'.length+1) bar ms (.fz (.str [lo]))) (.tcmp .ne (.idx (.var 0) (.bin .add (.var 1) (.const (.int 1)))) (.const (.str [93])))=some true:=by
   refine Zaj ew (q:=.str [93]) rfl ?_
   show some (!([w]==[93]))=_
   rw[beq_eq_false_iff_ne.mpr (by simpa using hw)];rfl
  have hb3:x=(pre'++[lo,45])++(th++z::r):=by erw[rwl (e1 ..) ?_];simp
  have e4:(pre'++[lo,45]).length=pre'.length+2:=by simp
  obtain⟨pre2,f1,f2,f3⟩:=Zp8 (bar:=bar) (ms:=ms) (s5:=.fz (.str [lo])) h2 hb3 hl
  rw[e4] at f2 f3
  have eh:=ZfM (bar:=bar) (ms:=ms) (s5:=.fz (.str [lo])) f1 hl
  have g1:ex ΓA fuel (.asg 4 (.bor (.cons (.var 4) (.cons (.cmp .lt (.idx (.var 0) (.var 1)) (.var 5)) .nil)))) (stC x pre2.length bar ms (.fz (.str [lo])))=some (.next,stC x pre2.length bar ms (.fz (.str [lo]))):=by
   refine Zav (d:=.bool false) ?_
   show Zmr _ _ _=_
   refine ZcX (a:=false) rfl (λ_=>ZeL (ZhU (q:=.str [lo]) eh rfl ?_)) nofun
   show some (ltL [hi] [lo])=_
   rw[lt1,decide_eq_false (by lia)]
  have g2:ex ΓA fuel (.aug 5 .add (.bin .add (.const (.str [45])) (.idx (.var 0) (.var 1)))) (stC x pre2.length bar ms (.fz (.str [lo])))=some (.next,stC x pre2.length bar ms (.fz (.str [lo,45,hi]))):=
   ZcT (p:=.str [lo]) (q:=.str [45,hi]) rfl (ZaF (p:=.str [45]) (q:=.str [hi]) rfl eh rfl) rfl
  refine⟨.fz (.str [lo,45,hi]),Zaa e3 (Zaa (σ':=stC x pre'.length bar ms (.fz (.str [lo]))) (Zav (ZfM e1 hl)) (Zaa ZhX (Zaa (x_t (ZaL (ZbV rfl ez rfl) (ZaL t2 rfl)) (Zaa ZhX (Zaa f3 (Zaa g1 (Zaa g2 (Zaf ZhX)))))) (Zaf ?_))))⟩
  have e5:pre.length+(([lo,45,hi]:List Nat),tl++45::th).2.length=pre2.length+1:=by simp;lia
  erw[rwl (e5 ..) ?_]
  exact Zef (ds:=ms) rfl rfl (by lia)
theorem ZuN{pre r:List Nat}{z:Nat}(hz:ms=[]∨z≠93)(hb:x=pre++z::r)(hl:x.length<=100000):tv ΓA (stC x pre.length bar ms s5) ZlY=some true:=by
 cases ms with
 | nil=>exact ZeF (Zaj rfl rfl rfl)
 | cons m ms=>
  have hz:z≠93:=by rcases hz with h | h;cases h;exact h
  refine Zjf (Zaj (p:=.list (m::ms)) (q:=.list []) rfl rfl rfl) (ZeF (Zaj (ZfM hb hl) (q:=.str [93]) rfl ?_))
  show some (!([z]==[93]))=_
  rw[beq_eq_false_iff_ne.mpr (by simpa using hz)];rfl
theorem ZqI{pre r:List Nat}(hm:ms≠[])(hb:x=pre++93::r)(hl:x.length<=100000):tv ΓA (stC x pre.length bar ms s5) ZlY=some false:=by
 cases ms with
 | nil=>exact absurd rfl hm
 | cons m ms=>exact Zjf (Zaj (p:=.list (m::ms)) (q:=.list []) rfl rfl rfl) (Zjf (Zaj (ZfM hb hl) (q:=.str [93]) rfl rfl) rfl)
theorem ZnS{u:ZdU}(h:Un u):∃z t,u.2=z::t:=by
 have ct:∀{c t},CT c t->∃z t',t=z::t':=by
  intro c t h
  rcases h with⟨rfl,_⟩ | ⟨rfl,_⟩
  ·exact⟨_,_,rfl⟩
  ·exact⟨_,_,rfl⟩
 cases h with
 | one h=>exact ct h
 | rng h _ _ _=>
  obtain⟨z,t',rfl⟩:=ct h
  exact⟨z,_,rfl⟩
theorem ZmP(hl:x.length<=100000):∀(us:List ZdU) (pre r:List Nat) (ms:List D) (s5:Slot) (N:Nat),x=pre++(us.flatMap (·.2)++93::r)->(ms=[]->us≠[])->(∀u∈us,Un u)->(∀u∈us.tail,UnN u)->(ms≠[]->∀u∈us,UnN u)->ms.length+us.length<=100000->us.length < N->
  ∃t5,Zbk (λσ=>tv ΓA σ ZlY) (ex ΓA fuel Zk6) N (stC x pre.length bar ms s5)=some (.next,stC x (pre.length+(us.flatMap (·.2)).length) bar (ms++us.map λu=>.str u.1) t5)
 | [],pre,r,ms,s5,N+1,hb,hne,_,_,_,_,_=>by
  refine⟨s5,?_⟩
  rw[ZcS (ZqI (λq=>hne q rfl) (by simpa using hb) hl)]
  simp
 | u::us,pre,r,ms,s5,N+1,hb,hne,hU,hT,hM,hm,hN=>by
  simp at hm hN
  obtain⟨z,t,hz⟩:=ZnS (hU u List.mem_cons_self)
  have hzn:ms=[]∨z≠93:=by
   by_cases q:ms=[]
   ·exact .inl q
   ·exact .inr λh=>(hM q u List.mem_cons_self).2.1 (by erw[rwl (hz ..) (rwl (h ..) ?_)];rfl)
  have hb1:x=pre++(u.2++(us.flatMap (·.2)++93::r)):=by erw[rwl (hb ..) ?_];simp
  obtain⟨y,r',hy,hy45⟩:∃y r',us.flatMap (·.2)++93::r=y::r'∧y≠45:=by
   cases us with
   | nil=>exact⟨93,r,rfl,by decide⟩
   | cons v us=>
    have hv:=hT v List.mem_cons_self
    obtain⟨a,b,hab⟩:=ZnS hv.1
    exact⟨a,b++(us.flatMap (·.2)++93::r),by erw[rwl (List.flatMap_cons ..) (rwl (hab ..) ?_)];simp,λq=>hv.2.2 (by erw[rwl (hab ..) (rwl (q ..) ?_)];rfl)⟩
  have go:=ZuN (x:=x) (bar:=bar) (s5:=s5) hzn (show x=pre++z::(t++(us.flatMap (·.2)++93::r)) by erw[rwl (hb1 ..) (rwl (hz ..) ?_)];simp) hl
  obtain⟨t5,hs⟩:=Zqc (bar:=bar) (ms:=ms) (s5:=s5) (hU u List.mem_cons_self) hy45 (by erw[rwl (hb1 ..) (rwl (hy ..) ?_)]) hl (by lia)
  obtain⟨u5,ih⟩:=ZmP hl us (pre++u.2) r (ms++[.str u.1]) t5 N (by erw[rwl (hb1 ..) ?_];simp) (by simp) (λv hv=>hU v (List.mem_cons_of_mem _ hv)) (λv hv=>hT v (List.mem_of_mem_tail hv)) (λ_ v hv=>hT v hv) (by simp;lia) (by lia)
  rw[List.length_append] at ih
  refine⟨u5,ZiE go hs (ih.trans ?_)⟩
  erw[rwl (List.flatMap_cons ..) (rwl (List.length_append ..) (rwl (List.map_cons ..) (rwl (Nat.add_assoc ..) ?_)))]
  simp
end
noncomputable def Zd3(bar:Bool):List Nat:=if bar then [94] else []
theorem ZnL{x pre r:List Nat}{bar:Bool}{us:List ZdU}(hne:us≠[])(hu:Zdv us)(h94:bar=false->(us.flatMap (·.2)).head?≠some 94)(hb:x=pre++(Zd3 bar++(us.flatMap (·.2)++93::r)))(hl:x.length<=100000)(hn:us.length<=900) :
  Zoj [.str x,.int (pre.length:Int)]=some (.tuple [ZaV (bar,us.map (·.1)),.int ((pre.length+((Zd3 bar).length+((us.flatMap (·.2)).length+1)):Nat):Int),.bool false]):=by
 obtain⟨u,vs,rfl⟩:∃u vs,us=u::vs:=by
  cases us with
  | nil=>exact absurd rfl hne
  | cons u vs=>exact⟨u,vs,rfl⟩
 obtain⟨z,t,hz⟩:=ZnS hu.1
 refine Zbb rfl ?_
 have hU:∀v∈u::vs,Un v:=λv hv=>by
  rcases List.mem_cons.mp hv with rfl | hv
  ·exact hu.1
  ·exact(hu.2 v hv).1
 have hb':x=(pre++Zd3 bar)++((u::vs).flatMap (·.2)++93::r):=by erw[rwl (hb ..) ?_];simp
 obtain⟨t5,hloop⟩:=ZmP (x:=x) (bar:=bar) hl (u::vs) (pre++Zd3 bar) r [] .un fuel hb' (λ_=>by simp) hU hu.2 (λq=>absurd rfl q) (by simp at hn ⊢;lia) (by simp[fuel] at hn ⊢;lia)
 rw[List.length_append,List.nil_append] at hloop
 have s0:ex ΓA fuel (.asg 2 (.cmp .eq (.idx (.var 0) (.var 1)) (.const (.str [94])))) (Ze3 6 [.str x,.int (pre.length:Int)])=some (.next,[.fz (.str x),.fz (.int (pre.length:Int)),.fz (.bool bar),.un,.un,.un]):=by
  have hc:∃c r',x=pre++c::r'∧(c==94)=bar:=by
   cases bar with
   | true=>exact⟨94,_,hb,rfl⟩
   | false=>
    refine⟨z,t++(vs.flatMap (·.2)++93::r),by erw[rwl (hb ..) (rwl (List.flatMap_cons ..) (rwl (hz ..) ?_))];simp[Zd3],?_⟩
    have:=h94 rfl
    rw[List.flatMap_cons,hz] at this
    simpa using this
  obtain⟨c,r',h1,h2⟩:=hc
  have hlen:x.length=pre.length+(r'.length+1):=by erw[rwl (h1 ..) ?_];simp
  refine Zav (ZhU (p:=.str [c]) (q:=.str [94]) (ZaK (p:=.str x) (q:=.int (pre.length:Int)) rfl rfl (ZaW (by erw[rwl (h1 ..) ?_];exact ZbC pre _ 0) (by lia))) rfl ?_)
  show some ([c]==[94])=some bar
  erw[rwr (h2 ..) ?_]
  cases hh:(c==94)<;>simp_all
 have s1:ex ΓA fuel (.ifs (.tval (.var 2)) (.seq (.aug 1 .add (.const (.int 1))) .skip) .skip) [.fz (.str x),.fz (.int (pre.length:Int)),.fz (.bool bar),.un,.un,.un]=some (.next,[.fz (.str x),.fz (.int ((pre.length+(Zd3 bar).length:Nat):Int)),.fz (.bool bar),.un,.un,.un]):=by
  cases bar with
  | true=>exact x_t rfl (Zaf (ZcT (p:=.int (pre.length:Int)) (q:=.int 1) rfl rfl rfl))
  | false=>exact x_f rfl rfl
 refine⟨_,Zaa s0 (Zaa s1 (Zaa (σ':=[.fz (.str x),.fz (.int ((pre.length+(Zd3 bar).length:Nat):Int)),.fz (.bool bar),.own [],.un,.un]) rfl (Zaa (σ':=stC x (pre.length+(Zd3 bar).length) bar [] .un) rfl (Zaa hloop (Za7 (ZbB ?_))))))⟩
 show some (D.tuple [D.tuple [.bool bar,.list ((u::vs).map λu=>.str u.1)],.int (((pre.length+(Zd3 bar).length+((u::vs).flatMap (·.2)).length:Nat):Int)+1),.bool false])=_
 have e1:(((pre.length+(Zd3 bar).length+((u::vs).flatMap (·.2)).length:Nat):Int)+1)=((pre.length+((Zd3 bar).length+(((u::vs).flatMap (·.2)).length+1)):Nat):Int):=by lia
 erw[rwl (e1 ..) ?_]
 unfold ZaV
 erw[rwl (List.map_map ..) ?_]
 rfl
end
section
noncomputable def sg(c:Nat):ZdU:=([c],eC c)
noncomputable def ZaA(p:Pz):List ZdU:=p.1.map sg++p.2.flatMap λt=>([t.1,45,t.2.1],eC t.1++45::eC t.2.1)::t.2.2.map sg
noncomputable def ZfF(p:Pz):List Nat:=p.1++p.2.flatMap λt=>t.1::t.2.1::t.2.2
noncomputable def Zqh(p:Pz):Prop:=∀t∈p.2,t.1<=t.2.1
theorem ZdN(c:Nat):eC c=[c]∧c≠92∧c≠45∨eC c=[92,c]∧ZgZ c=false∧c≠33∧c≠94∧c≠91∧c≠93:=by
 unfold eC
 by_cases h1:c=92
 ·subst h1;exact .inr (by decide)
 ·erw[rwl (if_neg h1 ..) ?_]
  by_cases h2:c=45
  ·subst h2;exact .inr (by decide)
  ·erw[rwl (if_neg h2 ..) ?_]
   by_cases h3:c=38∨c=126∨c=124
   ·erw[rwl (if_pos h3 ..) ?_]
    rcases h3 with rfl | rfl | rfl<;>exact .inr (by decide)
   ·erw[rwl (if_neg h3 ..) ?_]
    exact .inl ⟨rfl,h1,h2⟩
theorem Znt(c:Nat):CT c (eC c):=by
 rcases ZdN c with⟨h,h1,_⟩ | ⟨h,h1,_⟩
 ·exact .inl ⟨h,h1⟩
 ·exact .inr ⟨h,h1⟩
theorem ZsT(c:Nat)(l:List Nat):(eC c++l).head?≠some 45:=by
 rcases ZdN c with⟨h,_,h1⟩ | ⟨h,_⟩
 ·erw[rwl (h ..) ?_];simpa using h1
 ·erw[rwl (h ..) ?_];simp
theorem Zto{c:Nat}(hc:c≠93)(l:List Nat):(eC c++l).head?≠some 93:=by
 rcases ZdN c with⟨h,_⟩ | ⟨h,_⟩
 ·erw[rwl (h ..) ?_];simpa using hc
 ·erw[rwl (h ..) ?_];simp
theorem Zo1{c:Nat}(hc:c≠93):(eC c).head?≠some 93:=by
 have:=Zto hc []
 rwa [List.append_nil] at this
theorem Zs6(c:Nat):Un (sg c):=.one (Znt c)
theorem ZuD{c:Nat}(hc:c≠93):UnN (sg c):=⟨Zs6 c,Zo1 hc,by have:=ZsT c [];rwa [List.append_nil] at this⟩
theorem Zlo{lo hi:Nat}{tl:List Nat}(h1:CT lo tl)(h:lo<=hi)(hh:hi≠93):Un ([lo,45,hi],tl++45::eC hi):=.rng h1 (Znt hi) h (Zo1 hh)
theorem Zms:∀{p:Pz},(∀c∈ZfF p,c≠93)->Zqh p->∀u∈ZaA p,UnN u:=by
 intro p hf hr u hu
 rcases List.mem_append.mp hu with hu | hu
 ·obtain⟨c,hc,rfl⟩:=List.mem_map.mp hu
  exact ZuD (hf c (List.mem_append_left _ hc))
 ·obtain⟨t,ht,hu⟩:=List.mem_flatMap.mp hu
  have hin:∀c∈t.1::t.2.1::t.2.2,c≠93:=λc hc=>hf c (List.mem_append_right _ (List.mem_flatMap.mpr ⟨t,ht,hc⟩))
  rcases List.mem_cons.mp hu with rfl | hu
  ·exact⟨Zlo (Znt _) (hr t ht) (hin _ (by simp)),Zto (hin _ (by simp)) _,ZsT _ _⟩
  ·obtain⟨c,hc,rfl⟩:=List.mem_map.mp hu
   exact ZuD (hin c (by simp[hc]))
theorem Zj7(c:Nat)(d:List Nat)(rs:List (Nat×Nat×List Nat)):ZaA (c::d,rs)=sg c::ZaA (d,rs):=rfl
theorem Zfw(lo hi:Nat)(e:List Nat)(rs:List (Nat×Nat×List Nat)):ZaA ([],(lo,hi,e)::rs)=([lo,45,hi],eC lo++45::eC hi)::ZaA (e,rs):=by
 simp[ZaA]
theorem ZgC(lo hi:Nat)(e:List Nat)(rs:List (Nat×Nat×List Nat)):ZfF ([],(lo,hi,e)::rs)=lo::hi::ZfF (e,rs):=by
 simp[ZfF]
theorem Zjg{p:Pz}(hf:∀c∈(ZfF p).tail,c≠93)(hr:Zqh p):Zdv (ZaA p):=by
 obtain⟨d,rs⟩:=p
 cases d with
 | cons c d=>exact⟨Zs6 c,Zms (p:=(d,rs)) hf hr⟩
 | nil=>
  cases rs with
  | nil=>trivial
  | cons t rs=>
   obtain⟨lo,hi,e⟩:=t
   rw[ZgC] at hf
   erw[rwl (Zfw ..) ?_]
   exact⟨Zlo (Znt _) (hr (lo,hi,e) (by simp)) (hf hi (by simp)),Zms (p:=(e,rs)) (λc hc=>hf c (by simp[hc])) λt ht=>hr t (by simp[ht])⟩
theorem ZhI(p:Pz):Zrt p=(ZaA p).map (·.1):=by
 unfold Zrt ZaA
 erw[rwl (List.map_append ..) (rwl (List.map_map ..) (rwl (List.map_flatMap ..) ?_))]
 congr 1
 ·congr 1
  funext t
  erw[rwl (List.map_cons ..) (rwl (List.map_map ..) ?_)]
  rfl
theorem Zhc(p:Pz):Zh6 p=(ZaA p).flatMap (·.2):=by
 unfold Zh6 ZaA
 erw[rwl (List.flatMap_append ..) (rwl (List.flatMap_map ..) (rwl (List.flatMap_assoc ..) ?_))]
 congr 1
 ·congr 1
  funext t
  erw[rwl (List.flatMap_cons ..) (rwl (List.flatMap_map ..) ?_)]
  show eC t.1++[45]++eC t.2.1++t.2.2.flatMap eC=(eC t.1++45::eC t.2.1)++_
  simp[sg]
theorem Zk1:∀(rs:List (Nat×Nat×List Nat)),∀t∈(rmR rs).2,t.1<=t.2.1
 | [],t,h=>by simp[ZtN,Zrw] at h
 | (lo,hi,d)::rs,t,h=>by
  rw[ZgI] at h
  split at h
  ·exact Zk1 rs t h
  ·rcases List.mem_cons.mp h with rfl | h
   ·show lo<=hi
    lia
   ·exact Zk1 rs t h
theorem ZtX(p:Pz):Zqh (rm p):=Zk1 p.2
theorem Zjq:∀(rs:List (Nat×Nat×List Nat)),((rmR rs).1++(rmR rs).2.flatMap λt=>t.1::t.2.1::t.2.2).Sublist (rs.flatMap λt=>t.1::t.2.1::t.2.2)
 | []=>by simp[ZtN,Zrw]
 | (lo,hi,d)::rs=>by
  have ih:=Zjq rs
  erw[rwl (ZgI ..) (rwl (List.flatMap_cons ..) ?_)]
  split
  ·show(d++(rmR rs).1++_).Sublist (lo::hi::d++_)
   erw[rwl (List.append_assoc ..) ?_]
   exact((List.Sublist.append (List.Sublist.refl d) ih).cons hi).cons lo
  ·show([]++List.flatMap _ ((lo,hi,d++(rmR rs).1)::(rmR rs).2)).Sublist (lo::hi::d++_)
   erw[rwl (List.nil_append ..) (rwl (List.flatMap_cons ..) ?_)]
   show(lo::hi::(d++(rmR rs).1)++_).Sublist (lo::hi::d++_)
   erw[rwl (List.cons_append ..) (rwl (List.cons_append ..) (rwl (List.append_assoc ..) ?_))]
   exact((List.Sublist.append (List.Sublist.refl d) ih).cons_cons hi).cons_cons lo
theorem Zpz(p:Pz):(ZfF (rm p)).Sublist (ZfF p):=by
 unfold ZfF rm
 erw[rwl (List.append_assoc ..) ?_]
 exact List.Sublist.append (List.Sublist.refl _) (Zjq p.2)
theorem Zkk(b:List Nat):(ZfF (Zao b)).Sublist b:=by
 induction b using Zao.induct with
 | case1 a x r ih=>
  erw[rwl (Zjs ..) (rwl (if_pos rfl ..) (rwl (ZgC ..) ?_))]
  exact((ih.cons_cons x).cons 45).cons_cons a
 | case2 a c x r hc ih=>
  erw[rwl (Zjs ..) (rwl (if_neg hc ..) ?_)]
  exact ih.cons_cons a
 | case3 a c=>exact List.Sublist.refl _
 | case4 a=>exact List.Sublist.refl _
 | case5=>exact List.Sublist.refl _
inductive ItT:Item×List Nat->Prop
 | any:ItT ((true,[]),[46])
 | none:ItT ((false,[]),[40,63,33,41])
 | esc {c:Nat}:ZgZ c=false->ItT ((false,[[c]]),[92,c])
 | lit {c:Nat}:c ∉ specials->ItT ((false,[[c]]),[c])
 | set {bar:Bool} {us:List ZdU}:us≠[]->Zdv us->(bar=false->(us.flatMap (·.2)).head?≠some 94)->us.length<=900->ItT ((bar,us.map (·.1)),91::(Zd3 bar++(us.flatMap (·.2)++[93])))
set_option tactic.hygienic true in
theorem ZhV{c:Nat}{t:List Nat}{r:List (List Nat)}(h:c≠33):ZbA false ((c::t)::r)=(false,(c::t)::r):=by
 unfold ZbA
 split
 ·rename_i e;cases e;exact absurd rfl h
 ·rfl
theorem ZfS{t:List Nat}{r:List (List Nat)}:ZbA false ((33::t)::r)=(true,t.map (λc=>[c])++r):=rfl
theorem Zec{c d:Nat}{t:List Nat}:ZaN (c::d::t)=91::Zpv (c::d::t)++[93]:=by
 unfold ZaN
 rw[if_neg (by simp),if_neg (by simp)]
theorem ZdO{c:Nat}{t:List Nat}(h:c≠33):ZaN (c::t)=91::Zpv (c::t)++[93]:=by
 unfold ZaN
 rw[if_neg (by simp),if_neg (by simp;intro q;exact absurd q h)]
theorem Zlh:∀{us:List ZdU},(∀u∈us,Un u)->us.length<=(us.flatMap (·.2)).length
 | [],_=>by simp
 | u::us,h=>by
  have ih:=Zlh λv hv=>h v (List.mem_cons_of_mem u hv)
  obtain⟨z,t,hz⟩:=ZnS (h u List.mem_cons_self)
  erw[rwl (List.flatMap_cons ..) (rwl (List.length_append ..) (rwl (hz ..) (rwl (List.length_cons ..) (rwl (List.length_cons ..) ?_))))]
  lia
theorem ZsX{us:List ZdU}(h:Zdv us):∀u∈us,Un u:=by
 cases us with
 | nil=>simp
 | cons u us=>
  intro v hv
  rcases List.mem_cons.mp hv with rfl | hv
  ·exact h.1
  ·exact(h.2 v hv).1
theorem Zvl{us:List ZdU}(h:∀u∈us,UnN u):Zdv us:=by
 cases us with
 | nil=>trivial
 | cons u us=>exact⟨(h u List.mem_cons_self).1,λv hv=>h v (List.mem_cons_of_mem _ hv)⟩
theorem Zdq{bar:Bool}{us:List ZdU}{w:List Nat}(hne:us≠[])(hu:Zdv us)(h94:bar=false->(us.flatMap (·.2)).head?≠some 94)(hw:w=91::(Zd3 bar++us.flatMap (·.2))++[93])(hl:w.length<=900):ItT ((bar,us.map (·.1)),w):=by
 have hn:=Zlh (ZsX hu)
 have:w=91::(Zd3 bar++(us.flatMap (·.2)++[93])):=by erw[rwl (hw ..) ?_];simp
 rw[this] at hl ⊢
 refine .set hne hu h94 ?_
 simp at hl hn ⊢
 lia
theorem Zhs{p:Pz}(h:(ZaA p).flatMap (·.2)=[])(hu:Zdv (ZaA p)):ZaA p=[]:=by
 have:=Zlh (ZsX hu)
 rw[h] at this
 exact List.eq_nil_of_length_eq_zero (by simpa using this)
theorem ZrG{b:List Nat}(h:∀c∈(if b.head?==some 33 then b.tail else b).tail,c≠93)(hl:b.length<=40):ItT (Zh4 b,ZaN (Zbc b)):=by
 have hsl:=ZfA b
 have htl:=Zf3 (Zbc b)
 have hwl:(ZaN (Zbc b)).length<=900:=by lia
 clear hsl htl
 unfold Zh4 Zbc at *
 generalize hb':(if(b.head?==some 33)=true then b.tail else b)=b' at *
 erw[rwl (ZbJ ..) ?_]
 have hf:∀c∈(ZfF (rm (Zao b'))).tail,c≠93:=λc hc=>h c ((((Zpz _).trans (Zkk b')).tail).subset hc)
 have hr:=ZtX (Zao b')
 cases h33:(b.head?==some 33) with
 | true=>
  rw[h33] at hb' hwl
  rw[if_pos rfl] at hb' hwl ⊢
  rw[hb'] at hwl ⊢
  generalize rm (Zao b')=P at *
  have hu:=Zjg hf hr
  erw[rwl (Zfp ..) (rwl (ZhI ..) ?_)]
  rw[Zhc] at hwl ⊢
  cases ht:(ZaA P).flatMap (·.2) with
  | nil=>
   have:=Zhs ht hu
   erw[rwl (this ..) ?_]
   exact .any
  | cons c t=>
   rw[ht] at hwl
   refine Zdq ?_ hu nofun ?_ hwl
   ·intro q;rw[q] at ht;cases ht
   ·erw[rwl (Zec ..) (rwl (ZaY ..) (rwl (if_pos rfl ..) (rwl (ht ..) ?_)))];rfl
 | false=>
  rw[h33] at hb' hwl
  rw[if_neg nofun] at hb' hwl ⊢
  rw[hb'] at hwl ⊢
  generalize rm (Zao b')=P at *
  have hu:=Zjg hf hr
  erw[rwl (ZhI ..) ?_]
  rw[Zhc] at hwl ⊢
  obtain⟨d,rs⟩:=P
  cases d with
  | cons c d=>
   rw[Zj7] at hu hwl ⊢
   erw[rwl (List.map_cons ..) (rwl (List.flatMap_cons ..) ?_)]
   rw[List.flatMap_cons] at hwl
   have hn:∀u∈ZaA (d,rs),UnN u:=hu.2
   by_cases hc:c=33
   ·subst hc
    have e33:(sg 33).2=[33]:=rfl
    rw[e33] at hwl ⊢
    show ItT (ZbA false ([33]::_),_)
    erw[rwl (ZfS ..) ?_]
    cases ht:(ZaA (d,rs)).flatMap (·.2) with
    | nil=>
     have:=Zhs ht (Zvl hn)
     erw[rwl (this ..) ?_]
     exact .any
    | cons e t=>
     rw[ht] at hwl
     refine Zdq (us:=ZaA (d,rs)) ?_ (Zvl hn) nofun ?_ hwl
     ·intro q;rw[q] at ht;cases ht
     ·show ZaN (33::e::t)=_
      erw[rwl (Zec ..) (rwl (ZaY ..) (rwl (if_pos rfl ..) (rwl (ht ..) ?_)))];rfl
   ·show ItT (ZbA false ([c]::_),_)
    erw[rwl (ZhV hc ..) ?_]
    by_cases h2:c=94∨c=91
    ·have ec:(sg c).2=[c]:=by rcases h2 with rfl | rfl<;>rfl
     rw[ec] at hwl ⊢
     have ew:ZaN ([c]++(ZaA (d,rs)).flatMap (·.2))=91::(92::c::(ZaA (d,rs)).flatMap (·.2))++[93]:=by
      show ZaN (c::_)=_
      erw[rwl (ZdO hc ..) (rwl (ZaY ..) (rwl (if_neg hc ..) (rwl (if_pos h2 ..) ?_)))]
      rfl
     exact Zdq (bar:=false) (us:=([c],[92,c])::ZaA (d,rs)) (by simp) ⟨.one (.inr ⟨rfl,by rcases h2 with rfl | rfl<;>decide⟩),hn⟩ (λ_=>by simp) (by erw[rwl (ew ..) ?_];simp[Zd3]) hwl
    ·have ew:∃z t,(sg c).2=z::t∧z≠33∧z≠94∧z≠91:=by
      rcases ZdN c with⟨q,_⟩ | ⟨q,_⟩
      ·exact⟨c,[],q,hc,λw=>h2 (.inl w),λw=>h2 (.inr w)⟩
      ·exact⟨92,[c],q,by decide,by decide,by decide⟩
     obtain⟨z,t,hz,z1,z2,z3⟩:=ew
     have e2:ZaN ((sg c).2++(ZaA (d,rs)).flatMap (·.2))=91::((sg c).2++(ZaA (d,rs)).flatMap (·.2))++[93]:=by
      erw[rwl (hz ..) ?_]
      show ZaN (z::(t++_))=_
      rw[ZdO z1,ZaY,if_neg z1,if_neg (by rintro(q | q);exact z2 q;exact z3 q)]
      rfl
     exact Zdq (bar:=false) (us:=sg c::ZaA (d,rs)) (by simp) hu (λ_=>by erw[rwl (List.flatMap_cons ..) (rwl (hz ..) ?_)];simpa using z2) (by erw[rwl (e2 ..) ?_];simp[Zd3]) hwl
  | nil=>
   cases rs with
   | nil=>exact .none
   | cons t rs=>
    obtain⟨lo,hi,e⟩:=t
    rw[ZgC] at hf
    have hn:∀u∈ZaA (e,rs),UnN u:=by rw[Zfw] at hu;exact hu.2
    have hhi:hi≠93:=hf hi (by simp)
    have hle:lo<=hi:=hr (lo,hi,e) (by simp)
    rw[Zfw] at hu hwl ⊢
    erw[rwl (List.map_cons ..) (rwl (List.flatMap_cons ..) ?_)]
    rw[List.flatMap_cons] at hwl
    by_cases hc:lo=33
    ·subst hc
     show ItT (ZbA false ([33,45,hi]::_),_)
     erw[rwl (ZfS ..) ?_]
     have e33:eC 33=[33]:=rfl
     have ew:ZaN ((eC 33++45::eC hi)++(ZaA (e,rs)).flatMap (·.2))=91::(94::45::(eC hi++(ZaA (e,rs)).flatMap (·.2)))++[93]:=by
      erw[rwl (e33 ..) ?_]
      show ZaN (33::45::_)=_
      erw[rwl (Zec ..) (rwl (ZaY ..) (rwl (if_pos rfl ..) ?_))]
      rfl
     exact Zdq (bar:=true) (us:=([45],[45])::sg hi::ZaA (e,rs)) (by simp) ⟨.one (.inl ⟨rfl,by decide⟩),λv hv=>by
      rcases List.mem_cons.mp hv with rfl | hv
      ·exact ZuD hhi
      ·exact hn v hv⟩ nofun (by erw[rwl (ew ..) ?_];simp[Zd3,sg]) hwl
    ·show ItT (ZbA false ([lo,45,hi]::_),_)
     erw[rwl (ZhV hc ..) ?_]
     by_cases h2:lo=94∨lo=91
     ·have ec:eC lo=[lo]:=by rcases h2 with rfl | rfl<;>rfl
      have ew:ZaN ((eC lo++45::eC hi)++(ZaA (e,rs)).flatMap (·.2))=91::(92::lo::45::(eC hi++(ZaA (e,rs)).flatMap (·.2)))++[93]:=by
       erw[rwl (ec ..) ?_]
       show ZaN (lo::_)=_
       erw[rwl (ZdO hc ..) (rwl (ZaY ..) (rwl (if_neg hc ..) (rwl (if_pos h2 ..) ?_)))]
       rfl
      exact Zdq (bar:=false) (us:=([lo,45,hi],[92,lo]++45::eC hi)::ZaA (e,rs)) (by simp) ⟨Zlo (.inr ⟨rfl,by rcases h2 with rfl | rfl<;>decide⟩) hle hhi,hn⟩ (λ_=>by simp) (by erw[rwl (ew ..) ?_];simp[Zd3]) hwl
     ·have ew:∃z t,eC lo=z::t∧z≠33∧z≠94∧z≠91:=by
       rcases ZdN lo with⟨q,_⟩ | ⟨q,_⟩
       ·exact⟨lo,[],q,hc,λw=>h2 (.inl w),λw=>h2 (.inr w)⟩
       ·exact⟨92,[lo],q,by decide,by decide,by decide⟩
      obtain⟨z,t,hz,z1,z2,z3⟩:=ew
      have e2:ZaN ((eC lo++45::eC hi)++(ZaA (e,rs)).flatMap (·.2))=91::((eC lo++45::eC hi)++(ZaA (e,rs)).flatMap (·.2))++[93]:=by
       erw[rwl (hz ..) ?_]
       show ZaN (z::(t++45::eC hi++_))=_
       rw[ZdO z1,ZaY,if_neg z1,if_neg (by rintro(q | q);exact z2 q;exact z3 q)]
       rfl
      exact Zdq (bar:=false) (us:=([lo,45,hi],eC lo++45::eC hi)::ZaA (e,rs)) (by simp) hu (λ_=>by erw[rwl (List.flatMap_cons ..) (rwl (hz ..) ?_)];simpa using z2) (by erw[rwl (e2 ..) ?_];simp[Zd3]) hwl
set_option tactic.hygienic true in
theorem ZqY(c:Nat):ItT ((false,[[c]]),Zff c):=by
 unfold Zff
 split
 ·rename_i h
  refine .esc ?_
  have:∀c∈specials,ZgZ c=false:=by decide
  exact this c h
 ·rename_i h
  exact .lit h
set_option tactic.hygienic true in
theorem Zt1{p:List Nat}:p.length<=40->∀x,some x∈ipL p->ItT x:=by
 refine ZgD (P:=λp=>p.length<=40->∀x,some x∈ipL p->ItT x) (λ_ x hx=>absurd hx List.not_mem_nil) (λr ih hl x hx=>?_) (λr ih hl x hx=>?_) (λr k hk ih hl x hx=>?_) (λc r h1 h2 h3 ih hl x hx=>?_) p.length p (Nat.le_refl _)
 ·exact(List.mem_cons.mp (show some x∈none::ipL r from hx)).elim (λe=>nn e.symm) (ih (Nat.le_of_succ_le hl) x)
 ·exact(List.mem_cons.mp (show some x∈some ((true,[]),[46])::ipL r from hx)).elim (λe=>Option.some.inj e▸.any) (ih (Nat.le_of_succ_le hl) x)
 ·rw[Zll hk] at hx
  have hl':r.length < 40:=hl
  refine(List.mem_cons.mp hx).elim (λe=>Option.some.inj e▸ZrG ?_ (Nat.le_trans (List.length_take_le' ..) (by lia))) (ih (Nat.le_trans (Zea ..) (Nat.le_of_succ_le hl)) x)
  obtain⟨k1,k2,k3⟩:=ZaS hk
  have hcl:1<=clS r:=by unfold clS;split<;>decide
  have hh:((r.take k).head?==some 33)=(r.head?==some 33):=by
   cases r with
   | nil=>simp
   | cons a r=>
    match k,k1 with
    | k+1,_=>rfl
    | 0,k1=>exact absurd (Nat.le_trans hcl k1) (Nat.not_succ_le_zero 0)
  have he:(if((r.take k).head?==some 33)=true then(r.take k).tail else r.take k).tail=(r.take k).drop (clS r):=by
   erw[rwl (hh ..) ?_]
   unfold clS
   split
   ·erw[rwr (List.drop_one ..) (rwr (List.drop_one ..) (rwl (List.drop_drop ..) ?_))]
   ·erw[rwr (List.drop_one ..) ?_]
  intro c hc
  rw[he] at hc
  obtain⟨i,hi⟩:=List.getElem?_of_mem hc
  rw[List.getElem?_drop,List.getElem?_take] at hi
  split at hi
  ·rename_i hik
   intro q
   exact k3 (clS r+i) (by lia) hik (by erw[rwl (hi ..) (rwl (q ..) ?_)])
  ·cases hi
 ·rw[Zjm h1 h2 h3] at hx
  exact(List.mem_cons.mp hx).elim (λe=>Option.some.inj e▸ZqY c) (ih (Nat.le_of_succ_le hl) x)
end
section
noncomputable def Zez:X:=match Zdx with
 | .seq _ (.seq _ (.seq _ (.seq _ (.seq (.whl t _) _))))=>t
 | _=>.nil
noncomputable def Zeu:S:=match Zdx with
 | .seq _ (.seq _ (.seq _ (.seq _ (.seq (.whl _ b) _))))=>b
 | _=>.skip
noncomputable def Ztb:S:=match Zeu with
 | .seq _ (.seq _ b)=>b
 | _=>.skip
theorem gB9:ΓB 9=ZrH:=rfl
theorem ZvO:ΓB 10=Zoj:=rfl
noncomputable def Zg6(R:List (List Item)):List (List D):=R.map (·.map ZaV)
noncomputable def stD(x:List Nat)(R:List (List Item))(ins:Bool)(i:Nat)(s5 s6 s7:Slot):Sg:=[.fz (.str x),.own2 (Zg6 R),.fz (.bool true),.fz (.bool ins),.fz (.int (i:Int)),s5,s6,s7]
noncomputable def Go(L:Nat)(σ:Sg)(P:Option (Fl×Sg)->Prop):Prop:=∀N,L < N->P (Zbk (λσ=>tv ΓB σ Zez) (ex ΓB fuel Zeu) N σ)
theorem ZgF{L L':Nat}{σ σ':Sg}{P:Option (Fl×Sg)->Prop}(ht:tv ΓB σ Zez=some true)(hb:ex ΓB fuel Zeu σ=some (.next,σ'))(k:Go L' σ' P)(hL:L' < L):Go L σ P:=by
 intro N hN
 match N,hN with
 | N+1,hN=>
  erw[rwl (ZiE ht hb rfl ..) ?_]
  exact k N (by lia)
theorem ZoV{L:Nat}{σ:Sg}{P:Option (Fl×Sg)->Prop}(ht:tv ΓB σ Zez=some false)(h:P (some (.next,σ))):Go L σ P:=by
 intro N hN
 match N,hN with
 | N+1,hN=>
  erw[rwl (ZcS ht ..) ?_]
  exact h
theorem c_f{Γ:ZaC}{N:Nat}{σ σ':Sg}{t:X}{a b:S}(h:tv Γ σ t=some false)(k:ex Γ N b σ=some (.next,σ')):ex Γ N (.seq (.ifs t a b) .skip) σ=some (.next,σ'):=Zaf (x_f h k)
theorem c_t{Γ:ZaC}{N:Nat}{σ σ':Sg}{t:X}{a b:S}(h:tv Γ σ t=some true)(k:ex Γ N a σ=some (.next,σ')):ex Γ N (.seq (.ifs t a b) .skip) σ=some (.next,σ'):=Zaf (x_t h k)
section
variable {x:List Nat}{R:List (List Item)}{cur:List Item}{ins:Bool}{s5 s6 s7:Slot}
theorem Zkz{i:Nat}:tv ΓB (stD x R ins i s5 s6 s7) Zez=some (decide (i+3 < x.length)):=by
 refine(lt_int (a:=(i:Int)) (b:=(x.length:Int) - 3) rfl rfl).trans ?_
 congr 1
 erw[rwl (propext (Bool.eq_iff_iff ..)) ?_];simp only[decide_eq_true_eq];lia
theorem Zg4{y:X}{it:Item}{i:Nat}(h:ev ΓB (stD x (R++[cur]) ins i s5 s6 s7) y=some (ZaV it))(hR:R.length<=100000)(hc:cur.length<=100000) :
  ex ΓB fuel (.lst2 1 y) (stD x (R++[cur]) ins i s5 s6 s7)=some (.next,stD x (R++[cur++[it]]) ins i s5 s6 s7):=by
 have e1:Zdl (stD x (R++[cur]) ins i s5 s6 s7) 1=some (Zg6 (R++[cur])):=rfl
 have e2:(Zg6 (R++[cur])).getLast? = some (cur.map ZaV):=by unfold Zg6;simp
 have e3:(Zg6 (R++[cur])).dropLast++[cur.map ZaV++[ZaV it]]=Zg6 (R++[cur++[it]]):=by unfold Zg6;simp
 show(Zdl (stD x (R++[cur]) ins i s5 s6 s7) 1).bind _=_
 refine Zag e1 (Zag h (Zag e2 ?_))
 erw[rwl (e3 ..) ?_]
 refine if_pos ⟨?_,?_⟩
 ·unfold Zg6;simp;lia
 ·unfold Zg6;simp;lia
theorem ZoQ{i:Nat}(hR:R.length<=100000):ex ΓB fuel (.new2 1) (stD x R ins i s5 s6 s7)=some (.next,stD x (R++[[]]) ins i s5 s6 s7):=by
 have e1:Zdl (stD x R ins i s5 s6 s7) 1=some (Zg6 R):=rfl
 have e3:Zg6 R++[[]]=Zg6 (R++[[]]):=by unfold Zg6;simp
 show(Zdl (stD x R ins i s5 s6 s7) 1).bind _=_
 refine Zag e1 ?_
 erw[rwl (e3 ..) ?_]
 refine if_pos ⟨?_,?_⟩
 ·unfold Zg6;simp;lia
 ·unfold Zg6;simp
theorem Zml{q r:List Nat}{n:Nat}(hb:x=q++r):ev ΓB (stD x R ins q.length s5 s6 s7) (.slc (.var 0) (.var 4) (.bin .add (.var 4) (.const (.int (n:Int)))))=some (.str (r.take n)):=by
 refine Zcu (p:=.str x) (q:=.int (q.length:Int)) (r:=.int ((q.length+n:Nat):Int)) rfl rfl rfl ?_
 show some (D.str (slice x _ _))=_
 have:=ZbQ q r 0 n
 rw[Nat.add_zero,List.drop_zero] at this
 erw[rwl (hb ..) (rwl (this ..) ?_)]
theorem Zom{q r:List Nat}{c:Nat}(hb:x=q++c::r)(hl:x.length<=100000):ev ΓB (stD x R ins q.length s5 s6 s7) (.idx (.var 0) (.var 4))=some (.str [c]):=by
 have hlen:x.length=q.length+(r.length+1):=by erw[rwl (hb ..) ?_];simp
 exact ZaK (p:=.str x) (q:=.int (q.length:Int)) rfl rfl (ZaW (by erw[rwl (hb ..) ?_];exact ZbC q _ 0) (by lia))
theorem Zeq{pre r:List Nat}{c:Nat}(hb:x=pre++c::r)(hl:x.length<=100000){o:Option (Fl×Sg)}(k:ex ΓB fuel Ztb (stD x R ins (pre++[c]).length (.fz (.str [c])) s6 s7)=o) :
  ex ΓB fuel Zeu (stD x R ins pre.length s5 s6 s7)=o:=by
 have e:(pre++[c]).length=pre.length+1:=by simp
 rw[e] at k
 exact Zaa (σ':=stD x R ins pre.length (.fz (.str [c])) s6 s7) (Zav (Zom hb hl)) (Zaa (σ':=stD x R ins (pre.length+1) (.fz (.str [c])) s6 s7) (ZcT (p:=.int (pre.length:Int)) (q:=.int 1) rfl rfl rfl) k)
theorem ZtF{Γ:ZaC}{σ:Sg}{y:X}{c:Nat}(h:ev Γ σ y=some (.str [c])):ev Γ σ (.tuple (.cons (.const (.bool false)) (.cons (.list (.cons y .nil)) .nil)))=some (ZaV (false,[[c]])):=ZiS (ds:=[.bool false,.list [.str [c]]]) (ZaP rfl (Zcc (ZnJ (Zcc h) (Nat.le_of_ble_eq_true rfl)))) (Nat.le_of_ble_eq_true rfl)
theorem Zp3{u:Item×List Nat}(hu:ItT u){pre post:List Nat}{z:Nat}(hz:z≠42)(hb:x=pre++(u.2++z::post))(hl:x.length<=100000)(hR:R.length<=100000)(hc:cur.length<=100000) :
  ∃t5 t6 t7,ex ΓB fuel Zeu (stD x (R++[cur]) ins pre.length s5 s6 s7)=some (.next,stD x (R++[cur++[u.1]]) ins (pre.length+u.2.length) t5 t6 t7):=by
 cases hu with
 | any=>
  have hb1:x=pre++46::(z::post):=hb
  have hb2:x=(pre++[46])++z::post:=by erw[rwl (hb1 ..) ?_];simp
  have e:pre.length+([46]:List Nat).length=(pre++[46]).length:=by simp
  refine⟨.fz (.str [46]),s6,s7,Zeq hb1 hl ?_⟩
  show _=some (Fl.next,stD x (R++[cur++[(true,[])]]) ins (pre.length+([46]:List Nat).length) (.fz (.str [46])) s6 s7)
  erw[rwl (e ..) ?_]
  refine c_f (Zaw (ZaH (by decide) rfl rfl)) ?_
  refine c_f (Zaw (ZaH (by decide) rfl rfl)) ?_
  refine c_f (ZaL (ZbV rfl rfl rfl) (Zaw (ZaH hz (Zom hb2 hl) rfl))) ?_
  refine c_f (Zaw (ZaH (by decide) rfl rfl)) ?_
  refine c_t (ZbV rfl rfl rfl) ?_
  exact Zaf (Zg4 (it:=(true,[])) rfl hR hc)
 | none=>
  have hb1:x=pre++40::(63::33::41::z::post):=hb
  have hb2:x=(pre++[40])++(63::33::41::z::post):=by erw[rwl (hb1 ..) ?_];simp
  refine⟨.fz (.str [40]),s6,s7,Zeq hb1 hl ?_⟩
  have e:pre.length+([40,63,33,41]:List Nat).length=(pre++[40]).length+3:=by simp
  show _=some (Fl.next,stD x (R++[cur++[(false,[])]]) ins (pre.length+([40,63,33,41]:List Nat).length) (.fz (.str [40])) s6 s7)
  erw[rwl (e ..) ?_]
  have t1:tv ΓB (stD x (R++[cur]) ins (pre++[40]).length (.fz (.str [40])) s6 s7) (.tcmp .eq (.slc (.var 0) (.var 4) (.bin .add (.var 4) (.const (.int 5)))) (.const (.str [63,62,46,42,63])))=some false:=Zaj (Zml (n:=5) hb2) rfl (by
   show some (_==_)=_
   rw[beq_eq_false_iff_ne.mpr (by simp)])
  have t4:tv ΓB (stD x (R++[cur]) ins (pre++[40]).length (.fz (.str [40])) s6 s7) (.tcmp .eq (.slc (.var 0) (.var 4) (.bin .add (.var 4) (.const (.int 3)))) (.const (.str [63,33,41])))=some true:=Zaj (Zml (n:=3) hb2) rfl rfl
  refine c_f (ZaL (ZbV rfl rfl rfl) (Zaw t1)) ?_
  refine c_f (Zaw (ZaH (by decide) rfl rfl)) ?_
  refine c_f (Zaw (ZaH (by decide) rfl rfl)) ?_
  refine c_t (ZaL (ZbV rfl rfl rfl) (ZaL t4 rfl)) ?_
  exact Zaa (Zg4 (it:=(false,[])) rfl hR hc) (Zaf (ZcT (p:=.int ((pre++[40]).length:Int)) (q:=.int 3) rfl rfl rfl))
 | @esc c hw=>
  have hb1:x=pre++92::(c::z::post):=hb
  have hb2:x=(pre++[92])++c::(z::post):=by erw[rwl (hb1 ..) ?_];simp
  refine⟨.fz (.str [92]),s6,s7,Zeq hb1 hl ?_⟩
  have e:pre.length+([92,c]:List Nat).length=(pre++[92]).length+1:=by simp
  show _=some (Fl.next,stD x (R++[cur++[(false,[[c]])]]) ins (pre.length+([92,c]:List Nat).length) (.fz (.str [92])) s6 s7)
  erw[rwl (e ..) ?_]
  have ei:=Zom (R:=R++[cur]) (ins:=ins) (s5:=.fz (.str [92])) (s6:=s6) (s7:=s7) hb2 hl
  have t7:tv ΓB (stD x (R++[cur]) ins (pre++[92]).length (.fz (.str [92])) s6 s7) (.tnot (.tval (.call 9 (.cons (.idx (.var 0) (.var 4)) .nil))))=some true:=by
   refine Zfj (b:=false) (ZcA (d:=.bool false) (Zbe (ds:=[.str [c]]) (Zcc ei) ?_) rfl)
   refine(congrFun gB9 _).trans ?_
   erw[rwl (ZmK ..) (rwl (hw ..) ?_)]
  refine c_f (Zaw (ZaH (by decide) rfl rfl)) ?_
  refine c_f (Zaw (ZaH (by decide) rfl rfl)) ?_
  refine c_f (Zaw (ZaH (by decide) rfl rfl)) ?_
  refine c_f (Zaw (ZaH (by decide) rfl rfl)) ?_
  refine c_f (ZaH (by decide) rfl rfl) ?_
  refine c_f (ZaH (by decide) rfl rfl) ?_
  refine c_t (ZaL (ZbV rfl rfl rfl) (ZaL t7 rfl)) ?_
  exact Zaa (Zg4 (it:=(false,[[c]])) (ZtF ei) hR hc) (Zaf (ZcT (p:=.int ((pre++[92]).length:Int)) (q:=.int 1) rfl rfl rfl))
 | @lit c hs=>
  have hb1:x=pre++c::(z::post):=hb
  have n40:c≠40:=λq=>hs (by erw[rwl (q ..) ?_];decide)
  have n41:c≠41:=λq=>hs (by erw[rwl (q ..) ?_];decide)
  have n46:c≠46:=λq=>hs (by erw[rwl (q ..) ?_];decide)
  have n91:c≠91:=λq=>hs (by erw[rwl (q ..) ?_];decide)
  have n92:c≠92:=λq=>hs (by erw[rwl (q ..) ?_];decide)
  refine⟨.fz (.str [c]),s6,s7,Zeq hb1 hl ?_⟩
  have e:pre.length+([c]:List Nat).length=(pre++[c]).length:=by simp
  show _=some (Fl.next,stD x (R++[cur++[(false,[[c]])]]) ins (pre.length+([c]:List Nat).length) (.fz (.str [c])) s6 s7)
  erw[rwl (e ..) ?_]
  have hin:([40,41,42,43,63,123,124,94,36,92]:List Nat).contains c=false:=by
   erw[rwl (propext (Bool.eq_false_iff ..)) ?_]
   intro q
   have q:=List.contains_iff_mem.mp q
   exact hs ((by decide:∀a∈([40,41,42,43,63,123,124,94,36,92]:List Nat),a∈specials) c q)
  have g2:ex ΓB fuel (.asg 2 (.band (.cons (.var 2) (.cons (.cmp .notin (.var 5) (.const (.str [40,41,42,43,63,123,124,94,36,92]))) .nil)))) (stD x (R++[cur++[(false,[[c]])]]) ins (pre++[c]).length (.fz (.str [c])) s6 s7)=some (.next,stD x (R++[cur++[(false,[[c]])]]) ins (pre++[c]).length (.fz (.str [c])) s6 s7):=by
   refine Zav (d:=.bool true) ?_
   show Zfi _ _ _=_
   refine Zc5 (a:=true) rfl (λ_=>ZdX (ZhU (p:=.str [c]) rfl rfl ?_)) nofun
   show some (!(([40,41,42,43,63,123,124,94,36,92]:List Nat).contains c))=_
   erw[rwl (hin ..) ?_];rfl
  refine c_f (Zaw (ZaH n40 rfl rfl)) ?_
  refine c_f (Zaw (ZaH n41 rfl rfl)) ?_
  refine c_f (Zaw (ZaH n46 rfl rfl)) ?_
  refine c_f (Zaw (ZaH n40 rfl rfl)) ?_
  refine c_f (ZaH n46 rfl rfl) ?_
  refine c_f (ZaH n91 rfl rfl) ?_
  refine c_f (Zaw (ZaH n92 rfl rfl)) ?_
  exact Zaa (Zg4 (it:=(false,[[c]])) (ZtF rfl) hR hc) (Zaf g2)
 | @set bar us hne huo h94 hn=>
  have hb1:x=pre++91::(Zd3 bar++(us.flatMap (·.2)++93::(z::post))):=by erw[rwl (hb ..) ?_];simp
  have hb2:x=(pre++[91])++(Zd3 bar++(us.flatMap (·.2)++93::(z::post))):=by erw[rwl (hb1 ..) ?_];simp
  have hs:=ZnL hne huo h94 hb2 hl hn
  have ec:ev ΓB (stD x (R++[cur]) ins (pre++[91]).length (.fz (.str [91])) s6 s7) (.call 10 (.cons (.var 0) (.cons (.var 4) .nil)))=some (.tuple [ZaV (bar,us.map (·.1)),.int (((pre++[91]).length+((Zd3 bar).length+((us.flatMap (·.2)).length+1)):Nat):Int),.bool false]):=
   Zbe (ds:=[.str x,.int ((pre++[91]).length:Int)]) rfl ((congrFun ZvO _).trans hs)
  have g1:ex ΓB fuel (.unp [6,4,7] (.call 10 (.cons (.var 0) (.cons (.var 4) .nil)))) (stD x (R++[cur]) ins (pre++[91]).length (.fz (.str [91])) s6 s7)=some (.next,stD x (R++[cur]) ins ((pre++[91]).length+((Zd3 bar).length+((us.flatMap (·.2)).length+1))) (.fz (.str [91])) (.fz (ZaV (bar,us.map (·.1)))) (.fz (.bool false))):=by
   exact Zl7 ec rfl
  have e:pre.length+(91::(Zd3 bar++(us.flatMap (·.2)++[93]))).length=(pre++[91]).length+((Zd3 bar).length+((us.flatMap (·.2)).length+1)):=by
   simp only[List.length_cons,List.length_append,List.length_nil];lia
  refine⟨.fz (.str [91]),.fz (ZaV (bar,us.map (·.1))),.fz (.bool false),Zeq hb1 hl ?_⟩
  show _=some (Fl.next,stD x (R++[cur++[(bar,us.map (·.1))]]) ins (pre.length+(91::(Zd3 bar++(us.flatMap (·.2)++[93]))).length) (.fz (.str [91])) (.fz (ZaV (bar,us.map (·.1)))) (.fz (.bool false)))
  erw[rwl (e ..) ?_]
  have g2:ex ΓB fuel (.asg 2 (.band (.cons (.var 2) (.cons (.not (.var 7)) .nil)))) (stD x (R++[cur++[(bar,us.map (·.1))]]) ins ((pre++[91]).length+((Zd3 bar).length+((us.flatMap (·.2)).length+1))) (.fz (.str [91])) (.fz (ZaV (bar,us.map (·.1)))) (.fz (.bool false)))=some (.next,stD x (R++[cur++[(bar,us.map (·.1))]]) ins ((pre++[91]).length+((Zd3 bar).length+((us.flatMap (·.2)).length+1))) (.fz (.str [91])) (.fz (ZaV (bar,us.map (·.1)))) (.fz (.bool false))):=rfl
  refine c_f (Zaw (ZaH (by decide) rfl rfl)) ?_
  refine c_f (Zaw (ZaH (by decide) rfl rfl)) ?_
  refine c_f (Zaw (ZaH (by decide) rfl rfl)) ?_
  refine c_f (Zaw (ZaH (by decide) rfl rfl)) ?_
  refine c_f (ZaH (by decide) rfl rfl) ?_
  refine c_t (ZbV rfl rfl rfl) ?_
  exact Zaa g1 (Zaa (Zg4 (it:=(bar,us.map (·.1))) rfl hR hc) (Zaf g2))
end
end
section
noncomputable abbrev IT:=Item×List Nat
theorem Zlw{u:IT}(h:ItT u):∃z t,u.2=z::t∧z≠42:=by
 cases h with
 | any=>exact⟨_,_,rfl,by decide⟩
 | none=>exact⟨_,_,rfl,by decide⟩
 | esc=>exact⟨_,_,rfl,by decide⟩
 | lit h=>exact⟨_,_,rfl,λq=>h (by erw[rwl (q ..) ?_];decide)⟩
 | set=>exact⟨_,_,rfl,by decide⟩
section
variable {x:List Nat}{ins:Bool}{P:Option (Fl×Sg)->Prop}
theorem Zjb(hl:x.length<=100000):∀(run:List IT) (pre post:List Nat) (z:Nat) (R:List (List Item)) (cur:List Item) (s5 s6 s7:Slot),(∀u∈run,ItT u)->z≠42->2<=post.length->x=pre++(run.flatMap (·.2)++z::post)->R.length<=100000->cur.length+run.length<=100000->
  (∀t5 t6 t7,Go (z::post).length (stD x (R++[cur++run.map (·.1)]) ins (pre++run.flatMap (·.2)).length t5 t6 t7) P)->Go (run.flatMap (·.2)++z::post).length (stD x (R++[cur]) ins pre.length s5 s6 s7) P
 | [],pre,post,z,R,cur,s5,s6,s7,_,_,_,_,_,_,k=>by
  have:=k s5 s6 s7
  simpa using this
 | u::run,pre,post,z,R,cur,s5,s6,s7,hI,hz,hp,hb,hR,hc,k=>by
  simp at hc
  obtain⟨w,t,hw,hw42⟩:=Zlw (hI u List.mem_cons_self)
  obtain⟨y,r',hy,hy42⟩:∃y r',run.flatMap (·.2)++z::post=y::r'∧y≠42:=by
   cases run with
   | nil=>exact⟨z,post,rfl,hz⟩
   | cons v run=>
    obtain⟨a,b,hab,ha⟩:=Zlw (hI v (by simp))
    exact⟨a,b++(run.flatMap (·.2)++z::post),by erw[rwl (List.flatMap_cons ..) (rwl (hab ..) ?_)];simp,ha⟩
  have hb1:x=pre++(u.2++(run.flatMap (·.2)++z::post)):=by erw[rwl (hb ..) ?_];simp
  obtain⟨t5,t6,t7,hs⟩:=Zp3 (x:=x) (R:=R) (cur:=cur) (ins:=ins) (s5:=s5) (s6:=s6) (s7:=s7) (hI u List.mem_cons_self) hy42 (by erw[rwl (hb1 ..) (rwl (hy ..) ?_)]) hl hR (by lia)
  have hlen:x.length=pre.length+(u.2.length+((run.flatMap (·.2)).length+(post.length+1))):=by erw[rwl (hb1 ..) ?_];simp
  have hul:u.2.length=t.length+1:=by erw[rwl (hw ..) ?_];rfl
  have go:tv ΓB (stD x (R++[cur]) ins pre.length s5 s6 s7) Zez=some true:=Zkz.trans (by rw[decide_eq_true (by lia)])
  have ih:=Zjb hl run (pre++u.2) post z R (cur++[u.1]) t5 t6 t7 (λv hv=>hI v (List.mem_cons_of_mem _ hv)) hz hp (by erw[rwl (hb1 ..) ?_];simp) hR (by simp;lia) (λa b c=>by
   have:=k a b c
   simpa using this)
  rw[show(pre++u.2).length=pre.length+u.2.length from List.length_append] at ih
  refine ZgF go hs ih ?_
  erw[rwl (List.flatMap_cons ..) ?_]
  simp only[List.length_append,List.length_cons]
  lia
noncomputable def mids(rest:List (List IT)):List Nat:=ZfY (ZbY rest)++[41,92,90]
theorem ZjM(y:List IT):mids [y]=46::42::(y.flatMap (λu:IT=>u.2)++[41,92,90]):=by
 unfold mids ZbY
 erw[rwl (List.flatMap_def ..) ?_]
 simp[ZjL,ZjP,ZjQ]
theorem Zi1(y z:List IT)(t:List (List IT)):mids (y::z::t)=40::63::62::46::42::63::(y.flatMap (λu:IT=>u.2)++41::mids (z::t)):=by
 unfold mids ZbY
 erw[rwl (List.flatMap_def ..) ?_]
 simp[ZjL,ZjP,ZjQ]
theorem ZhY(z:List IT)(t:List (List IT)):(∃r,mids (z::t)=46::42::r)∨(∃r,mids (z::t)=40::63::62::r):=by
 cases t with
 | nil=>exact .inl ⟨_,ZjM z⟩
 | cons y t=>exact .inr ⟨_,Zi1 z y t⟩
theorem ZjE:∀rest:List (List IT),3<=(mids rest).length
 | rest=>by unfold mids;simp
noncomputable def ZnM(R:List (List IT)):List (List Item):=R.map (·.map (·.1))
noncomputable def Done(x:List Nat)(R:List (List Item))(o:Option (Fl×Sg)):Prop:=∃t5 t6 t7,o=some (.next,stD x R false (x.length - 3) t5 t6 t7)
theorem ZoK(hl:x.length<=100000):∀(rest:List (List IT)) (pre:List Nat) (R:List (List Item)) (s5 s6 s7:Slot),(∀y∈rest,∀u∈y,ItT u)->(∀y∈rest,y.length<=10000)->x=pre++mids rest->R.length+rest.length<=10000->
  Go (mids rest).length (stD x R false pre.length s5 s6 s7) (Done x (R++ZnM rest))
 | [],pre,R,s5,s6,s7,_,_,hb,_=>by
  have hlen:x.length=pre.length+3:=by erw[rwl (hb ..) (rwl (List.length_append ..) ?_)];rfl
  refine ZoV (Zkz.trans (by rw[decide_eq_false (by lia)])) ⟨s5,s6,s7,?_⟩
  erw[rwl (hlen ..) ?_]
  simp[ZnM]
 | [y],pre,R,s5,s6,s7,hI,hL,hb,hR=>by
  rw[ZjM] at hb ⊢
  simp at hR
  have hb2:x=(pre++[46])++42::(y.flatMap (λu:IT=>u.2)++[41,92,90]):=by erw[rwl (hb ..) ?_];simp
  have hb3:x=(pre++[46,42])++(y.flatMap (λu:IT=>u.2)++[41,92,90]):=by erw[rwl (hb ..) ?_];simp
  have hlen:x.length=pre.length+(2+((y.flatMap (λu:IT=>u.2)).length+3)):=by erw[rwl (hb ..) ?_];simp;lia
  have go:tv ΓB (stD x R false pre.length s5 s6 s7) Zez=some true:=Zkz.trans (by rw[decide_eq_true (by lia)])
  have e:(pre++[46,42]).length=(pre++[46]).length+1:=by simp
  have hs:ex ΓB fuel Zeu (stD x R false pre.length s5 s6 s7)=some (.next,stD x (R++[[]]) false (pre++[46,42]).length (.fz (.str [46])) s6 s7):=by
   refine Zeq hb hl ?_
   erw[rwl (e ..) ?_]
   refine c_f (Zaw (ZaH (by decide) rfl rfl)) ?_
   refine c_f (Zaw (ZaH (by decide) rfl rfl)) ?_
   refine c_t (ZaL (ZbV rfl rfl rfl) (ZaL (ZbV rfl (Zom hb2 hl) rfl) (ZaL (Zfj (b:=false) (ZcA rfl rfl)) rfl))) ?_
   exact Zaa (ZoQ (by lia)) (Zaf (ZcT (p:=.int ((pre++[46]).length:Int)) (q:=.int 1) rfl rfl rfl))
  have hy:=hL y (by simp)
  refine ZgF go hs (Zjb hl y (pre++[46,42]) [92,90] 41 R [] _ _ _ (hI y (by simp)) (by decide) (by decide) hb3 (by lia) (by simp;lia) λt5 t6 t7=>?_) (by simp)
  refine ZoV (Zkz.trans ?_) ⟨t5,t6,t7,?_⟩
  ·rw[decide_eq_false (by simp only[List.length_append,List.length_cons,List.length_nil];lia)]
  ·have e2:(pre++[46,42]++y.flatMap (λu:IT=>u.2)).length=x.length - 3:=by simp only[List.length_append,List.length_cons,List.length_nil];lia
   erw[rwl (e2 ..) ?_]
   rfl
 | y::w::t,pre,R,s5,s6,s7,hI,hL,hb,hR=>by
  rw[Zi1] at hb ⊢
  simp at hR
  have h3:=ZjE (w::t)
  have hb2:x=(pre++[40])++63::62::46::42::63::(y.flatMap (λu:IT=>u.2)++41::mids (w::t)):=by erw[rwl (hb ..) ?_];simp
  have hb3:x=(pre++[40,63,62,46,42,63])++(y.flatMap (λu:IT=>u.2)++41::mids (w::t)):=by erw[rwl (hb ..) ?_];simp
  have hb4:x=((pre++[40,63,62,46,42,63])++y.flatMap (λu:IT=>u.2))++41::mids (w::t):=by erw[rwl (hb ..) ?_];simp
  have hb5:x=((pre++[40,63,62,46,42,63])++y.flatMap (λu:IT=>u.2)++[41])++mids (w::t):=by erw[rwl (hb ..) ?_];simp
  have hlen:x.length=pre.length+(6+((y.flatMap (λu:IT=>u.2)).length+(1+(mids (w::t)).length))):=by erw[rwl (hb ..) ?_];simp;lia
  have go:tv ΓB (stD x R false pre.length s5 s6 s7) Zez=some true:=Zkz.trans (by rw[decide_eq_true (by lia)])
  have e:(pre++[40,63,62,46,42,63]).length=(pre++[40]).length+5:=by simp
  have hs:ex ΓB fuel Zeu (stD x R false pre.length s5 s6 s7)=some (.next,stD x (R++[[]]) true (pre++[40,63,62,46,42,63]).length (.fz (.str [40])) s6 s7):=by
   refine Zeq hb hl ?_
   erw[rwl (e ..) ?_]
   have t1:tv ΓB (stD x R false (pre++[40]).length (.fz (.str [40])) s6 s7) (.tcmp .eq (.slc (.var 0) (.var 4) (.bin .add (.var 4) (.const (.int 5)))) (.const (.str [63,62,46,42,63])))=some true:=Zaj (Zml (n:=5) hb2) rfl rfl
   refine c_t (ZaL (ZbV rfl rfl rfl) (ZaL t1 (ZaL (Zfj (b:=false) (ZcA rfl rfl)) rfl))) ?_
   exact Zaa (ZoQ (by lia)) (Zaa (σ':=stD x (R++[[]]) true (pre++[40]).length (.fz (.str [40])) s6 s7) (Zav (d:=.bool true) rfl) (Zaf (ZcT (p:=.int ((pre++[40]).length:Int)) (q:=.int 5) rfl rfl rfl)))
  have hy:=hL y (by simp)
  refine ZgF go hs (Zjb hl y (pre++[40,63,62,46,42,63]) (mids (w::t)) 41 R [] _ _ _ (hI y (by simp)) (by decide) (by lia) hb3 (by lia) (by simp;lia) λt5 t6 t7=>?_) (by simp;lia)
  have go2:tv ΓB (stD x (R++[[]++y.map (·.1)]) true ((pre++[40,63,62,46,42,63])++y.flatMap (λu:IT=>u.2)).length t5 t6 t7) Zez=some true:=Zkz.trans (by rw[decide_eq_true (by simp only[List.length_append,List.length_cons,List.length_nil];lia)])
  have hs2:ex ΓB fuel Zeu (stD x (R++[[]++y.map (·.1)]) true ((pre++[40,63,62,46,42,63])++y.flatMap (λu:IT=>u.2)).length t5 t6 t7)=some (.next,stD x (R++[[]++y.map (·.1)]) false ((pre++[40,63,62,46,42,63])++y.flatMap (λu:IT=>u.2)++[41]).length (.fz (.str [41])) t6 t7):=by
   refine Zeq hb4 hl ?_
   have a2:=Zml (R:=R++[[]++y.map (·.1)]) (ins:=true) (s5:=.fz (.str [41])) (s6:=t6) (s7:=t7) (n:=2) hb5
   have a3:=Zml (R:=R++[[]++y.map (·.1)]) (ins:=true) (s5:=.fz (.str [41])) (s6:=t6) (s7:=t7) (n:=3) hb5
   refine c_f (Zaw (ZaH (by decide) rfl rfl)) ?_
   refine c_t (ZaL (ZbV rfl rfl rfl) (ZaL (ZcA (d:=.bool true) rfl rfl) (ZaL ?_ rfl))) (Zaf (Zav (d:=.bool false) rfl))
   rcases ZhY w t with⟨r,hr⟩ | ⟨r,hr⟩
   ·rw[hr] at a2
    exact ZeF (Zaj a2 (q:=.str [46,42]) rfl rfl)
   ·rw[hr] at a2 a3
    exact Zjf (Zaj a2 (q:=.str [46,42]) rfl (by
     show some (_==_)=_
     rw[beq_eq_false_iff_ne.mpr (by simp)])) (ZeF (Zaj a3 (q:=.str [40,63,62]) rfl rfl))
  have ih:=ZoK hl (w::t) ((pre++[40,63,62,46,42,63])++y.flatMap (λu:IT=>u.2)++[41]) (R++[[]++y.map (·.1)]) (.fz (.str [41])) t6 t7 (λv hv=>hI v (by simp at hv ⊢;exact .inr hv)) (λv hv=>hL v (by simp at hv ⊢;exact .inr hv)) hb5 (by simp;lia)
  have ef:R++[[]++y.map (·.1)]++ZnM (w::t)=R++ZnM (y::w::t):=by simp[ZnM]
  rw[ef] at ih
  exact ZgF go2 hs2 ih (by simp)
end
theorem Zj2{α:Type}(l r:List α)(n:Nat)(h:r.length=n)(hn:0 < n):slice (l++r) (some (-(n:Int))) none=r:=by
 unfold slice
 simp only[Option.map_some,Option.map_none,Option.getD_none,Option.getD_some]
 have e:Zdy (l++r).length (-(n:Int))=l.length:=by
  exact(ZgE _ n hn).trans (by erw[rwl (List.length_append ..) (rwl (h ..) (rwl (Nat.add_sub_cancel ..) ?_))])
 erw[rwl (e ..) (rwl (List.take_length ..) (rwl (List.drop_left ..) ?_))]
theorem Zos{y:List IT}{t:List (List IT)}(hI:∀r∈y::t,∀u∈r,ItT u)(hL:∀r∈y::t,r.length<=900)(hT:t.length<=900)(hx:(ZdY (ZbY (y::t))).length<=900) :
  Zmd [.str (ZdY (ZbY (y::t)))]=some (.list ((ZnM (y::t)).map Zhk)):=by
 have ex0:ZdY (ZbY (y::t))=[40,63,115,58]++(y.flatMap (λu:IT=>u.2)++mids t):=by
  unfold mids
  erw[rwl (List.flatMap_def ..) ?_]
  simp[ZdY,ZbY]
 have ex1:ZdY (ZbY (y::t))=([40,63,115,58]++(y.flatMap (λu:IT=>u.2)++ZfY (ZbY t)))++[41,92,90]:=by
  erw[rwl (ex0 ..) ?_];unfold mids;simp
 generalize ZdY (ZbY (y::t))=x at *
 have h3:=ZjE t
 obtain⟨z,post,hz,hz42⟩:∃z post,mids t=z::post∧z≠42:=by
  cases t with
  | nil=>exact⟨41,[92,90],rfl,by decide⟩
  | cons w t=>
   rcases ZhY w t with⟨r,hr⟩ | ⟨r,hr⟩
   ·exact⟨_,_,hr,by decide⟩
   ·exact⟨_,_,hr,by decide⟩
 have hpl:(mids t).length=post.length+1:=by erw[rwl (hz ..) ?_];rfl
 have hgo:Go (y.flatMap (λu:IT=>u.2)++z::post).length (stD x ([]++[[]]) false ([40,63,115,58]:List Nat).length .un .un .un) (Done x (ZnM (y::t))):=by
  refine Zjb (by lia) y [40,63,115,58] post z [] [] .un .un .un (hI y (by simp)) hz42 (by lia) (by erw[rwl (ex0 ..) (rwl (hz ..) ?_)]) (by simp) (by have:=hL y (by simp);simp;lia) λt5 t6 t7=>?_
  have hm:=ZoK (x:=x) (by lia) t ([40,63,115,58]++y.flatMap (λu:IT=>u.2)) [[]++y.map (·.1)] t5 t6 t7 (λr hr=>hI r (List.mem_cons_of_mem _ hr)) (λr hr=>by have:=hL r (List.mem_cons_of_mem _ hr);lia) (by erw[rwl (ex0 ..) ?_];simp) (by simp;lia)
  rw[hz] at hm
  exact hm
 have hlen:(y.flatMap (λu:IT=>u.2)++z::post).length < fuel:=by
  have:x.length=4+(y.flatMap (λu:IT=>u.2)++z::post).length:=by erw[rwl (ex0 ..) (rwl (hz ..) ?_)];simp;lia
  simp only[fuel];lia
 obtain⟨t5,t6,t7,hloop⟩:=hgo fuel hlen
 refine Zbb rfl ⟨_,Zaa (σ':=[.fz (.str x),.own2 [[]],.un,.un,.un,.un,.un,.un]) rfl (Zaa (σ':=[.fz (.str x),.own2 [[]],.fz (.bool true),.un,.un,.un,.un,.un]) ?_ (Zaa (σ':=[.fz (.str x),.own2 [[]],.fz (.bool true),.fz (.bool false),.un,.un,.un,.un]) rfl (Zaa (σ':=stD x [[]] false 4 .un .un .un) rfl (Zaa hloop (Za7 (ZbB ?_))))))⟩
 ·refine Zav (ZhU (p:=.str [40,63,115,58,41,92,90]) (q:=.str [40,63,115,58,41,92,90]) (ZaF (p:=.str [40,63,115,58]) (q:=.str [41,92,90]) (Zcu (p:=.str x) (q:=.none) (r:=.int 4) rfl rfl rfl ?_) (Zcu (p:=.str x) (q:=.int (-3)) (r:=.none) rfl rfl rfl ?_) rfl) rfl rfl)
  ·show some (D.str (slice x none (some ((4:Nat):Int))))=_
   erw[rwl (ZdZ ..) (rwl (ex0 ..) ?_)];rfl
  ·show some (D.str (slice x (some (-((3:Nat):Int))) none))=_
   rw[ex1,Zj2 _ _ 3 rfl (by decide)]
 ·refine Zfo (ZaL (ZcA (d:=.bool true) rfl rfl) (ZaL (Zfj (b:=false) (ZcA rfl rfl)) rfl)) ?_
  show some (D.list ((Zg6 (ZnM (y::t))).map .list))=_
  unfold Zg6
  erw[rwl (List.map_map ..) ?_]
  rfl
end
section
section
variable (name:List Nat)
noncomputable def mtN:List (Option Item)->Nat->Prop
 | [],i=>i=name.length
 | some it::l,i=>i < name.length∧Zgy it (name.getD i 0)=true∧mtN l (i+1)
 | none::l,i=>∃j,i<=j∧j<=name.length∧mtN l j
noncomputable def Zqw(run:List Item)(p:Nat):Prop:=p+run.length<=name.length∧∀i,i < run.length->Zgy (run.getD i (false,[])) (name.getD (p+i) 0)=true
theorem Zun:∀{l:List (Option Item)} {i:Nat},mtN name l i->i<=name.length
 | [],_,h=>Nat.le_of_eq h
 | some _::_,_,h=>Nat.le_of_lt h.1
 | none::_,_,⟨_,h1,h2,_⟩=>Nat.le_trans h1 h2
theorem Zqy{l:List (Option Item)}{i j:Nat}(h:i<=j)(m:mtN name (none::l) j):mtN name (none::l) i:=by
 obtain⟨k,h1,h2,h3⟩:=m
 exact⟨k,Nat.le_trans h h1,h2,h3⟩
theorem Zjv:∀(run:List Item) (l:List (Option Item)) (p:Nat),mtN name (run.map some++l) p↔Zqw name run p∧mtN name l (p+run.length)
 | [],l,p=>by
  constructor
  ·intro h
   exact⟨⟨Zun name (l:=l) h,λi hi=>by simp at hi⟩,h⟩
  ·intro h;exact h.2
 | it::run,l,p=>by
  have ih:=Zjv run l (p+1)
  show(p < name.length∧Zgy it (name.getD p 0)=true∧mtN name (run.map some++l) (p+1))↔_
  rw[ih]
  have e:p+1+run.length=p+(it::run).length:=by simp;lia
  rw[e]
  constructor
  ·rintro⟨h1,h2,⟨h3,h4⟩,h5⟩
   refine⟨⟨by lia,λi hi=>?_⟩,h5⟩
   cases i with
   | zero=>exact h2
   | succ i=>
    have:=h4 i (by simpa using hi)
    rw[show p+(i+1)=p+1+i by lia]
    exact this
  ·rintro⟨⟨h1,h2⟩,h3⟩
   simp at h1
   refine⟨by lia,h2 0 (by simp),⟨by lia,λi hi=>?_⟩,h3⟩
   have:=h2 (i+1) (by simpa using hi)
   rw[show p+(i+1)=p+1+i by lia] at this
   exact this
noncomputable def tlU:List (List Item)->List (Option Item)
 | []=>[]
 | y::t=>none::Zal (y::t)
theorem Zed(y:List Item)(t:List (List Item)):Zal (y::t)=y.map some++tlU t:=by
 cases t with
 | nil=>simp[Zu9,Zvq,tlU]
 | cons z t=>rfl
theorem Zdu{first last:Bool}{run:List Item}{i p:Nat}:p∈Zas first last run name i↔i<=p∧Zqw name run p∧(first=true->p=0)∧(last=true->p+run.length=name.length):=by
 unfold Zas
 rw[List.mem_filter,List.mem_range'_1]
 unfold Zoc Zqw
 simp only[Bool.and_eq_true,Bool.or_eq_true,Bool.not_eq_true',beq_iff_eq,List.all_eq_true,List.mem_range]
 constructor
 ·rintro⟨⟨h1,h2⟩,⟨h3,h4⟩,h5⟩
  refine⟨h1,⟨(ZqA h1).mp h2,h5⟩,λq=>?_,λq=>?_⟩
  ·rcases h3 with h3 | h3
   ·rw[q] at h3;cases h3
   ·exact h3
  ·rcases h4 with h4 | h4
   ·rw[q] at h4;cases h4
   ·exact h4
 ·rintro⟨h1,⟨h2,h3⟩,h4,h5⟩
  refine⟨⟨h1,(ZqA h1).mpr h2⟩,⟨?_,?_⟩,h3⟩
  ·cases first with
   | false=>exact .inl rfl
   | true=>exact .inr (h4 rfl)
  ·cases last with
   | false=>exact .inl rfl
   | true=>exact .inr (h5 rfl)
theorem Zlm{first last:Bool}{run:List Item}{i p:Nat}{r:List Nat}(h:Zas first last run name i=p::r):∀j∈Zas first last run name i,p<=j:=by
 have hp:(Zas first last run name i).Pairwise (· < ·):=by
  unfold Zas
  exact List.Pairwise.filter _ List.pairwise_lt_range'
 rw[h] at hp ⊢
 intro j hj
 rcases List.mem_cons.mp hj with rfl | hj
 ·exact Nat.le_refl _
 ·exact Nat.le_of_lt ((List.pairwise_cons.mp hp).1 j hj)
theorem Zow:∀(rest:List (List Item)) (run:List Item) (i:Nat),Zb5 name false (run::rest) i=true↔mtN name (none::Zal (run::rest)) i:=by
 intro rest
 induction rest with
 | nil=>
  intro run i
  rw[ZqO,Zed]
  show _↔∃j,i<=j∧j<=name.length∧mtN name (run.map some++tlU []) j
  simp only[Zjv]
  cases hF:Zas false ([]:List (List Item)).isEmpty run name i with
  | nil=>
   constructor
   ·intro h;cases h
   ·rintro⟨j,h1,h2,h3,h4⟩
    have:j∈Zas false ([]:List (List Item)).isEmpty run name i:=(Zdu name).mpr ⟨h1,h3,nofun,λ_=>h4⟩
    rw[hF] at this;cases this
  | cons p r=>
   have hp:p∈Zas false ([]:List (List Item)).isEmpty run name i:=by rw[hF];exact List.mem_cons_self
   obtain⟨h1,h2,_,h4⟩:=(Zdu name).mp hp
   constructor
   ·intro _
    exact⟨p,h1,by have:=h2.1;lia,h2,h4 rfl⟩
   ·intro _;simp[Zuc,ZqO]
 | cons y t ih=>
  intro run i
  rw[ZqO,Zed]
  show _↔∃j,i<=j∧j<=name.length∧mtN name (run.map some++tlU (y::t)) j
  simp only[Zjv]
  cases hF:Zas false (y::t).isEmpty run name i with
  | nil=>
   constructor
   ·intro h;cases h
   ·rintro⟨j,h1,h2,h3,h4⟩
    have:j∈Zas false (y::t).isEmpty run name i:=(Zdu name).mpr ⟨h1,h3,nofun,nofun⟩
    rw[hF] at this;cases this
  | cons p r=>
   have hp:p∈Zas false (y::t).isEmpty run name i:=by rw[hF];exact List.mem_cons_self
   obtain⟨h1,h2,_,_⟩:=(Zdu name).mp hp
   show Zb5 name false (y::t) (p+run.length)=true↔_
   rw[ih]
   constructor
   ·intro h
    exact⟨p,h1,by have:=h2.1;lia,h2,h⟩
   ·rintro⟨j,j1,j2,j3,j4⟩
    have hj:j∈Zas false (y::t).isEmpty run name i:=(Zdu name).mpr ⟨j1,j3,nofun,nofun⟩
    have hle:=Zlm name hF j hj
    exact Zqy name (show p+run.length<=j+run.length by lia) j4
theorem Zlu(rest:List (List Item))(run:List Item):Zb5 name true (run::rest) 0=true↔mtN name (Zal (run::rest)) 0:=by
 rw[ZqO,Zed,Zjv]
 cases hF:Zas true rest.isEmpty run name 0 with
 | nil=>
  constructor
  ·intro h;cases h
  ·rintro⟨h3,h4⟩
   have:0∈Zas true rest.isEmpty run name 0:=(Zdu name).mpr ⟨Nat.le_refl _,h3,λ_=>rfl,λq=>by
    have:rest=[]:=List.isEmpty_iff.mp q
    subst this
    exact h4⟩
   rw[hF] at this;cases this
 | cons p r=>
  have hp:p∈Zas true rest.isEmpty run name 0:=by rw[hF];exact List.mem_cons_self
  obtain⟨_,h2,h3,h4⟩:=(Zdu name).mp hp
  have hp0:=h3 rfl
  subst hp0
  show Zb5 name false rest (0+run.length)=true↔_
  cases rest with
  | nil=>
   constructor
   ·intro _;exact⟨h2,h4 rfl⟩
   ·intro _;simp[Zuc,ZqO]
  | cons y t=>
   rw[Zow]
   exact⟨λh=>⟨h2,h⟩,λh=>h.2⟩
theorem ZeT:∀(l:List (Option Item)) (i:Nat),mtN name l i↔mtN name (Zal (Zaq l)) i
 | [],i=>Iff.rfl
 | some x::l,i=>by
  obtain⟨y,t,e,_⟩:=ZaX l
  rw[Zm3,e]
  show _↔mtN name (Zal ((x::y)::t)) i
  rw[ZcL]
  have ih:=ZeT l (i+1)
  rw[e] at ih
  show(_∧_∧_)↔(_∧_∧_)
  rw[ih]
 | none::[],i=>Iff.rfl
 | none::none::l,i=>by
  have ih:=ZeT (none::l) i
  show _↔mtN name (Zal (Zaq (none::l))) i
  rw[←ih]
  constructor
  ·rintro⟨j,h1,_,k,h3,h4,h5⟩
   exact⟨k,by lia,h4,h5⟩
  ·rintro⟨j,h1,h2,h3⟩
   exact⟨i,Nat.le_refl _,by lia,j,h1,h2,h3⟩
 | none::some x::l,i=>by
  rw[ZbS]
  obtain⟨y,t,e,_⟩:=ZaX (some x::l)
  have ih:=ZeT (some x::l)
  rw[e] at ih ⊢
  rw[Zhq]
  constructor
  ·rintro⟨j,h1,h2,h3⟩
   exact⟨j,h1,h2,(ih j).mp h3⟩
  ·rintro⟨j,h1,h2,h3⟩
   exact⟨j,h1,h2,(ih j).mpr h3⟩
theorem Zie:∀(its:List (Option Item)) (h:List Bool),h.length=name.length+1->((its.foldl (ZcB name) h).getLastD false=true↔∃k,k<=name.length∧h.getD k false=true∧mtN name its k)
 | [],h,hh=>by
  show h.getLastD false=true↔∃k,k<=name.length∧h.getD k false=true∧k=name.length
  have e:h.getLastD false=h.getD name.length false:=by
   rw[List.getLastD_eq_getLast?,List.getLast?_eq_getElem?,List.getD_eq_getElem?_getD,hh]
   rfl
  rw[e]
  exact⟨λq=>⟨_,Nat.le_refl _,q,rfl⟩,λ⟨k,_,q,e⟩=>e▸q⟩
 | none::its,h,hh=>by
  show(its.foldl (ZcB name) (ZcB name h none)).getLastD false=true↔_
  rw[Zie its _ (ZdQ name h none hh)]
  have e:∀k,k<=name.length->((ZcB name h none).getD k false=true↔∃j,j<=k∧h.getD j false=true):=by
   intro k hk
   have e1:(ZcB name h none).getD k false=(h.take (k+1)).contains true:=by
    unfold ZcB
    rw[List.getD_eq_getElem?_getD,List.getElem?_map,List.getElem?_range (by lia)]
    rfl
   rw[e1,List.contains_iff_mem]
   constructor
   ·intro q
    obtain⟨j,hj⟩:=List.getElem?_of_mem q
    rw[List.getElem?_take] at hj
    split at hj
    ·exact⟨j,by lia,by rw[List.getD_eq_getElem?_getD,hj];rfl⟩
    ·cases hj
   ·rintro⟨j,hj,q⟩
    rw[List.getD_eq_getElem?_getD,List.getElem?_eq_getElem (by lia)] at q
    have q:h[j]'(by lia)=true:=q
    exact List.mem_of_getElem? (i:=j) (by rw[List.getElem?_take,if_pos (by lia),List.getElem?_eq_getElem (by lia),q])
  constructor
  ·rintro⟨k,h1,h2,h3⟩
   obtain⟨j,hj,q⟩:=(e k h1).mp h2
   exact⟨j,by lia,q,k,hj,h1,h3⟩
  ·rintro⟨j,h1,h2,k,h3,h4,h5⟩
   exact⟨k,h4,(e k h4).mpr ⟨j,h3,h2⟩,h5⟩
 | some it::its,h,hh=>by
  show(its.foldl (ZcB name) (ZcB name h (some it))).getLastD false=true↔_
  rw[Zie its _ (ZdQ name h (some it) hh)]
  have e:∀k,k < name.length->(ZcB name h (some it)).getD (k+1) false=(h.getD k false&&Zgy it (name.getD k 0)):=by
   intro k hk
   unfold ZcB
   rw[List.getD_cons_succ,List.getD_eq_getElem?_getD,List.getElem?_map,List.getElem?_range hk]
   rfl
  constructor
  ·rintro⟨k,h1,h2,h3⟩
   cases k with
   | zero=>cases h2
   | succ k=>
    rw[e k (by lia),Bool.and_eq_true] at h2
    exact⟨k,by lia,h2.1,by lia,h2.2,h3⟩
  ·rintro⟨k,h1,h2,h3,h4,h5⟩
   exact⟨k+1,by lia,by rw[e k h3,h2,h4];rfl,h5⟩
theorem Znz(its:List (Option Item)):Zen its name=true↔mtN name its 0:=by
 unfold Zen
 rw[Zie name its _ (by simp)]
 constructor
 ·rintro⟨k,h1,h2,h3⟩
  cases k with
  | zero=>exact h3
  | succ k=>
   rw[List.getD_cons_succ,List.getD_eq_getElem?_getD,List.getElem?_replicate] at h2
   split at h2<;>cases h2
 ·intro h
  exact⟨0,Nat.zero_le _,rfl,h⟩
theorem greedy(its:List (Option Item)):Zb5 name true (Zaq its) 0=Zen its name:=by
 rw[Bool.eq_iff_iff,Znz,ZeT]
 obtain⟨y,t,e,_⟩:=ZaX its
 rw[e]
 exact Zlu name t y
end
theorem Zc4{α β:Type}(f:α->β):∀l:List (Option α),Zaq (l.map (·.map f))=(Zaq l).map (·.map f)
 | []=>rfl
 | some x::l=>by
  obtain⟨y,t,e,_⟩:=ZaX l
  have ih:=Zc4 f l
  rw[e] at ih
  show Zaq (some (f x)::l.map (·.map f))=_
  erw[rwl (Zm3 ..) (rwl (ih ..) (rwl (Zm3 ..) (rwl (e ..) ?_)))]
  rfl
 | none::[]=>rfl
 | none::none::l=>Zc4 f (none::l)
 | none::some x::l=>by
  show Zaq (none::some (f x)::l.map (·.map f))=_
  erw[rwl (ZbS ..) (rwl (ZbS ..) (rwl (List.map_cons ..) ?_))]
  have ih:=Zc4 f (some x::l)
  erw[rwr (ih ..) ?_]
  rfl
theorem ZcM{α:Type}:∀(l:List (Option α)),∀r∈Zaq l,∀x∈r,some x∈l
 | [],r,hr,x,hx=>by
  have hr:r∈[([]:List α)]:=hr
  simp at hr;subst hr;cases hx
 | some a::l,r,hr,x,hx=>by
  obtain⟨y,t,e,_⟩:=ZaX l
  have ih:=ZcM l
  rw[Zm3,e] at hr
  rw[e] at ih
  rcases List.mem_cons.mp hr with rfl | hr
  ·rcases List.mem_cons.mp hx with rfl | hx
   ·simp
   ·exact List.mem_cons_of_mem _ (ih y (by simp) x hx)
  ·exact List.mem_cons_of_mem _ (ih r (by simp[hr]) x hx)
 | none::[],r,hr,x,hx=>by
  have hr:r∈[([]:List α),[]]:=hr
  simp at hr;subst hr;cases hx
 | none::none::l,r,hr,x,hx=>List.mem_cons_of_mem _ (ZcM (none::l) r hr x hx)
 | none::some a::l,r,hr,x,hx=>by
  rw[ZbS] at hr
  rcases List.mem_cons.mp hr with rfl | hr
  ·cases hx
  ·exact List.mem_cons_of_mem _ (ZcM (some a::l) r hr x hx)
theorem split_len{α:Type}:∀(l:List (Option α)),(Zaq l).length<=l.length+1∧∀r∈Zaq l,r.length<=l.length
 | []=>by
  show [([]:List α)].length<=_∧∀r∈[([]:List α)],_
  simp
 | some a::l=>by
  obtain⟨y,t,e,_⟩:=ZaX l
  have ih:=split_len l
  erw[rwl (Zm3 ..) (rwl (e ..) ?_)]
  rw[e] at ih
  refine⟨by simpa using Nat.le_succ_of_le ih.1,λr hr=>?_⟩
  rcases List.mem_cons.mp hr with rfl | hr
  ·have:=ih.2 y (by simp)
   simpa using this
  ·have:=ih.2 r (by simp[hr])
   simp;omega
 | none::[]=>by
  show [([]:List α),[]].length<=_∧∀r∈[([]:List α),[]],_
  simp
 | none::none::l=>by
  have ih:=split_len (none::l)
  refine⟨Nat.le_succ_of_le ih.1,λr hr=>Nat.le_succ_of_le (ih.2 r hr)⟩
 | none::some a::l=>by
  have ih:=split_len (some a::l)
  erw[rwl (ZbS ..) ?_]
  refine⟨by have:=ih.1;simp at this ⊢;omega,λr hr=>?_⟩
  rcases List.mem_cons.mp hr with rfl | hr
  ·simp
  ·exact Nat.le_succ_of_le (ih.2 r hr)
end
section
set_option backward.match.sparseCases false
theorem Zn4(p:List Nat):ZnM (Zaq (ipL p))=Zaq (Zar p):=by
 erw[rwl (ZjJ ..) ?_]
 exact(Zc4 (·.1) (ipL p)).symm
theorem ZjH(p:List Nat):p.length<=800->∀it,some it∈Zar p->Zh3 it:=by
 refine ZgD (P:=λp=>p.length<=800->∀x,some x∈Zar p->Zh3 x) (λ_ x hx=>absurd hx List.not_mem_nil) (λr ih hl x hx=>?_) (λr ih hl x hx=>?_) (λr k hk ih hl x hx=>?_) (λc r h1 h2 h3 ih hl x hx=>?_) p.length p (Nat.le_refl _)
 ·exact(List.mem_cons.mp (show some x∈none::Zar r from hx)).elim (λe=>nn e.symm) (ih (Nat.le_of_succ_le hl) x)
 ·exact(List.mem_cons.mp (show some x∈some (true,[])::Zar r from hx)).elim (λe=>Option.some.inj e▸⟨by simp,by simp⟩) (ih (Nat.le_of_succ_le hl) x)
 ·rw[show Zar (91::r)=some (Zh4 (r.take k))::Zar (r.drop (k+1)) from congrArg (List.map Zrq) (ZiR hk)] at hx
  have hl':r.length < 800:=hl
  exact(List.mem_cons.mp hx).elim (λe=>Option.some.inj e▸Zpr (by simp;lia)) (ih (Nat.le_trans (Zea ..) (Nat.le_of_succ_le hl)) x)
 ·rw[show Zar (c::r)=some (false,[[c]])::Zar r from congrArg (List.map Zrq) (Zgl h1 h2 h3)] at hx
  exact(List.mem_cons.mp hx).elim (λe=>Option.some.inj e▸⟨by simp,by simp⟩) (ih (Nat.le_of_succ_le hl) x)
theorem ZgX(p:List Nat):(Zar p).length<=p.length:=by
 erw[rwl (ZjJ ..) (rwl (List.length_map ..) ?_)]
 exact(ZlB p).1
theorem ZpN{p:List Nat}(hl:p.length<=40):Zmd [.str (trT p)]=some (.list ((Zaq (Zar p)).map Zhk)):=by
 obtain⟨y,t,e,_⟩:=ZaX (ipL p)
 have hs:=split_len (ipL p)
 have hip:=ZlB p
 have hw:=Zci (ipL p)
 rw[e] at hs hw
 have hjl:∀(y:List (List Nat)) (t:List (List (List Nat))),(ZdY (y::t)).length=Zfl (y::t)+7:=λy t=>by
  simp only[ZdY,Zfl,List.length_append,List.length_cons,List.length_nil];lia
 have hx:(ZdY (ZbY (y::t))).length<=900:=by
  have h1:(ZdY (ZbY (y::t))).length=Zfl (ZbY (y::t))+7:=hjl _ _
  lia
 have h:=Zos (y:=y) (t:=t) (λr hr u hu=>Zt1 hl u (ZcM (ipL p) r (by erw[rwl (e ..) ?_];exact hr) u hu)) (λr hr=>by have:=hs.2 r hr;lia) (by have:=hs.1;simp at this;lia) hx
 erw[rwr (Zn4 ..) (rwl (e ..) ?_)]
 unfold trT
 erw[rwl (e ..) ?_]
 exact h
theorem Zov{p name:List Nat}(hl:p.length<=40)(hn:name.length<=100):Zk9 [.list ((Zaq (Zar p)).map Zhk),.str name]=some (.bool (Zen (Zar p) name)):=by
 have hs:=split_len (Zar p)
 have hi:=ZgX p
 rw[Znr (by lia) hn λrun hr=>⟨by have:=hs.2 run hr;lia,λit hit=>ZjH p (by lia) it (ZcM _ run hr it hit)⟩,greedy]
inductive Op where
 | an
 | orr
 | ls
inductive Tok where
 | nm (p:List Nat)
 | nt
 | op (o:Op)
noncomputable def wordOf:Tok->List Nat
 | .nm _=>[110,97,109,101]
 | .nt=>[110,111,116]
 | .op .an=>[97,110,100]
 | .op .orr=>[111,114]
 | .op .ls=>[108,101,115,115]
noncomputable def Zdc:Tok->List Nat
 | .nm p=>p
 | _=>[]
noncomputable def ZeS(t:Tok):D:=.tuple [.str (wordOf t),.str (Zdc t)]
noncomputable def ZeA(t:Tok):D:=.tuple [.str (wordOf t),.list ((Zar (Zdc t)).map Zfv)]
noncomputable abbrev Pd:=List Nat->Bool
noncomputable def opF:Op->Pd->Pd->Pd
 | .an,f,g=>λn=>f n&&g n
 | .orr,f,g=>λn=>f n||g n
 | .ls,f,g=>λn=>f n&&!g n
noncomputable def Zbt(names:List (List Nat))(f:Pd):D:=.list ((names.filter f).map .str)
noncomputable def Zax(names:List (List Nat))(st:List Pd):D:=.list (st.map (Zbt names))
noncomputable def ZaJ(names:List (List Nat)):D:=.list (names.map .str)
noncomputable abbrev Zbr(names:List (List Nat)):Prop:=(names≠[])∧(names.length<=100)∧(∀n∈names,n.length<=100)
theorem Zbr.ne{names:List (List Nat)}(slf:Zbr names):names≠[]:=slf.1
theorem Zbr.len{names:List (List Nat)}(slf:Zbr names):names.length<=100:=slf.2.1
theorem Zbr.each{names:List (List Nat)}(slf:Zbr names):∀n∈names,n.length<=100:=slf.2.2
theorem gC1:ΓC 1=ZoU:=rfl
theorem Zvz:ΓC 11=Zmd:=rfl
theorem ZvW:ΓC 12=Zk9:=rfl
noncomputable def Zsv(f:Pd):D->Bool
 | .str n=>f n
 | _=>false
theorem ZfU(f:Pd):∀names:List (List Nat),(names.map D.str).filter (Zsv f)=(names.filter f).map D.str
 | []=>rfl
 | n::names=>by
  erw[rwl (List.map_cons ..) (rwl (List.filter_cons ..) (rwl (List.filter_cons ..) (rwl (ZfU f names ..) ?_)))]
  show(if f n=true then _ else _)=_
  split<;>rfl
theorem Zfd{Γ:ZaC}{σ:Sg}{fr:List Nat}{t:Nat}{it c:X}{ns:List (List Nat)}{f:Pd}(hc:c.Za8=false)(hi:ev Γ σ it=some (.list (ns.map .str)))(hl:ns.length<=16777216)(ht:t < σ.length)(h:∀n∈ns,tv Γ ((mask fr σ).set t (.fz (.str n))) c=some (f n)) :
  ev Γ σ (.comp fr t (.var t) it c)=some (.list ((ns.filter f).map .str)):=by
 rw[ZmF (p:=Zsv f) (g:=id) hc hi (by simpa using hl) (λd hd=>by
  obtain⟨n,hn,rfl⟩:=List.mem_map.mp hd
  exact h n hn) (λd hd _=>by
  show rd _ _=_
  unfold rd
  rw[List.getElem?_set_self (by unfold mask;simpa using ht)];rfl),ZfU]
 simp
theorem Zmi(n:List Nat)(l:List (List Nat)):inD (.str n) (.list (l.map .str))=some (l.contains n):=by
 have h:(strs? (l.map D.str)).map (·.contains n)=some (l.contains n):=by erw[rwl (strs_map ..) ?_];rfl
 cases n with
 | nil=>exact h
 | cons a n=>
  cases n with
  | nil=>exact h
  | cons b n=>exact h
theorem ZdH{names:List (List Nat)}{f:Pd}{n:List Nat}(hn:n∈names):(names.filter f).contains n=f n:=by
 rw[Bool.eq_iff_iff,List.contains_iff_mem,List.mem_filter]
 exact⟨λh=>h.2,λh=>⟨hn,h⟩⟩
theorem ZdB{names:List (List Nat)}{f g:Pd}(h:∀n∈names,f n=g n):names.filter f=names.filter g:=List.filter_congr λn hn=>h n hn
noncomputable def stP(names:List (List Nat))(st:List Pd)(t:Tok)(s3 s4 s5 s7 s8 s9:Slot):Sg:=[.fz (ZaJ names),.fz (Zax names st),.fz (ZeS t),s3,s4,s5,.un,s7,s8,s9]
theorem Zm5(n:Nat)(h:2<=n):idxOf n (-2)=some (n - 2):=by
 have e:(-2:Int)+(n:Int)=((n - 2:Nat):Int):=by lia
 unfold idxOf
 rw[if_neg (by decide),e,if_pos (Int.natCast_nonneg _)]
 rfl
theorem Zng{α:Type}(l:List α)(a b:α):slice (l++[a,b]) none (some (-2))=l:=by
 unfold slice
 simp only[Option.map_some,Option.map_none,Option.getD_none,Option.getD_some]
 have e:Zdy (l++[a,b]).length (-2)=l.length:=by
  exact(ZgE _ 2 (by decide)).trans (by erw[rwl (List.length_append ..) ?_];rfl)
 erw[rwl (e ..) (rwl (List.drop_zero ..) (rwl (List.take_left ..) ?_))]
section
variable {names:List (List Nat)}{st:List Pd}
theorem ZiG{t:Tok}{o:Option (Fl×Sg)}{b:S}(k:ex ΓC fuel b (stP names st t (.fz (.str (wordOf t))) (.fz (.str (Zdc t))) .un .un .un .un)=o):ex ΓC fuel (.seq (.unp [3,4] (.var 2)) b) (Ze3 10 [ZaJ names,Zax names st,ZeS t])=o:=
 Zaa rfl k
theorem Ze9{σ:Sg}{y z:X}{base:List Pd}{f:Pd}(h:ev ΓC σ y=some (.list (base.map (Zbt names))))(hz:ev ΓC σ z=some (Zbt names f))(hl:base.length<=1000):ev ΓC σ (.bin .add y (.list (.cons z .nil)))=some (Zax names (base++[f])):=by
 refine ZaF h (q:=.list [Zbt names f]) ?_ ?_
 ·exact ZnJ (Zcc hz) (Nat.le_of_ble_eq_true rfl)
 ·refine(ZcO (l:=base.map (Zbt names)++[Zbt names f]) (by simp;lia)).trans ?_
  unfold Zax
  simp
theorem Zoi(nk:Zbr names){p:List Nat}(hp:p.length<=40)(hl:st.length<=1000):Zgw [ZaJ names,Zax names st,ZeS (.nm p)]=some (Zax names (st++[λn=>Zen (Zar p) n])):=by
 refine Zbb rfl ?_
 have e1:ev ΓC (stP names st (.nm p) (.fz (.str (wordOf (.nm p)))) (.fz (.str p)) .un .un .un .un) (.call 1 (.cons (.var 4) .nil))=some (.str (trT p)):=Zbe (ds:=[.str p]) rfl ((congrFun gC1 _).trans (Zp6 hp))
 have e2:ev ΓC (stP names st (.nm p) (.fz (.str (wordOf (.nm p)))) (.fz (.str p)) .un .un .un .un) (.call 11 (.cons (.call 1 (.cons (.var 4) .nil)) .nil))=some (.list ((Zaq (Zar p)).map Zhk)):=Zbe (ds:=[.str (trT p)]) (Zcc e1) ((congrFun Zvz _).trans (ZpN hp))
 refine⟨_,ZiG (Za7 (x_t (Zaj rfl rfl rfl) (Zaa (σ':=stP names st (.nm p) (.fz (.str (wordOf (.nm p)))) (.fz (.str p)) (.fz (.list ((Zaq (Zar p)).map Zhk))) .un .un .un) (Zav e2) (Za7 (ZbB ?_)))))⟩
 have hc:=Zfd (Γ:=ΓC) (σ:=frz (stP names st (.nm p) (.fz (.str (wordOf (.nm p)))) (.fz (.str p)) (.fz (.list ((Zaq (Zar p)).map Zhk))) .un .un .un)) (fr:=[5]) (t:=6) (it:=.var 0) (c:=.tval (.call 12 (.cons (.var 5) (.cons (.var 6) .nil)))) (ns:=names) (f:=λn=>Zen (Zar p) n) rfl rfl (by have:=nk.len;lia) (by simp[stP,frz]) (λn hn=>ZcA (d:=.bool (Zen (Zar p) n)) (Zbe (ds:=[.list ((Zaq (Zar p)).map Zhk),.str n]) rfl ((congrFun ZvW _).trans (Zov hp (nk.each n hn)))) rfl)
 exact Ze9 rfl hc hl
theorem Ztq{σ:Sg}{f:Pd}(h:rd σ 1=some (Zax names (st++[f]))):ev ΓC σ (.idx (.var 1) (.const (.int (-1))))=some (Zbt names f):=by
 refine ZaK (p:=Zax names (st++[f])) (q:=.int (-1)) h rfl (ZeN ?_)
 simp
theorem Zn8(nk:Zbr names){f:Pd}(hl:st.length<=1000):Zgw [ZaJ names,Zax names (st++[f]),ZeS .nt]=some (Zax names (st++[λn=>!f n])):=by
 refine Zbb rfl ?_
 refine⟨_,ZiG (Zaa (x_f (Zaj rfl rfl rfl) rfl) (Zaa (σ':=stP names (st++[f]) .nt (.fz (.str (wordOf .nt))) (.fz (.str [])) .un (.fz (Zbt names f)) .un .un) (Zav (Ztq rfl)) (Za7 (x_t (Zaj rfl rfl rfl) (Za7 (ZbB ?_))))))⟩
 have hc:=Zfd (Γ:=ΓC) (σ:=frz (stP names (st++[f]) .nt (.fz (.str (wordOf .nt))) (.fz (.str [])) .un (.fz (Zbt names f)) .un .un)) (fr:=[7]) (t:=6) (it:=.var 0) (c:=.tcmp .notin (.var 6) (.var 7)) (ns:=names) (f:=λn=>!f n) rfl rfl (by have:=nk.len;lia) (by simp[stP,frz]) (λn hn=>Zaj (p:=.str n) (q:=Zbt names f) rfl rfl (by
  show(inD (.str n) (Zbt names f)).map (!·)=_
  unfold Zbt
  erw[rwl (Zmi ..) (rwl (ZdH hn ..) ?_)];rfl))
 refine Ze9 (Zcu (p:=Zax names (st++[f])) (q:=.none) (r:=.int (-1)) rfl rfl rfl ?_) hc hl
 show some (D.list (slice ((st++[f]).map (Zbt names)) none (some (-1))))=_
 erw[rwl (Zjt ..) ?_]
 simp
theorem Zn7(nk:Zbr names){f g:Pd}(o:Op)(hl:st.length<=1000):Zgw [ZaJ names,Zax names (st++[f,g]),ZeS (.op o)]=some (Zax names (st++[opF o f g])):=by
 have hi2:ZmQ (Zax names (st++[f,g])) (.int (-2))=some (Zbt names f):=by
  show(if ZdI (-2)=true then(idxOf ((st++[f,g]).map (Zbt names)).length (-2)).bind λk=>((st++[f,g]).map (Zbt names))[k]? else none)=_
  rw[if_pos (by decide),Zm5 _ (by simp)]
  show((st++[f,g]).map (Zbt names))[((st++[f,g]).map (Zbt names)).length - 2]? = _
  simp
 have hlast:∀σ:Sg,rd σ 1=some (Zax names (st++[f,g]))->ev ΓC σ (.idx (.var 1) (.const (.int (-1))))=some (Zbt names g):=λσ h=>ZaK (p:=Zax names (st++[f,g])) (q:=.int (-1)) h rfl (ZeN (by simp))
 have hin:∀{h:Pd} {n:List Nat},n∈names->inD (.str n) (Zbt names h)=some (h n):=λhn=>by
  unfold Zbt
  erw[rwl (Zmi ..) (rwl (ZdH hn ..) ?_)]
 have fin:∀(w:List Nat) (d:Pd),∃σ,ex ΓC fuel (.seq (.ret (.bin .add (.slc (.var 1) (.const .none) (.const (.int (-2)))) (.list (.cons (.var 9) .nil)))) .skip) (stP names (st++[f,g]) (.op o) (.fz (.str (wordOf (.op o)))) (.fz (.str [])) .un (.fz (Zbt names g)) (.fz (Zbt names f)) (.fz (Zbt names d)))=some (.ret (Zax names (st++[d])),σ):=λw d=>by
  refine⟨_,Za7 (ZbB (Ze9 (Zcu (p:=Zax names (st++[f,g])) (q:=.none) (r:=.int (-2)) rfl rfl rfl ?_) rfl hl))⟩
  show some (D.list (slice ((st++[f,g]).map (Zbt names)) none (some (-2))))=_
  erw[rwl (List.map_append ..) ?_]
  exact congrArg (λl=>some (D.list l)) (Zng (st.map (Zbt names)) (Zbt names f) (Zbt names g))
 have pre:∀{r:Option (Fl×Sg)},(∀b:S,Zcp=.seq (.unp [3,4] (.var 2)) (.seq (.ifs (.tcmp .eq (.var 3) (.const (.str [110,97,109,101]))) (
  .seq (.asg 5 (.call 11 (.cons (.call 1 (.cons (.var 4) .nil)) .nil))) <|
  .seq (.ret (.bin .add (.var 1) (.list (.cons (.comp [5] 6 (.var 6) (.var 0) (.tval (.call 12 (.cons (.var 5) (.cons (.var 6) .nil))))) .nil)))) <| .skip) (.skip)) (.seq (.asg 7 (.idx (.var 1) (.const (.int (-1))))) (.seq (.ifs (.tcmp .eq (.var 3) (.const (.str [110,111,116]))) (
  .seq (.ret (.bin .add (.slc (.var 1) (.const .none) (.const (.int (-1)))) (.list (.cons (.comp [7] 6 (.var 6) (.var 0) (.tcmp .notin (.var 6) (.var 7))) .nil)))) <| .skip) (.skip)) (.seq (.asg 8 (.idx (.var 1) (.const (.int (-2))))) b))))->
   ex ΓC fuel b (stP names (st++[f,g]) (.op o) (.fz (.str (wordOf (.op o)))) (.fz (.str [])) .un (.fz (Zbt names g)) (.fz (Zbt names f)) .un)=r)->ex ΓC fuel Zcp (Ze3 10 [ZaJ names,Zax names (st++[f,g]),ZeS (.op o)])=r:=by
  intro r h
  have n1:tv ΓC (stP names (st++[f,g]) (.op o) (.fz (.str (wordOf (.op o)))) (.fz (.str [])) .un .un .un .un) (.tcmp .eq (.var 3) (.const (.str [110,97,109,101])))=some false:=by
   cases o<;>exact Zaj rfl rfl rfl
  have n2:tv ΓC (stP names (st++[f,g]) (.op o) (.fz (.str (wordOf (.op o)))) (.fz (.str [])) .un (.fz (Zbt names g)) .un .un) (.tcmp .eq (.var 3) (.const (.str [110,111,116])))=some false:=by
   cases o<;>exact Zaj rfl rfl rfl
  exact ZiG (Zaa (x_f n1 rfl) (Zaa (σ':=stP names (st++[f,g]) (.op o) (.fz (.str (wordOf (.op o)))) (.fz (.str [])) .un (.fz (Zbt names g)) .un .un) (Zav (hlast _ rfl)) (Zaa (x_f n2 rfl) (Zaa (σ':=stP names (st++[f,g]) (.op o) (.fz (.str (wordOf (.op o)))) (.fz (.str [])) .un (.fz (Zbt names g)) (.fz (Zbt names f)) .un) (Zav (ZaK (p:=Zax names (st++[f,g])) (q:=.int (-2)) rfl rfl hi2)) (h _ rfl)))))
 refine Zbb rfl ?_
 obtain⟨σ',hf⟩:=fin [] (opF o f g)
 refine⟨σ',pre λb hb=>?_⟩
 have hb:=hb.symm
 unfold Zcp at hb
 injection hb with _ hb;injection hb with _ hb;injection hb with _ hb;injection hb with _ hb;injection hb with _ hb
 subst hb
 cases o with
 | an=>
  have hc:=Zfd (Γ:=ΓC) (σ:=stP names (st++[f,g]) (.op .an) (.fz (.str (wordOf (.op .an)))) (.fz (.str [])) .un (.fz (Zbt names g)) (.fz (Zbt names f)) .un) (fr:=[7]) (t:=6) (it:=.var 8) (c:=.tcmp .isin (.var 6) (.var 7)) (ns:=names.filter f) (f:=g) rfl rfl (by have:=List.length_filter_le f names;have:=nk.len;lia) (by simp[stP]) (λn hn=>Zaj (p:=.str n) (q:=Zbt names g) rfl rfl (hin (List.mem_filter.mp hn).1))
  have e:(names.filter f).filter g=names.filter (opF .an f g):=by
   erw[rwl (List.filter_filter ..) ?_]
   exact ZdB λn _=>by show(g n&&f n)=(f n&&g n);erw[rwl (Bool.and_comm ..) ?_]
  rw[e] at hc
  exact Zaa (x_t (Zaj rfl rfl rfl) (Zaf (ZlL hc))) hf
 | orr=>
  have hc:=Zfd (Γ:=ΓC) (σ:=stP names (st++[f,g]) (.op .orr) (.fz (.str (wordOf (.op .orr)))) (.fz (.str [])) .un (.fz (Zbt names g)) (.fz (Zbt names f)) .un) (fr:=[8,7]) (t:=6) (it:=.var 0) (c:=.tor (.cons (.tcmp .isin (.var 6) (.var 8)) (.cons (.tcmp .isin (.var 6) (.var 7)) .nil))) (ns:=names) (f:=opF .orr f g) rfl rfl (by have:=nk.len;lia) (by simp[stP]) (λn hn=>by
   have h1:=Zaj (Γ:=ΓC) (σ:=((mask [8,7] (stP names (st++[f,g]) (.op .orr) (.fz (.str (wordOf (.op .orr)))) (.fz (.str [])) .un (.fz (Zbt names g)) (.fz (Zbt names f)) .un)).set 6 (.fz (.str n)))) (op:=.isin) (l:=.var 6) (r:=.var 8) (p:=.str n) (q:=Zbt names f) rfl rfl (hin hn)
   have h2:=Zaj (Γ:=ΓC) (σ:=((mask [8,7] (stP names (st++[f,g]) (.op .orr) (.fz (.str (wordOf (.op .orr)))) (.fz (.str [])) .un (.fz (Zbt names g)) (.fz (Zbt names f)) .un)).set 6 (.fz (.str n)))) (op:=.isin) (l:=.var 6) (r:=.var 7) (p:=.str n) (q:=Zbt names g) rfl rfl (hin hn)
   show _=some (f n||g n)
   cases hfn:f n with
   | true=>rw[hfn] at h1;exact ZeF h1
   | false=>
    rw[hfn] at h1
    cases hgn:g n with
    | true=>rw[hgn] at h2;exact Zjf h1 (ZeF h2)
    | false=>rw[hgn] at h2;exact Zjf h1 (Zjf h2 rfl))
  exact Zaa (x_f (Zaj rfl rfl rfl) (Zaf (x_t (Zaj rfl rfl rfl) (Zaf (ZlL hc))))) hf
 | ls=>
  have hc:=Zfd (Γ:=ΓC) (σ:=stP names (st++[f,g]) (.op .ls) (.fz (.str (wordOf (.op .ls)))) (.fz (.str [])) .un (.fz (Zbt names g)) (.fz (Zbt names f)) .un) (fr:=[7]) (t:=6) (it:=.var 8) (c:=.tcmp .notin (.var 6) (.var 7)) (ns:=names.filter f) (f:=λn=>!g n) rfl rfl (by have:=List.length_filter_le f names;have:=nk.len;lia) (by simp[stP]) (λn hn=>Zaj (p:=.str n) (q:=Zbt names g) rfl rfl (by
   show(inD (.str n) (Zbt names g)).map (!·)=_
   erw[rwl (hin (List.mem_filter.mp hn).1 ..) ?_];rfl))
  have e:(names.filter f).filter (λn=>!g n)=names.filter (opF .ls f g):=by
   erw[rwl (List.filter_filter ..) ?_]
   exact ZdB λn _=>by show(!g n&&f n)=(f n&&!g n);erw[rwl (Bool.and_comm ..) ?_]
  rw[e] at hc
  exact Zaa (x_f (Zaj rfl rfl rfl) (Zaf (x_f (Zaj rfl rfl rfl) (Zaf (ZlL hc))))) hf
end
end
section
inductive Seg:List Tok->Pd->Prop
 | nm {p:List Nat}:p.length<=40->Seg [.nm p] (λn=>Zen (Zar p) n)
 | nt {l:List Tok} {f:Pd}:Seg l f->Seg (l++[.nt]) (λn=>!f n)
 | op {l l':List Tok} {f g:Pd} (o:Op):Seg l f->Seg l' g->Seg (l++l'++[.op o]) (opF o f g)
theorem Zsn{l:List Tok}{f:Pd}(h:Seg l f):1<=l.length:=by cases h<;>simp<;>lia
noncomputable def stV(T:List Tok)(e:Int)(n:List Nat)(s3 s4 s5 s6 s7:Slot):Sg:=[.fz (.list (T.map ZeA)),.fz (.int e),.fz (.str n),s3,s4,s5,s6,s7]
theorem gV8(s:List D->Option D):ΓV s 8=ZtT:=rfl
theorem ZvI(s:List D->Option D):ΓV s 17=s:=rfl
section
variable {T:List Tok}{n:List Nat}{s:List D->Option D}
theorem ZrI{pre post:List Tok}{t:Tok}(hT:T=pre++t::post)(hl:T.length<=1000){b:S}{o:Option (Fl×Sg)}(k:ex (ΓV s) fuel b (stV T ((pre.length:Nat):Int) n (.fz (.str (wordOf t))) (.fz (.list ((Zar (Zdc t)).map Zfv))) .un .un .un)=o) :
  ex (ΓV s) fuel (.seq (.unp [3,4] (.idx (.var 0) (.var 1))) b) (Ze3 8 [.list (T.map ZeA),.int ((pre.length:Nat):Int),.str n])=o:=by
 have hlen:T.length=pre.length+(post.length+1):=by erw[rwl (hT ..) ?_];simp
 refine Zaa (σ':=stV T ((pre.length:Nat):Int) n (.fz (.str (wordOf t))) (.fz (.list ((Zar (Zdc t)).map Zfv))) .un .un .un) ?_ k
 have e:ev (ΓV s) (Ze3 8 [.list (T.map ZeA),.int ((pre.length:Nat):Int),.str n]) (.idx (.var 0) (.var 1))=some (ZeA t):=by
  refine ZaK (p:=.list (T.map ZeA)) (q:=.int ((pre.length:Nat):Int)) rfl rfl (ZaM ?_ (by lia))
  have:=ZbC pre (t::post) 0
  rw[Nat.add_zero] at this
  erw[rwl (List.getElem?_map ..) (rwl (hT ..) (rwl (this ..) ?_))];rfl
 exact Zl7 e rfl
theorem ZiZ{pre post:List Tok}{t:Tok}(hT:T=pre++t::post)(hl:T.length<=1000){b:S}{d:D}(k:∃σ',ex (ΓV s) fuel b (stV T ((pre.length:Nat):Int) n (.fz (.str (wordOf t))) (.fz (.list ((Zar (Zdc t)).map Zfv))) .un .un .un)=some (.ret d,σ')) :
  ∃σ',ex (ΓV s) fuel (.seq (.unp [3,4] (.idx (.var 0) (.var 1))) b) (Ze3 8 [.list (T.map ZeA),.int ((pre.length:Nat):Int),.str n])=some (.ret d,σ'):=by
 obtain⟨σ',h⟩:=k
 exact⟨σ',ZrI hT hl h⟩
theorem ZlX{σ:Sg}{y:X}{e:Int}{r:D}(h0:rd σ 0=some (.list (T.map ZeA)))(h2:rd σ 2=some (.str n))(hy:ev (ΓV s) σ y=some (.int e))(hs:s [.list (T.map ZeA),.int e,.str n]=some r):ev (ΓV s) σ (.call 17 (.cons (.var 0) (.cons y (.cons (.var 2) .nil))))=some r:=by
 refine Zbe (ds:=[.list (T.map ZeA),.int e,.str n]) ?_ ((congrFun (ZvI s) _).trans hs)
 have e0:ev (ΓV s) σ (.var 0)=some (.list (T.map ZeA)):=h0
 have e2:ev (ΓV s) σ (.var 2)=some (.str n):=h2
 exact ZaP e0 (ZaP hy (Zcc e2))
end
theorem val_eq{l:List Tok}{f:Pd}(h:Seg l f):∀(k:Nat) (pre post T:List Tok) (n:List Nat),l.length<=k->T=pre++(l++post)->T.length<=1000->n.length<=100->
  ZcC k [.list (T.map ZeA),.int (((pre.length+l.length:Nat):Int) - 1),.str n]=some (.tuple [.bool (f n),.int ((pre.length:Int) - 1)]):=by
 induction h with
 | @nm p hp=>
  intro k pre post T n hk hT hl hn
  match k,hk with
  | k+1,_=>
   rw[show(((pre.length+([Tok.nm p]:List Tok).length:Nat):Int) - 1)=((pre.length:Nat):Int) by simp]
   refine Zbb rfl ⟨_,ZrI (t:=.nm p) hT hl (Za7 (x_t (Zaj rfl rfl rfl) (Za7 (ZbB ?_))))⟩
   have e8:ev (ΓV (ZcC k)) (frz (stV T ((pre.length:Nat):Int) n (.fz (.str (wordOf (.nm p)))) (.fz (.list ((Zar (Zdc (.nm p))).map Zfv))) .un .un .un)) (.call 8 (.cons (.var 4) (.cons (.var 2) .nil)))=some (.bool (Zen (Zar p) n)):=
    Zbe (ds:=[.list ((Zar p).map Zfv),.str n]) rfl ((congrFun (gV8 _) _).trans (Zqr hn (by have:=ZgX p;lia) (λi hi=>ZjH p (by lia) i hi)))
   exact ZiS (ds:=[.bool (Zen (Zar p) n),.int ((pre.length:Int) - 1)]) (ZaP e8 (Zcc rfl)) (Nat.le_of_ble_eq_true rfl)
 | @nt l f h ih=>
  intro k pre post T n hk hT hl hn
  match k,hk with
  | 0,hk=>exact absurd hk (by simp)
  | k+1,hk=>
   simp at hk
   have e0:(((pre.length+(l++[Tok.nt]).length:Nat):Int) - 1)=(((pre++l).length:Nat):Int):=by simp;lia
   erw[rwl (e0 ..) ?_]
   have hT2:T=(pre++l)++Tok.nt::post:=by erw[rwl (hT ..) ?_];simp
   have hv:=ih k pre (Tok.nt::post) T n (by lia) (by erw[rwl (hT ..) ?_];simp) hl hn
   have ec:ev (ΓV (ZcC k)) (stV T (((pre++l).length:Nat):Int) n (.fz (.str (wordOf .nt))) (.fz (.list [])) .un .un .un) (.call 17 (.cons (.var 0) (.cons (.bin .sub (.var 1) (.const (.int 1))) (.cons (.var 2) .nil))))=some (.tuple [.bool (f n),.int ((pre.length:Int) - 1)]):=by
    refine ZlX rfl rfl (ZaF (p:=.int (((pre++l).length:Nat):Int)) (q:=.int 1) rfl rfl rfl) ?_
    erw[rwl (List.length_append ..) ?_]
    exact hv
   have e1:Zar (Zdc .nt)=[]:=rfl
   refine Zbb rfl (ZiZ (t:=.nt) hT2 hl ?_)
   erw[rwl (e1 ..) ?_]
   refine⟨_,Zaa (x_f (Zaj rfl rfl rfl) rfl) (Zaa (σ':=stV T (((pre++l).length:Nat):Int) n (.fz (.str (wordOf .nt))) (.fz (.list [])) (.fz (.bool (f n))) (.fz (.int ((pre.length:Int) - 1))) .un) ?_ (Za7 (x_t (Zaj rfl rfl rfl) (Za7 (ZbB rfl)))))⟩
   exact Zl7 ec rfl
 | @op l l' f g o h h' ih ih'=>
  intro k pre post T n hk hT hl hn
  match k,hk with
  | 0,hk=>exact absurd hk (by simp)
  | k+1,hk=>
   simp at hk
   have e0:(((pre.length+(l++l'++[Tok.op o]).length:Nat):Int) - 1)=(((pre++l++l').length:Nat):Int):=by simp;lia
   erw[rwl (e0 ..) ?_]
   have hT2:T=(pre++l++l')++Tok.op o::post:=by erw[rwl (hT ..) ?_];simp
   have hv':=ih' k (pre++l) (Tok.op o::post) T n (by lia) (by erw[rwl (hT ..) ?_];simp) hl hn
   have hv:=ih k pre (l'++Tok.op o::post) T n (by lia) (by erw[rwl (hT ..) ?_];simp) hl hn
   have ec':ev (ΓV (ZcC k)) (stV T (((pre++l++l').length:Nat):Int) n (.fz (.str (wordOf (.op o)))) (.fz (.list [])) .un .un .un) (.call 17 (.cons (.var 0) (.cons (.bin .sub (.var 1) (.const (.int 1))) (.cons (.var 2) .nil))))=some (.tuple [.bool (g n),.int (((pre++l).length:Int) - 1)]):=by
    refine ZlX rfl rfl (ZaF (p:=.int (((pre++l++l').length:Nat):Int)) (q:=.int 1) rfl rfl rfl) ?_
    erw[rwl (List.length_append (as:=pre++l) ..) ?_]
    exact hv'
   have ec:ev (ΓV (ZcC k)) (stV T (((pre++l++l').length:Nat):Int) n (.fz (.str (wordOf (.op o)))) (.fz (.list [])) (.fz (.bool (g n))) (.fz (.int (((pre++l).length:Int) - 1))) .un) (.call 17 (.cons (.var 0) (.cons (.var 6) (.cons (.var 2) .nil))))=some (.tuple [.bool (f n),.int ((pre.length:Int) - 1)]):=by
    refine ZlX (e:=((pre++l).length:Int) - 1) rfl rfl rfl ?_
    erw[rwl (List.length_append ..) ?_]
    exact hv
   have e1:Zar (Zdc (.op o))=[]:=rfl
   refine Zbb rfl ?_
   have go:∀{b:S} {r:Option (Fl×Sg)},ex (ΓV (ZcC k)) fuel b (stV T (((pre++l++l').length:Nat):Int) n (.fz (.str (wordOf (.op o)))) (.fz (.list [])) (.fz (.bool (g n))) (.fz (.int ((pre.length:Int) - 1))) (.fz (.bool (f n))))=r->
     ex (ΓV (ZcC k)) fuel (.seq (.ifs (.tcmp .eq (.var 3) (.const (.str [110,97,109,101]))) (.seq (.ret (.tuple (.cons (.call 8 (.cons (.var 4) (.cons (.var 2) .nil))) (.cons (.bin .sub (.var 1) (.const (.int 1))) .nil)))) <| .skip) (.skip)) (.seq (.unp [5,6] (.call 17 (.cons (.var 0) (.cons (.bin .sub (.var 1) (.const (.int 1))) (.cons (.var 2) .nil))))) (.seq (.ifs (.tcmp .eq (.var 3) (.const (.str [110,111,116]))) (.seq (.ret (.tuple (.cons (.not (.var 5)) (.cons (.var 6) .nil)))) <| .skip) (.skip)) (.seq (.unp [7,6] (.call 17 (.cons (.var 0) (.cons (.var 6) (.cons (.var 2) .nil))))) b)))) (stV T (((pre++l++l').length:Nat):Int) n (.fz (.str (wordOf (.op o)))) (.fz (.list [])) .un .un .un)=r:=by
    intro b r hb
    have n1:tv (ΓV (ZcC k)) (stV T (((pre++l++l').length:Nat):Int) n (.fz (.str (wordOf (.op o)))) (.fz (.list [])) .un .un .un) (.tcmp .eq (.var 3) (.const (.str [110,97,109,101])))=some false:=by cases o<;>exact Zaj rfl rfl rfl
    have n2:tv (ΓV (ZcC k)) (stV T (((pre++l++l').length:Nat):Int) n (.fz (.str (wordOf (.op o)))) (.fz (.list [])) (.fz (.bool (g n))) (.fz (.int (((pre++l).length:Int) - 1))) .un) (.tcmp .eq (.var 3) (.const (.str [110,111,116])))=some false:=by cases o<;>exact Zaj rfl rfl rfl
    refine Zaa (x_f n1 rfl) (Zaa (σ':=stV T (((pre++l++l').length:Nat):Int) n (.fz (.str (wordOf (.op o)))) (.fz (.list [])) (.fz (.bool (g n))) (.fz (.int (((pre++l).length:Int) - 1))) .un) ?_ (Zaa (x_f n2 rfl) (Zaa ?_ hb)))
    ·exact Zl7 ec' rfl
    ·exact Zl7 ec rfl
   cases o with
   | an=>
    refine ZiZ (t:=.op .an) hT2 hl ?_
    erw[rwl (e1 ..) ?_]
    refine⟨_,go (Za7 (x_t (Zaj rfl rfl rfl) (Za7 (ZbB (d:=.tuple [.bool (opF .an f g n),.int ((pre.length:Int) - 1)]) ?_))))⟩
    have eb:∀σ:Sg,rd σ 7=some (.bool (f n))->rd σ 5=some (.bool (g n))->ev (ΓV (ZcC k)) σ (.band (.cons (.var 7) (.cons (.var 5) .nil)))=some (.bool (f n&&g n)):=λσ h7 h5=>by
     show Zfi _ _ _=_
     refine Zc5 (a:=f n) h7 (λq=>ZdX (q▸h5)) (λq=>by erw[rwl (q ..) ?_];rfl)
    exact ZiS (ZaP (eb _ rfl rfl) (Zcc rfl)) (Nat.le_of_ble_eq_true rfl)
   | orr=>
    refine ZiZ (t:=.op .orr) hT2 hl ?_
    erw[rwl (e1 ..) ?_]
    refine⟨_,go (Zaa (x_f (Zaj rfl rfl rfl) rfl) (Za7 (x_t (Zaj rfl rfl rfl) (Za7 (ZbB (d:=.tuple [.bool (opF .orr f g n),.int ((pre.length:Int) - 1)]) ?_)))))⟩
    have eb:∀σ:Sg,rd σ 7=some (.bool (f n))->rd σ 5=some (.bool (g n))->ev (ΓV (ZcC k)) σ (.bor (.cons (.var 7) (.cons (.var 5) .nil)))=some (.bool (f n||g n)):=λσ h7 h5=>by
     show Zmr _ _ _=_
     refine ZcX (a:=f n) h7 (λq=>ZeL (q▸h5)) (λq=>by erw[rwl (q ..) ?_];rfl)
    exact ZiS (ZaP (eb _ rfl rfl) (Zcc rfl)) (Nat.le_of_ble_eq_true rfl)
   | ls=>
    refine ZiZ (t:=.op .ls) hT2 hl ?_
    erw[rwl (e1 ..) ?_]
    refine⟨_,go (Zaa (x_f (Zaj rfl rfl rfl) rfl) (Zaa (x_f (Zaj rfl rfl rfl) rfl) (Za7 (ZbB (d:=.tuple [.bool (opF .ls f g n),.int ((pre.length:Int) - 1)]) ?_))))⟩
    have eb:∀σ:Sg,rd σ 7=some (.bool (f n))->rd σ 5=some (.bool (g n))->ev (ΓV (ZcC k)) σ (.band (.cons (.var 7) (.cons (.not (.var 5)) .nil)))=some (.bool (f n&&!g n)):=λσ h7 h5=>by
     show Zfi _ _ _=_
     refine Zc5 (a:=f n) h7 (λq=>ZdX ((ZuO (x:=.var 5) (p:=.bool (g n)) (b:=g n) h5 rfl).trans (by erw[rwl (q ..) ?_];rfl))) (λq=>by erw[rwl (q ..) ?_];rfl)
    exact ZiS (ZaP (eb _ rfl rfl) (Zcc rfl)) (Nat.le_of_ble_eq_true rfl)
end
section
set_option backward.match.sparseCases false
theorem ZvU:ΓD 17=ZcC 12:=rfl
noncomputable def ZoX:S:=match Zex with
 | .seq _ (.seq _ (.seq (.whl _ b) _))=>b
 | _=>.skip
noncomputable def stW(names:List (List Nat))(T:List Tok)(st:List Pd)(e:Int)(s4:Slot):Sg:=[.fz (.list (T.map ZeA)),.fz (ZaJ names),.fz (Zax names st),.fz (.int e),s4,.un,.un]
noncomputable def ZuE(f:Pd)(e:Int):D->D
 | .str n=>.tuple [.bool (f n),.int e]
 | _=>.none
noncomputable def Zfr(names:List (List Nat))(f:Pd)(e:Int):D:=.list (names.map λn=>.tuple [.bool (f n),.int e])
noncomputable def Ztc(names:List (List Nat))(f:Pd):D->Bool
 | .int i=>f (names.getD i.toNat [])
 | _=>false
noncomputable def Zti(names:List (List Nat)):D->D
 | .int i=>.str (names.getD i.toNat [])
 | _=>.none
theorem range_getD(names:List (List Nat)):(List.range names.length).map (λi=>names.getD i [])=names:=by
 apply List.ext_getElem
 ·simp
 ·intro i h1 h2
  erw[rwl (List.getElem_map ..) (rwl (List.getElem_range ..) (rwl (List.getD_eq_getElem?_getD ..) (rwl (List.getElem?_eq_getElem h2 ..) ?_)))]
  rfl
theorem Zp5(names:List (List Nat))(f:Pd):((((List.range names.length).map λ(i:Nat)=>D.int (i:Int)).filter (Ztc names f)).map (Zti names))=(names.filter f).map D.str:=by
 erw[rwl (List.filter_map ..) (rwl (List.map_map ..) ?_)]
 have h:names.filter f=((List.range names.length).filter (f ∘ λi=>names.getD i [])).map λi=>names.getD i []:=by
  erw[rwr (List.filter_map ..) (rwl (range_getD ..) ?_)]
 erw[rwl (h ..) (rwl (List.map_map ..) ?_)]
 rfl
section
variable {names:List (List Nat)}{T:List Tok}{st:List Pd}{s4:Slot}
theorem Zpu(nk:Zbr names){l pre post:List Tok}{f:Pd}(h:Seg l f)(hT:T=pre++(l++post))(hl:T.length<=12)(hst:st.length<=1000) :
  ex ΓD fuel ZoX (stW names T st (((pre.length+l.length:Nat):Int) - 1) s4)=some (.next,stW names T (f::st) ((pre.length:Int) - 1) (.fz (Zfr names f ((pre.length:Int) - 1)))):=by
 have hll:l.length<=12:=by rw[hT] at hl;simp at hl;lia
 have hnl:=nk.len
 have c1:=Zf1 (Γ:=ΓD) (σ:=stW names T st (((pre.length+l.length:Nat):Int) - 1) s4) (fr:=[0,3]) (t:=5) (e:=.call 17 (.cons (.var 0) (.cons (.var 3) (.cons (.var 5) .nil)))) (it:=.var 1) (ds:=names.map .str) (g:=ZuE f ((pre.length:Int) - 1)) rfl (by simp;lia) (λd hd=>by
  obtain⟨n,hn,rfl⟩:=List.mem_map.mp hd
  exact Zbe (ds:=[.list (T.map ZeA),.int (((pre.length+l.length:Nat):Int) - 1),.str n]) rfl ((congrFun ZvU _).trans (val_eq h 12 pre post T n hll hT (by lia) (nk.each n hn))))
 rw[List.map_map] at c1
 have c1':ex ΓD fuel (.asg 4 (.comp [0,3] 5 (.call 17 (.cons (.var 0) (.cons (.var 3) (.cons (.var 5) .nil)))) (.var 1) (.const .none))) (stW names T st (((pre.length+l.length:Nat):Int) - 1) s4)=some (.next,stW names T st (((pre.length+l.length:Nat):Int) - 1) (.fz (Zfr names f ((pre.length:Int) - 1)))):=Zav c1
 have c2:=ZmF (Γ:=ΓD) (σ:=stW names T st (((pre.length+l.length:Nat):Int) - 1) (.fz (Zfr names f ((pre.length:Int) - 1)))) (fr:=[1,4]) (t:=6) (e:=.idx (.var 1) (.var 6)) (it:=.range1 (.bfn .len (.var 1))) (c:=.tval (.idx (.idx (.var 4) (.var 6)) (.const (.int 0)))) (p:=Ztc names f) (g:=Zti names) rfl
  (Zck (n:=names.length) (Zdo rfl (by show some (D.int ((names.map D.str).length:Int))=_;erw[rwl (List.length_map ..) ?_])) (by lia)) (by simp;lia) (λd hd=>by
   obtain⟨k,hk,rfl⟩:=List.mem_map.mp hd
   have hk:k < names.length:=List.mem_range.mp hk
   have hg:names[k]? = some (names.getD k []):=by erw[rwl (List.getD_eq_getElem?_getD ..) (rwl (List.getElem?_eq_getElem hk ..) ?_)];rfl
   exact ZcA (d:=.bool (f (names.getD k []))) (ZaK (p:=.tuple [.bool (f (names.getD k [])),.int ((pre.length:Int) - 1)]) (q:=.int 0) (ZaK (p:=Zfr names f ((pre.length:Int) - 1)) (q:=.int (k:Int)) rfl rfl (ZaM (by erw[rwl (List.getElem?_map ..) (rwl (hg ..) ?_)];rfl) (by lia))) rfl (Zmy (i:=0) rfl (by lia))) rfl) (λd hd _=>by
   obtain⟨k,hk,rfl⟩:=List.mem_map.mp hd
   have hk:k < names.length:=List.mem_range.mp hk
   have hg:names[k]? = some (names.getD k []):=by erw[rwl (List.getD_eq_getElem?_getD ..) (rwl (List.getElem?_eq_getElem hk ..) ?_)];rfl
   exact ZaK (p:=ZaJ names) (q:=.int (k:Int)) rfl rfl (ZaM (by erw[rwl (List.getElem?_map ..) (rwl (hg ..) ?_)];rfl) (by lia)))
 rw[Zp5] at c2
 refine Zaa c1' (Zaa (σ':=stW names T (f::st) (((pre.length+l.length:Nat):Int) - 1) (.fz (Zfr names f ((pre.length:Int) - 1)))) (Zav (ZaF (p:=.list [Zbt names f]) (q:=Zax names st) ?_ rfl ?_)) (Zaf (Zav ?_)))
 ·exact ZnJ (Zcc c2) (Nat.le_of_ble_eq_true rfl)
 ·exact ZcO (l:=[Zbt names f]++st.map (Zbt names)) (by simp;lia)
 ·obtain⟨n0,r,hn⟩:∃n0 r,names=n0::r:=by
   have:=nk.ne
   cases names with
   | nil=>exact absurd rfl this
   | cons a r=>exact⟨a,r,rfl⟩
  exact ZaK (p:=.tuple [.bool (f n0),.int ((pre.length:Int) - 1)]) (q:=.int 1) (ZaK (p:=Zfr names f ((pre.length:Int) - 1)) (q:=.int 0) rfl rfl (ZaM (i:=0) (by erw[rwl (hn ..) ?_];rfl) (by lia))) rfl (Zmy (i:=1) rfl (by lia))
noncomputable def Zh5(S:List (List Tok×Pd)):List Tok:=S.flatMap (·.1)
noncomputable def Zqe(S:List (List Tok×Pd)):Prop:=∀s∈S,Seg s.1 s.2
theorem ZmB(nk:Zbr names)(hl:T.length<=12):∀(m:Nat) (S:List (List Tok×Pd)) (post:List Tok) (st:List Pd) (s4:Slot) (N:Nat),S.length=m->Zqe S->T=Zh5 S++post->st.length+m<=1000->m < N->
  ∃t4,Zbk (λσ=>tv ΓD σ (.tcmp .ge (.var 3) (.const (.int 0)))) (ex ΓD fuel ZoX) N (stW names T st (((Zh5 S).length:Int) - 1) s4)=some (.next,stW names T (S.map (·.2)++st) (-1) t4)
 | 0,S,post,st,s4,N+1,hm,_,_,_,_=>by
  have:S=[]:=List.eq_nil_of_length_eq_zero hm
  subst this
  exact⟨s4,ZcS (Zaj (p:=.int (-1)) (q:=.int 0) rfl rfl rfl)⟩
 | m+1,S,post,st,s4,N+1,hm,hS,hT,hst,hN=>by
  obtain⟨S',s,rfl⟩:∃S' s,S=S'++[s]:=by
   rcases List.eq_nil_or_concat S with h | ⟨a,b,h⟩
   ·rw[h] at hm;cases hm
   ·exact⟨a,b,by erw[rwl (h ..) ?_];simp⟩
  have hseg:=hS s (by simp)
  have hne:=Zsn hseg
  have e1:Zh5 (S'++[s])=Zh5 S'++s.1:=by unfold Zh5;simp
  have e2:(Zh5 (S'++[s])).length=(Zh5 S').length+s.1.length:=by erw[rwl (e1 ..) (rwl (List.length_append ..) ?_)]
  have hb:=Zpu (st:=st) (s4:=s4) nk hseg (pre:=Zh5 S') (post:=post) (by erw[rwl (hT ..) (rwl (e1 ..) ?_)];simp) hl (by lia)
  obtain⟨t4,ih⟩:=ZmB nk hl m S' (s.1++post) (s.2::st) (.fz (Zfr names s.2 (((Zh5 S').length:Int) - 1))) N (by simpa using hm) (λv hv=>hS v (by simp[hv])) (by erw[rwl (hT ..) (rwl (e1 ..) ?_)];simp) (by simp;lia) (by lia)
  refine⟨t4,?_⟩
  erw[rwl (e2 ..) ?_]
  have go:tv ΓD (stW names T st ((((Zh5 S').length+s.1.length:Nat):Int) - 1) s4) (.tcmp .ge (.var 3) (.const (.int 0)))=some true:=by
   refine Zaj (p:=.int ((((Zh5 S').length+s.1.length:Nat):Int) - 1)) (q:=.int 0) rfl rfl ?_
   show some (decide _)=_
   rw[decide_eq_true (by lia)]
  refine ZiE go hb (ih.trans ?_)
  simp
 | _,_,_,_,_,0,_,_,_,_,hN=>absurd hN (Nat.not_lt_zero _)
theorem ZjR(nk:Zbr names){S:List (List Tok×Pd)}(hS:Zqe S)(hT:Zh5 S=T)(hl:T.length<=12)(hSl:S.length<=900):ZoC [.list (T.map ZeA),ZaJ names]=some (Zax names (S.map (·.2))):=by
 obtain⟨t4,h⟩:=ZmB (T:=T) nk hl S.length S [] [] .un fuel rfl hS (by erw[rwl (hT ..) ?_];simp) (by simp;lia) (by simp[fuel];lia)
 rw[hT,List.append_nil] at h
 refine Zbb rfl ⟨_,Zaa (σ':=[.fz (.list (T.map ZeA)),.fz (ZaJ names),.fz (.list []),.un,.un,.un,.un]) rfl (Zaa (σ':=stW names T [] ((T.length:Int) - 1) .un) ?_ (Zaa h (Za7 (ZbB rfl))))⟩
 refine Zav (ZaF (p:=.int (T.length:Int)) (q:=.int 1) (Zdo rfl ?_) rfl rfl)
 show some (D.int ((T.map ZeA).length:Int))=_
 erw[rwl (List.length_map ..) ?_]
end
inductive WfE:List Tok->Nat->Prop
 | nil:WfE [] 0
 | nm {T:List Tok} {d:Nat} {p:List Nat}:WfE T d->p.length<=40->WfE (T++[.nm p]) (d+1)
 | nt {T:List Tok} {d:Nat}:WfE T d->1<=d->WfE (T++[.nt]) d
 | op {T:List Tok} {d:Nat} (o:Op):WfE T d->2<=d->WfE (T++[.op o]) (d - 1)
theorem ZpM{T:List Tok}{d:Nat}(h:WfE T d):∀c,∃d',WfE (T.take c) d':=by
 induction h with
 | nil=>intro c;exact⟨0,by erw[rwl (List.take_nil ..) ?_];exact .nil⟩
 | @nm T d p h hp ih=>
  intro c
  by_cases hc:c<=T.length
  ·erw[rwl (List.take_append_of_le_length hc ..) ?_];exact ih c
  ·rw[List.take_of_length_le (by simp;lia)];exact⟨_,.nm h hp⟩
 | @nt T d h hp ih=>
  intro c
  by_cases hc:c<=T.length
  ·erw[rwl (List.take_append_of_le_length hc ..) ?_];exact ih c
  ·rw[List.take_of_length_le (by simp;lia)];exact⟨_,.nt h hp⟩
 | @op T d o h hp ih=>
  intro c
  by_cases hc:c<=T.length
  ·erw[rwl (List.take_append_of_le_length hc ..) ?_];exact ih c
  ·rw[List.take_of_length_le (by simp;lia)];exact⟨_,.op o h hp⟩
theorem ZcU(f:D->D->Option D):∀(a b:List D) (s:D),ZbO f (a++b) s=(ZbO f a s).bind (ZbO f b)
 | [],b,s=>rfl
 | d::a,b,s=>by
  erw[rwl (List.cons_append ..) (rwl (Zvi ..) (rwl (Zvi ..) ?_))]
  cases h:f s d with
  | none=>rfl
  | some s'=>exact ZcU f a b s'
theorem ZvA:ΓE 16=Zgw:=rfl
theorem ZiJ(names:List (List Nat))(a b:D):Zbh ΓE (ZaJ names) Zdi a b=Zgw [ZaJ names,a,b]:=by
 unfold Zbh Zdi
 exact Zbe (ds:=[ZaJ names,a,b]) rfl (congrFun ZvA _)
theorem fwd{names:List (List Nat)}(nk:Zbr names){T:List Tok}{d:Nat}(h:WfE T d):T.length<=500->∃S,Zqe S∧Zh5 S=T∧S.length=d∧d<=T.length∧ZbO (Zbh ΓE (ZaJ names) Zdi) (T.map ZeS) (.list [])=some (Zax names (S.map (·.2))):=by
 induction h with
 | nil=>intro _;exact⟨[],(λs hs=>by cases hs),rfl,rfl,Nat.le_refl _,rfl⟩
 | @nm T d p h hp ih=>
  intro hl
  simp at hl
  obtain⟨S,h1,h2,h3,h4,h5⟩:=ih (by lia)
  refine⟨S++[([.nm p],λn=>Zen (Zar p) n)],?_,?_,by simp[h3],by simp;lia,?_⟩
  ·intro s hs
   rcases List.mem_append.mp hs with hs | hs
   ·exact h1 s hs
   ·simp at hs;subst hs;exact .nm hp
  ·unfold Zh5 at h2 ⊢;simp[h2]
  ·erw[rwl (List.map_append ..) (rwl (ZcU ..) (rwl (h5 ..) ?_))]
   show((Zbh ΓE (ZaJ names) Zdi (Zax names (S.map (·.2))) (ZeS (.nm p))).bind (ZbO _ []))=_
   rw[ZiJ,Zoi nk hp (by simp;lia),List.map_append]
   rfl
 | @nt T d h hp ih=>
  intro hl
  simp at hl
  obtain⟨S,h1,h2,h3,h4,h5⟩:=ih (by lia)
  obtain⟨S',s,rfl⟩:∃S' s,S=S'++[s]:=by
   rcases List.eq_nil_or_concat S with h | ⟨a,b,h⟩
   ·rw[h] at h3;simp at h3;lia
   ·exact⟨a,b,by erw[rwl (h ..) ?_];simp⟩
  refine⟨S'++[(s.1++[.nt],λn=>!s.2 n)],?_,?_,by simpa using h3,by simp;lia,?_⟩
  ·intro v hv
   rcases List.mem_append.mp hv with hv | hv
   ·exact h1 v (by simp[hv])
   ·simp at hv;subst hv;exact .nt (h1 s (by simp))
  ·unfold Zh5 at h2 ⊢;simp[←h2]
  ·erw[rwl (List.map_append ..) (rwl (ZcU ..) (rwl (h5 ..) ?_))]
   show((Zbh ΓE (ZaJ names) Zdi (Zax names ((S'++[s]).map (·.2))) (ZeS .nt)).bind (ZbO _ []))=_
   erw[rwl (ZiJ ..) (rwl (List.map_append ..) ?_)]
   show((Zgw [ZaJ names,Zax names (S'.map (·.2)++[s.2]),ZeS .nt]).bind _)=_
   rw[Zn8 nk (by simp at h3 ⊢;lia),List.map_append]
   rfl
 | @op T d o h hp ih=>
  intro hl
  simp at hl
  obtain⟨S,h1,h2,h3,h4,h5⟩:=ih (by lia)
  obtain⟨S',s,s',rfl⟩:∃S' s s',S=S'++[s,s']:=by
   rcases List.eq_nil_or_concat S with h | ⟨a,b,h⟩
   ·rw[h] at h3;simp at h3;lia
   ·rcases List.eq_nil_or_concat a with h' | ⟨a',b',h'⟩
    ·rw[h,h'] at h3;simp at h3;lia
    ·exact⟨a',b',b,by erw[rwl (h ..) (rwl (h' ..) ?_)];simp⟩
  refine⟨S'++[(s.1++s'.1++[.op o],opF o s.2 s'.2)],?_,?_,by simp at h3 ⊢;lia,by simp;lia,?_⟩
  ·intro v hv
   rcases List.mem_append.mp hv with hv | hv
   ·exact h1 v (by simp[hv])
   ·rw[List.mem_singleton] at hv;subst hv;exact .op o (h1 s (by simp)) (h1 s' (by simp))
  ·unfold Zh5 at h2 ⊢;simp[←h2]
  ·erw[rwl (List.map_append ..) (rwl (ZcU ..) (rwl (h5 ..) ?_))]
   show((Zbh ΓE (ZaJ names) Zdi (Zax names ((S'++[s,s']).map (·.2))) (ZeS (.op o))).bind (ZbO _ []))=_
   erw[rwl (ZiJ ..) (rwl (List.map_append ..) ?_)]
   show((Zgw [ZaJ names,Zax names (S'.map (·.2)++[s.2,s'.2]),ZeS (.op o)]).bind _)=_
   rw[Zn7 nk o (by simp at h3 ⊢;lia),List.map_append]
   rfl
theorem Zf0(names:List (List Nat))(st:List Pd):eqD (Zax names st) (Zax names st)=some true:=by
 cases st with
 | nil=>rfl
 | cons f st=>
  have hs:∀st:List Pd,Zew (st.map (Zbt names))=some (st.map λf=>names.filter f):=by
   intro st
   induction st with
   | nil=>rfl
   | cons f st ih=>
    show((strs? ((names.filter f).map D.str)).bind λx=>(Zew (st.map (Zbt names))).map (x::·))=_
    erw[rwl (strs_map ..) (rwl (ih ..) ?_)];rfl
  exact Zag (hs (f::st)) (Zag (hs (f::st)) (congrArg some (beq_self_eq_true _)))
end
section
set_option backward.match.sparseCases false
noncomputable def ZaZ(x y:Nat):List (List Nat):=[[],[x],[y],[x,x],[x,y],[y,x],[y,y],[x,x,x],[x,x,y],[x,y,x],[x,y,y],[y,x,x],[y,x,y],[y,y,x],[y,y,y]]
theorem Zoz(x y:Nat):Zbr (ZaZ x y):=⟨by simp[ZaZ],by simp[ZaZ],λn hn=>by
 simp only[ZaZ,List.mem_cons,List.not_mem_nil,or_false] at hn
 rcases hn with rfl | rfl | rfl | rfl | rfl | rfl | rfl | rfl | rfl | rfl | rfl | rfl | rfl | rfl | rfl<;>simp⟩
noncomputable def ZlF:S:=match Zev with
 | .seq _ (.seq (.fors _ _ b) _)=>b
 | _=>.skip
noncomputable def stN(x y:Nat)(ns:List (List Nat))(s3:Slot):Sg:=[.fz (.str [x]),.fz (.str [y]),.own (ns.map .str),s3]
theorem Zdt{x y k:Nat}{ns:List (List Nat)}{s:List Nat}{s3:Slot}(hs:ns[k]? = some s)(hk:k<=100)(hl:ns.length<=100)(hsl:s.length<=100):ex noΓ fuel ZlF ((stN x y ns s3).set 3 (.fz (.int (k:Int))))=some (.next,stN x y (ns++[s++[x],s++[y]]) (.fz (.int (k:Int)))):=by
 have ei:ev noΓ (stN x y ns (.fz (.int (k:Int)))) (.idx (.tvar 2) (.var 3))=some (.str s):=ZaK (p:=.list (ns.map .str)) (q:=.int (k:Int)) rfl rfl (ZaM (by erw[rwl (List.getElem?_map ..) (rwl (hs ..) ?_)];rfl) (by lia))
 have e1:ev noΓ (stN x y ns (.fz (.int (k:Int)))) (.bin .add (.idx (.tvar 2) (.var 3)) (.var 0))=some (.str (s++[x])):=ZaF ei (q:=.str [x]) rfl (Zcq (by simp;lia))
 have e2:ev noΓ (stN x y ns (.fz (.int (k:Int)))) (.bin .add (.idx (.tvar 2) (.var 3)) (.var 1))=some (.str (s++[y])):=ZaF ei (q:=.str [y]) rfl (Zcq (by simp;lia))
 refine Zaf ?_
 show ex noΓ fuel _ (stN x y ns (.fz (.int (k:Int))))=_
 have eL:evL noΓ (stN x y ns (.fz (.int (k:Int)))) (.cons (.bin .add (.idx (.tvar 2) (.var 3)) (.var 0)) (.cons (.bin .add (.idx (.tvar 2) (.var 3)) (.var 1)) .nil))=some [.str (s++[x]),.str (s++[y])]:=by
  exact ZaP e1 (Zcc e2)
 show(some (ns.map D.str)).bind _=_
 refine Zag rfl (Zag eL ((if_pos (by simp;lia)).trans ?_))
 show some (Fl.next,[Slot.fz (.str [x]),.fz (.str [y]),.own (ns.map D.str++[.str (s++[x]),.str (s++[y])]),.fz (.int (k:Int))])=some (Fl.next,[Slot.fz (.str [x]),.fz (.str [y]),.own ((ns++[s++[x],s++[y]]).map .str),.fz (.int (k:Int))])
 erw[rwl (List.map_append ..) ?_];rfl
theorem Zm7(x y:Nat):Zn9 [.str [x],.str [y]]=some (ZaJ (ZaZ x y)):=by
 have h:forL 3 (ex noΓ fuel ZlF) ((List.range 7).map λ(i:Nat)=>D.int (i:Int)) (stN x y [[]] .un)=some (.next,stN x y (ZaZ x y) (.fz (.int ((6:Nat):Int)))):=by
  show forL 3 (ex noΓ fuel ZlF) [.int ((0:Nat):Int),.int ((1:Nat):Int),.int ((2:Nat):Int),.int ((3:Nat):Int),.int ((4:Nat):Int),.int ((5:Nat):Int),.int ((6:Nat):Int)] _=_
  refine Zj8 (Zdt (s:=[]) rfl (by decide) (by simp) (by simp)) ?_
  refine Zj8 (Zdt (s:=[x]) rfl (by decide) (by simp) (by simp)) ?_
  refine Zj8 (Zdt (s:=[y]) rfl (by decide) (by simp) (by simp)) ?_
  refine Zj8 (Zdt (s:=[x,x]) rfl (by decide) (by simp) (by simp)) ?_
  refine Zj8 (Zdt (s:=[x,y]) rfl (by decide) (by simp) (by simp)) ?_
  refine Zj8 (Zdt (s:=[y,x]) rfl (by decide) (by simp) (by simp)) ?_
  refine Zj8 (Zdt (s:=[y,y]) rfl (by decide) (by simp) (by simp)) ?_
  rfl
 exact Zbb rfl ⟨_,Zaa (σ':=stN x y [[]] .un) rfl (Zaa (ZfB (Zck (n:=7) rfl (by decide)) (by simp) h) (Za7 (ZbB rfl)))⟩
theorem Znn(z:Int):∃c,ZnA [.int z]=some (.str [c]):=by
 have h1:0<=z % 1112064:=Int.emod_nonneg _ (by decide)
 have h2:z % 1112064 < 1112064:=Int.emod_lt_of_pos _ (by decide)
 have e1:ex noΓ fuel (.asg 1 (.bin .mod (.var 0) (.const (.int 1112064)))) (Ze3 2 [.int z])=some (.next,[.fz (.int z),.fz (.int (z % 1112064))]):=Zav (ZaF (p:=.int z) (q:=.int 1112064) rfl rfl rfl)
 have hb:∀w:Int,0<=w->w < 1114112->bfn .chr (.int w)=some (.str [w.toNat]):=λw a b=>if_pos ⟨a,b⟩
 by_cases h:z % 1112064 < 55296
 ·have ht:tv noΓ (frz [.fz (.int z),.fz (.int (z % 1112064))]) (.tcmp .lt (.var 1) (.const (.int 55296)))=some true:=(lt_int (a:=z % 1112064) (b:=55296) rfl rfl).trans (by erw[rwl (decide_eq_true h ..) ?_])
  exact⟨(z % 1112064).toNat,Zbb rfl ⟨_,Zaa e1 (Za7 (ZbB (Zdo (Zfo ht rfl) (hb _ h1 (by lia)))))⟩⟩
 ·have ht:tv noΓ (frz [.fz (.int z),.fz (.int (z % 1112064))]) (.tcmp .lt (.var 1) (.const (.int 55296)))=some false:=(lt_int (a:=z % 1112064) (b:=55296) rfl rfl).trans (by erw[rwl (decide_eq_false h ..) ?_])
  exact⟨(z % 1112064+2048).toNat,Zbb rfl ⟨_,Zaa e1 (Za7 (ZbB (Zdo (ZgM ht (ZaF (p:=.int (z % 1112064)) (q:=.int 2048) rfl rfl rfl)) (hb _ (by lia) (by lia)))))⟩⟩
noncomputable def ZaT(x y w:Nat):List (List Nat):=[[],[42],[63],[x],[y],[91],[93],[91,33],[45],[33],[y,45,x],[x,45,y],[91,x],[94],[92],[w]]
theorem ZvH:ΓA 13=ZnA:=rfl
noncomputable def ZoN(ps:List (List Nat))(z:Int):D->D
 | .int k=>.str (ps.getD (z / 16 ^ k.toNat % 16).toNat [])
 | _=>.none
theorem Znx(z:Int)(x y:Nat):∃p:List Nat,p.length<=40∧Znc [.int z,.str [x],.str [y]]=some (.str p):=by
 obtain⟨w,hw⟩:=Znn (z / 65536)
 have e13:ev ΓA (Ze3 5 [.int z,.str [x],.str [y]]) (.call 13 (.cons (.bin .fdiv (.var 0) (.bin .pow (.const (.int 16)) (.const (.int 4)))) .nil))=some (.str [w]):=by
  refine Zbe (ds:=[.int (z / 65536)]) ?_ ((congrFun ZvH _).trans hw)
  have:ev ΓA (Ze3 5 [.int z,.str [x],.str [y]]) (.bin .fdiv (.var 0) (.bin .pow (.const (.int 16)) (.const (.int 4))))=some (.int (z / 65536)):=ZaF (p:=.int z) (q:=.int 65536) rfl rfl rfl
  exact Zcc this
 have ep:ev ΓA (Ze3 5 [.int z,.str [x],.str [y]]) (.list (.cons (.const (.str [])) (.cons (.const (.str [42])) (.cons (.const (.str [63])) (.cons (.var 1) (.cons (.var 2) (.cons (.const (.str [91])) (.cons (.const (.str [93])) (.cons (.const (.str [91,33])) (.cons (.const (.str [45])) (.cons (.const (.str [33])) (.cons (.bin .add (.bin .add (.var 2) (.const (.str [45]))) (.var 1)) (.cons (.bin .add (.bin .add (.var 1) (.const (.str [45]))) (.var 2)) (.cons (.bin .add (.const (.str [91])) (.var 1)) (.cons (.const (.str [94])) (.cons (.const (.str [92])) (.cons (.call 13 (.cons (.bin .fdiv (.var 0) (.bin .pow (.const (.int 16)) (.const (.int 4)))) .nil)) .nil)))))))))))))))))=some (.list ((ZaT x y w).map .str)):=by
  exact ZnJ (ZaP rfl (ZaP rfl (ZaP rfl (ZaP rfl (ZaP rfl (ZaP rfl (ZaP rfl (ZaP rfl (ZaP rfl (ZaP rfl (ZaP rfl (ZaP rfl (ZaP rfl (ZaP rfl (ZaP rfl (Zcc e13)))))))))))))))) (Nat.le_of_ble_eq_true rfl)
 have hps:∀i,((ZaT x y w).getD i []).length<=3:=λi=>by
  have:∀l∈ZaT x y w,l.length<=3:=by
   intro l hl
   simp only[ZaT,List.mem_cons,List.not_mem_nil,or_false] at hl
   rcases hl with rfl | rfl | rfl | rfl | rfl | rfl | rfl | rfl | rfl | rfl | rfl | rfl | rfl | rfl | rfl | rfl<;>simp
  rw[List.getD_eq_getElem?_getD]
  cases h:(ZaT x y w)[i]? with
  | none=>simp
  | some l=>exact this l (List.mem_of_getElem? h)
 have hc:=Zf1 (Γ:=ΓA) (σ:=frz [.fz (.int z),.fz (.str [x]),.fz (.str [y]),.fz (.list ((ZaT x y w).map .str)),.un]) (fr:=[3,0]) (t:=4) (e:=.idx (.var 3) (.bin .mod (.bin .fdiv (.var 0) (.bin .pow (.const (.int 16)) (.var 4))) (.const (.int 16)))) (it:=.range1 (.const (.int 4))) (g:=ZoN (ZaT x y w) z)
  (Zck (n:=4) rfl (by lia)) (by simp) (λd hd=>by
   obtain⟨k,hk,rfl⟩:=List.mem_map.mp hd
   have hk:k < 4:=List.mem_range.mp hk
   have h1:0<=z / 16 ^ k % 16:=Int.emod_nonneg _ (by decide)
   have h2:z / 16 ^ k % 16 < 16:=Int.emod_lt_of_pos _ (by decide)
   have hpw:bop .pow (.int 16) (.int (k:Int))=some (.int (16 ^ k)):=if_pos ⟨by lia,by lia,by decide,by decide⟩
   have hdv:bop .fdiv (.int z) (.int (16 ^ k))=some (.int (z / 16 ^ k)):=by
    refine if_pos ?_
    have:k=0∨k=1∨k=2∨k=3:=by lia
    rcases this with rfl | rfl | rfl | rfl<;>decide
   have hm:bop .mod (.int (z / 16 ^ k)) (.int 16)=some (.int (z / 16 ^ k % 16)):=rfl
   have ei:=ZaF (Γ:=ΓA) (σ:=(mask [3,0] (frz [.fz (.int z),.fz (.str [x]),.fz (.str [y]),.fz (.list ((ZaT x y w).map .str)),.un])).set 4 (.fz (.int (k:Int)))) (r:=.const (.int 16)) (ZaF (l:=.var 0) (p:=.int z) rfl (ZaF (l:=.const (.int 16)) (r:=.var 4) (p:=.int 16) (q:=.int (k:Int)) rfl rfl hpw) hdv) rfl hm
   have en:(z / 16 ^ k % 16)=(((z / 16 ^ k % 16).toNat:Nat):Int):=by lia
   rw[en] at ei
   refine ZaK (p:=.list ((ZaT x y w).map .str)) rfl ei (ZaM ?_ (by lia))
   have hlt:(z / 16 ^ k % 16).toNat < (ZaT x y w).length:=by show _ < 16;lia
   rw[List.getElem?_map,List.getElem?_eq_getElem hlt]
   show _=some (D.str ((ZaT x y w).getD (z / 16 ^ k % 16).toNat []))
   rw[List.getD_eq_getElem?_getD,List.getElem?_eq_getElem hlt]
   rfl)
 have hg:((List.range 4).map λ(i:Nat)=>D.int (i:Int)).map (ZoN (ZaT x y w) z)=((List.range 4).map λ(i:Nat)=>(ZaT x y w).getD (z / 16 ^ i % 16).toNat []).map D.str:=by
  rw[List.map_map,List.map_map];rfl
 rw[hg] at hc
 have hflat:(((List.range 4).map λ(i:Nat)=>(ZaT x y w).getD (z / 16 ^ i % 16).toNat []).flatten).length<=12:=by
  have h0:=hps (z / 16 ^ 0 % 16).toNat
  have h1:=hps (z / 16 ^ 1 % 16).toNat
  have h2:=hps (z / 16 ^ 2 % 16).toNat
  have h3:=hps (z / 16 ^ 3 % 16).toNat
  show(((ZaT x y w).getD (z / 16 ^ 0 % 16).toNat []++((ZaT x y w).getD (z / 16 ^ 1 % 16).toNat []++((ZaT x y w).getD (z / 16 ^ 2 % 16).toNat []++((ZaT x y w).getD (z / 16 ^ 3 % 16).toNat []++[]))))).length<=12
  simp only[List.length_append,List.length_nil]
  exact Nat.add_le_add h0 (Nat.add_le_add h1 (Nat.add_le_add h2 (Nat.add_le_add h3 (Nat.le_refl 0))))
 refine⟨_,by lia,Zbb rfl ⟨_,Zaa (σ':=[.fz (.int z),.fz (.str [x]),.fz (.str [y]),.fz (.list ((ZaT x y w).map .str)),.un]) (Zav ep) (Za7 (ZbB (Zmw hc (by simp) (by lia))))⟩⟩
end
section
theorem ZvV:ΓE 14=Zn9:=rfl
theorem ZvT:ΓE 15=Znc:=rfl
theorem Zvg:ΓE 18=ZoC:=rfl
theorem gE6:ΓE 6=ZtQ:=rfl
noncomputable def ZoM:S:=match Zg0 with
 | .seq _ (.seq _ (.seq _ (.seq _ (.seq _ (.seq _ (.seq _ (.seq (.fors _ _ b) _)))))))=>b
 | _=>.skip
noncomputable def stL(l ns:List Int)(x y:Nat)(T:List Tok)(d:Nat)(s8 s9 s10:Slot):Sg:=
 [.fz (.list (l.map .int)),.fz (.list (ns.map .int)),.fz (.int ns.sum),.fz (.str [x]),.fz (.str [y]),.fz (ZaJ (ZaZ x y)),.own (T.map ZeS),.fz (.int (d:Int)),s8,s9,s10,.un,.un,.un]
noncomputable def ZhQ:List D:=[.str [110,97,109,101],.str [110,97,109,101],.str [110,97,109,101],.str [110,97,109,101],.str [110,111,116],.str [97,110,100],.str [111,114],.str [108,101,115,115]]
theorem ZnQ{r:Nat}(h:r < 8):ZhQ[r]? = some (.str [110,97,109,101])∨ZhQ[r]? = some (.str [110,111,116])∨∃o:Op,ZhQ[r]? = some (.str (wordOf (.op o))):=by
 rcases(by decide:∀r < 8,r=0∨r=1∨r=2∨r=3∨r=4∨r=5∨r=6∨r=7) r h with rfl | rfl | rfl | rfl | rfl | rfl | rfl | rfl
 ·exact .inl rfl
 ·exact .inl rfl
 ·exact .inl rfl
 ·exact .inl rfl
 ·exact .inr (.inl rfl)
 ·exact .inr (.inr ⟨.an,rfl⟩)
 ·exact .inr (.inr ⟨.orr,rfl⟩)
 ·exact .inr (.inr ⟨.ls,rfl⟩)
section
variable {l ns:List Int}{x y:Nat}{s8 s9 s10:Slot}
theorem ZiA{T:List Tok}{d:Nat}{t:Tok}{e:X}(h:ev ΓE (stL l ns x y T d s8 s9 s10) e=some (ZeS t))(hl:T.length<=1000):ex ΓE fuel (.app 6 e) (stL l ns x y T d s8 s9 s10)=some (.next,stL l ns x y (T++[t]) d s8 s9 s10):=by
 rw[Zef (ds:=T.map ZeS) rfl h (by simp;lia)]
 simp[stL]
theorem Zrj{T:List Tok}{d:Nat}(z:Int)(hT:WfE T d)(hd:1<=d)(hl:T.length<=100) :
  ∃T' d' t8 t9,WfE T' d'∧1<=d'∧T'.length<=T.length+1∧T.length<=T'.length∧ex ΓE fuel ZoM ((stL l ns x y T d s8 s9 s10).set 8 (.fz (.int z)))=some (.next,stL l ns x y T' d' t8 t9 s10):=by
 have h1:0<=z % 8:=Int.emod_nonneg _ (by decide)
 have h2:z % 8 < 8:=Int.emod_lt_of_pos _ (by decide)
 have en:z % 8=(((z % 8).toNat:Nat):Int):=by lia
 have ei:∀w,ZhQ[(z % 8).toNat]? = some (.str w)->ex ΓE fuel (.asg 9 (.idx (.list (.cons (.const (.str [110,97,109,101])) (.cons (.const (.str [110,97,109,101])) (.cons (.const (.str [110,97,109,101])) (.cons (.const (.str [110,97,109,101])) (.cons (.const (.str [110,111,116])) (.cons (.const (.str [97,110,100])) (.cons (.const (.str [111,114])) (.cons (.const (.str [108,101,115,115])) .nil))))))))) (.bin .mod (.var 8) (.const (.int 8))))) (stL l ns x y T d (.fz (.int z)) s9 s10)=some (.next,stL l ns x y T d (.fz (.int z)) (.fz (.str w)) s10):=λw hw=>by
  refine Zav (ZaK (p:=.list ZhQ) (q:=.int (z % 8)) rfl (ZaF (p:=.int z) (q:=.int 8) rfl rfl rfl) ?_)
  erw[rwl (en ..) ?_]
  exact ZaM hw (by lia)
 rcases ZnQ (r:=(z % 8).toNat) (by lia) with h | h | ⟨o,h⟩
 ·obtain⟨p,hp,h15⟩:=Znx (z / 8) x y
  have ec:ev ΓE (stL l ns x y T d (.fz (.int z)) (.fz (.str [110,97,109,101])) s10) (.call 15 (.cons (.bin .fdiv (.var 8) (.const (.int 8))) (.cons (.var 3) (.cons (.var 4) .nil))))=some (.str p):=
   Zbe (ds:=[.int (z / 8),.str [x],.str [y]]) rfl ((congrFun ZvT _).trans h15)
  refine⟨T++[.nm p],d+1,_,_,.nm hT hp,by lia,by simp,by simp,Zaa (ei _ h) (Zaf (x_t (Zaj rfl rfl rfl) (Zaa (ZiA (t:=.nm p) ?_ (by lia)) (Zaf (ZcT (p:=.int (d:Int)) (q:=.int 1) rfl rfl rfl)))))⟩
  exact ZiS (ds:=[.str [110,97,109,101],.str p]) (ZaP rfl (Zcc ec)) (Nat.le_of_ble_eq_true rfl)
 ·exact⟨T++[.nt],d,_,_,.nt hT hd,hd,by simp,by simp,Zaa (ei _ h) (Zaf (x_f (Zaj rfl rfl rfl) (Zaf (x_t (Zaj rfl rfl rfl) (Zaf (ZiA (t:=.nt) rfl (by lia)))))))⟩
 ·have n1:tv ΓE (stL l ns x y T d (.fz (.int z)) (.fz (.str (wordOf (.op o)))) s10) (.tcmp .eq (.var 9) (.const (.str [110,97,109,101])))=some false:=by cases o<;>exact Zaj rfl rfl rfl
  have n2:tv ΓE (stL l ns x y T d (.fz (.int z)) (.fz (.str (wordOf (.op o)))) s10) (.tcmp .eq (.var 9) (.const (.str [110,111,116])))=some false:=by cases o<;>exact Zaj rfl rfl rfl
  have n3:=gt_int (Γ:=ΓE) (σ:=stL l ns x y T d (.fz (.int z)) (.fz (.str (wordOf (.op o)))) s10) (x:=.var 7) (y:=.const (.int 1)) (a:=(d:Int)) (b:=1) rfl rfl
  by_cases hd2:2<=d
  ·rw[decide_eq_true (by lia)] at n3
   refine⟨T++[.op o],d - 1,_,_,.op o hT hd2,by lia,by simp,by simp,Zaa (ei _ h) (Zaf (x_f n1 (Zaf (x_f n2 (Zaf (x_t n3 (Zaa (ZiA (t:=.op o) rfl (by lia)) (Zaf (ZcT (p:=.int (d:Int)) (q:=.int 1) (d:=.int ((d - 1:Nat):Int)) rfl rfl ?_)))))))))⟩
   show some (D.int ((d:Int) - 1))=_
   congr 2
   lia
  ·rw[decide_eq_false (by lia)] at n3
   exact⟨T,d,_,_,hT,hd,by lia,Nat.le_refl _,Zaa (ei _ h) (Zaf (x_f n1 (Zaf (x_f n2 (Zaf (x_f n3 rfl))))))⟩
theorem Zk4:∀(zs:List Int) (T:List Tok) (d:Nat) (s8 s9:Slot),WfE T d->1<=d->T.length+zs.length<=12->2<=T.length->
  ∃T' d' t8 t9,WfE T' d'∧T'.length<=12∧2<=T'.length∧forL 8 (ex ΓE fuel ZoM) (zs.map .int) (stL l ns x y T d s8 s9 s10)=some (.next,stL l ns x y T' d' t8 t9 s10)
 | [],T,d,s8,s9,hT,_,hl,h2=>⟨T,d,s8,s9,hT,by simpa using hl,h2,rfl⟩
 | z::zs,T,d,s8,s9,hT,hd,hl,h2=>by
  simp at hl
  obtain⟨T1,d1,t8,t9,w1,w2,w3,w4,hb⟩:=Zrj (l:=l) (ns:=ns) (x:=x) (y:=y) (s8:=s8) (s9:=s9) (s10:=s10) z hT hd (by lia)
  obtain⟨T',d',u8,u9,v1,v2,v3,v4⟩:=Zk4 zs T1 d1 t8 t9 w1 w2 (by lia) (by lia)
  exact⟨T',d',u8,u9,v1,v2,v3,Zj8 hb v4⟩
theorem ints_map:∀ns:List Int,ZhP (ns.map D.int)=some ns
 | []=>rfl
 | a::r=>by erw[rwl (List.map_cons ..) (rwl (ZvD ..) (rwl (ints_map r ..) ?_))];rfl
theorem Zsg{Γ:ZaC}{σ:Sg}{s:List Nat}{e:X}{m:Int}(hs:s.length=8)(h:ev Γ σ e=some (.int (m % 8))):∃c,ev Γ σ (.idx (.const (.str s)) e)=some (.str [c]):=by
 have h1:0<=m % 8:=Int.emod_nonneg _ (by decide)
 have h2:m % 8 < 8:=Int.emod_lt_of_pos _ (by decide)
 have en:m % 8=(((m % 8).toNat:Nat):Int):=by lia
 have hlt:(m % 8).toNat < s.length:=by lia
 rw[en] at h
 exact⟨s[(m % 8).toNat],ZaK (p:=.str s) rfl h (ZaW (List.getElem?_eq_getElem hlt) (by lia))⟩
theorem Zqf(l:List Int)(hl:l.length<=63):∃(x y:Nat) (T:List Tok) (d c:Nat) (t7 t8 t9:Slot),WfE T d∧T.length<=12∧c<=T.length∧
  ex ΓE fuel Zg0 (Ze3 14 [.list (l.map .int)])=some (.next,[.fz (.list (l.map .int)),.fz (.list ((l.take 8).map .int)),.fz (.int (l.take 8).sum),.fz (.str [x]),.fz (.str [y]),.fz (ZaJ (ZaZ x y)),.own (T.map ZeS),t7,t8,t9,.fz (.int (c:Int)),.un,.un,.un]):=by
 have hn:(l.take 8).length<=8:=by simp;lia
 generalize hns:l.take 8=ns at *
 obtain⟨x,hx⟩:=Zsg (Γ:=ΓE) (σ:=[.fz (.list (l.map .int)),.fz (.list (ns.map .int)),.fz (.int ns.sum),.un,.un,.un,.un,.un,.un,.un,.un,.un,.un,.un]) (s:=[97,45,33,93,94,92,91,42]) (e:=.bin .mod (.var 2) (.const (.int 8))) (m:=ns.sum) rfl (ZaF (p:=.int ns.sum) (q:=.int 8) rfl rfl rfl)
 obtain⟨y,hy⟩:=Zsg (Γ:=ΓE) (σ:=[.fz (.list (l.map .int)),.fz (.list (ns.map .int)),.fz (.int ns.sum),.fz (.str [x]),.un,.un,.un,.un,.un,.un,.un,.un,.un,.un]) (s:=[98,46,38,63,126,124,35,10]) (e:=.bin .mod (.bin .fdiv (.var 2) (.const (.int 8))) (.const (.int 8))) (m:=ns.sum / 8) rfl (ZaF (p:=.int (ns.sum / 8)) (q:=.int 8) (ZaF (p:=.int ns.sum) (q:=.int 8) rfl rfl rfl) rfl rfl)
 have w2:WfE [.nm [42,x],.nm [91,33,x,93,42]] 2:=.nm (T:=[.nm [42,x]]) (.nm (T:=[]) .nil (by simp)) (by simp)
 obtain⟨T,d,t8,t9,hw,hT,hT2,hloop⟩:=Zk4 (l:=l) (ns:=ns) (x:=x) (y:=y) (s10:=.un) ns [.nm [42,x],.nm [91,33,x,93,42]] 2 .un .un w2 (by decide) (by simp;lia) (by simp)
 have hm1:0<=(ns.sum / 64+(ns.length:Int)) % ((T.length:Int)+1):=Int.emod_nonneg _ (by lia)
 have hm2:(ns.sum / 64+(ns.length:Int)) % ((T.length:Int)+1) < (T.length:Int)+1:=Int.emod_lt_of_pos _ (by lia)
 refine⟨x,y,T,d,((ns.sum / 64+(ns.length:Int)) % ((T.length:Int)+1)).toNat,.fz (.int (d:Int)),t8,t9,hw,hT,by lia,?_⟩
 refine Zaa (σ':=[.fz (.list (l.map .int)),.fz (.list (ns.map .int)),.un,.un,.un,.un,.un,.un,.un,.un,.un,.un,.un,.un]) (Zav (Zcu (p:=.list (l.map .int)) (q:=.none) (r:=.int 8) rfl rfl rfl ?_)) ?_
 ·show some (D.list (slice (l.map D.int) none (some ((8:Nat):Int))))=_
  erw[rwl (ZdZ ..) (rwr (List.map_take ..) (rwl (hns ..) ?_))]
 refine Zaa (σ':=[.fz (.list (l.map .int)),.fz (.list (ns.map .int)),.fz (.int ns.sum),.un,.un,.un,.un,.un,.un,.un,.un,.un,.un,.un]) (Zav (Zdo rfl ?_)) ?_
 ·show(ZhP (ns.map D.int)).map (λx=>D.int x.sum)=_
  erw[rwl (ints_map ..) ?_];rfl
 refine Zaa (Zav hx) (Zaa (Zav hy) ?_)
 refine Zaa (σ':=[.fz (.list (l.map .int)),.fz (.list (ns.map .int)),.fz (.int ns.sum),.fz (.str [x]),.fz (.str [y]),.fz (ZaJ (ZaZ x y)),.un,.un,.un,.un,.un,.un,.un,.un]) (Zav (Zbe (ds:=[.str [x],.str [y]]) rfl ((congrFun ZvV _).trans (Zm7 x y)))) ?_
 refine Zaa (σ':=[.fz (.list (l.map .int)),.fz (.list (ns.map .int)),.fz (.int ns.sum),.fz (.str [x]),.fz (.str [y]),.fz (ZaJ (ZaZ x y)),.own (([.nm [42,x],.nm [91,33,x,93,42]]:List Tok).map ZeS),.un,.un,.un,.un,.un,.un,.un]) rfl ?_
 refine Zaa (σ':=stL l ns x y [.nm [42,x],.nm [91,33,x,93,42]] 2 .un .un .un) rfl ?_
 refine Zaa (ZfB (ds:=ns.map .int) rfl (by simp;lia) hloop) ?_
 have el1:ev ΓE (stL l ns x y T d t8 t9 .un) (.bfn .len (.var 1))=some (.int (ns.length:Int)):=Zdo rfl (by show some (D.int ((ns.map D.int).length:Int))=_;erw[rwl (List.length_map ..) ?_])
 have el6:ev ΓE (stL l ns x y T d t8 t9 .un) (.bfn .len (.tvar 6))=some (.int (T.length:Int)):=Zdo rfl (by show some (D.int ((T.map ZeS).length:Int))=_;erw[rwl (List.length_map ..) ?_])
 have em:bop .mod (.int (ns.sum / 64+(ns.length:Int))) (.int ((T.length:Int)+1))=some (.int ((ns.sum / 64+(ns.length:Int)) % ((T.length:Int)+1))):=if_pos (by lia)
 have ef:ev ΓE (stL l ns x y T d t8 t9 .un) (.bin .fdiv (.var 2) (.const (.int 64)))=some (.int (ns.sum / 64)):=ZaF (p:=.int ns.sum) (q:=.int 64) rfl rfl rfl
 have ea:ev ΓE (stL l ns x y T d t8 t9 .un) (.bin .add (.bin .fdiv (.var 2) (.const (.int 64))) (.bfn .len (.var 1)))=some (.int (ns.sum / 64+(ns.length:Int))):=ZaF ef el1 rfl
 have eb:ev ΓE (stL l ns x y T d t8 t9 .un) (.bin .add (.bfn .len (.tvar 6)) (.const (.int 1)))=some (.int ((T.length:Int)+1)):=ZaF (q:=.int 1) el6 rfl rfl
 have e10:=ZaF ea eb em
 have en:(ns.sum / 64+(ns.length:Int)) % ((T.length:Int)+1)=((((ns.sum / 64+(ns.length:Int)) % ((T.length:Int)+1)).toNat:Nat):Int):=by lia
 rw[en] at e10
 exact Zaf (Zav e10)
end
theorem ZrL(t:Tok)(ht:(Zdc t).length<=40):ZeK (λa b=>ev ΓE [.fz a,.fz b] Zfm) (ZeS t)=some (some (ZeA t)):=by
 have e6:ev ΓE [.fz (.str (wordOf t)),.fz (.str (Zdc t))] (.call 6 (.cons (.var 1) .nil))=some (.list ((Zar (Zdc t)).map Zfv)):=Zbe (ds:=[.str (Zdc t)]) rfl ((congrFun gE6 _).trans (Zqa (by lia)))
 show(ev ΓE [.fz (.str (wordOf t)),.fz (.str (Zdc t))] Zfm).map some=_
 unfold Zfm
 exact ZgR (ZiS (ZaP rfl (Zcc e6)) (Nat.le_of_ble_eq_true rfl)) rfl
theorem Ztp{T:List Tok}{d:Nat}(h:WfE T d):∀t∈T,(Zdc t).length<=40:=by
 induction h with
 | nil=>intro t ht;cases ht
 | nm h hp ih=>
  intro t ht
  rcases List.mem_append.mp ht with ht | ht
  ·exact ih t ht
  ·rw[List.mem_singleton] at ht;subst ht;exact hp
 | nt h hp ih=>
  intro t ht
  rcases List.mem_append.mp ht with ht | ht
  ·exact ih t ht
  ·rw[List.mem_singleton] at ht;subst ht;exact Nat.zero_le _
 | op o h hp ih=>
  intro t ht
  rcases List.mem_append.mp ht with ht | ht
  ·exact ih t ht
  ·rw[List.mem_singleton] at ht;subst ht;exact Nat.zero_le _
theorem Zls:∀{T:List Tok},(∀t∈T,(Zdc t).length<=40)->ZbX (ZeK λa b=>ev ΓE [.fz a,.fz b] Zfm) (T.map ZeS)=some (T.map ZeA)
 | [],_=>rfl
 | t::T,h=>by
  erw[rwl (List.map_cons ..) (rwl (ZuW ..) (rwl (ZrL t (h t List.mem_cons_self) ..) (rwl (Zls λu hu=>h u (List.mem_cons_of_mem _ hu) ..) ?_)))]
  rfl
theorem law_sem(l:List Int)(hl:l.length<=63):Zo0 ΓE fuel 14 Zg0 Zdi Zfm Zlj Zl4 (.list (l.map .int)):=by
 obtain⟨x,y,T,d,c,t7,t8,t9,hw,hT,hc,hrun⟩:=Zqf l hl
 have nk:=Zoz x y
 obtain⟨S,s1,s2,s3,s4,s5⟩:=fwd nk hw (by lia)
 obtain⟨d1,hw1⟩:=ZpM hw c
 obtain⟨S1,u1,u2,u3,u4,u5⟩:=fwd nk hw1 (by simp;lia)
 have htl:(T.take c).length<=12:=by simp;lia
 have h18:=ZjR nk s1 s2 hT (by lia)
 have h18':=ZjR nk u1 u2 htl (by lia)
 have hsplit:ZbO (Zbh ΓE (ZaJ (ZaZ x y)) Zdi) ((T.drop c).map ZeS) (.list ((S1.map (·.2)).map (Zbt (ZaZ x y))))=some (Zax (ZaZ x y) (S.map (·.2))):=by
  have h:=s5
  rw[←List.take_append_drop c T,List.map_append,ZcU,u5] at h
  exact h
 refine⟨⟨_,ZaJ (ZaZ x y),T.map ZeS,T.map ZeA,(S1.map (·.2)).map (Zbt (ZaZ x y)),Zax (ZaZ x y) (S.map (·.2)),Zax (ZaZ x y) (S.map (·.2)),(c:Int),hrun,by simp,rfl,rfl,rfl,by simp;lia,Zls (Ztp hw),?_,?_,Zf0 _ _,λf=>⟨?_,?_⟩⟩⟩
 ·erw[rwl (ZdZ ..) (rwr (List.map_take ..) ?_)]
  exact u5
 ·erw[rwl (Zce ..) (rwr (List.map_drop ..) ?_)]
  exact hsplit
 ·have es:ev ΓE [.fz (.list (l.map .int)),.fz (.list ((l.take 8).map .int)),.fz (.int (l.take 8).sum),.fz (.str [x]),.fz (.str [y]),.fz (ZaJ (ZaZ x y)),.own (T.map ZeS),t7,t8,t9,.fz (.int (c:Int)),.fz (.obj f),.fz (.list (T.map ZeA)),.fz (.list ((S1.map (·.2)).map (Zbt (ZaZ x y))))] (.slc (.var 12) (.const .none) (.var 10))=some (.list ((T.take c).map ZeA)):=by
   refine Zcu (p:=.list (T.map ZeA)) (q:=.none) (r:=.int (c:Int)) rfl rfl rfl ?_
   show some (D.list (slice (T.map ZeA) none (some (c:Int))))=_
   erw[rwl (ZdZ ..) (rwl (List.map_take ..) ?_)]
  refine Zaj (p:=Zax (ZaZ x y) (S1.map (·.2))) (q:=Zax (ZaZ x y) (S1.map (·.2))) rfl (Zbe (ds:=[.list ((T.take c).map ZeA),ZaJ (ZaZ x y)]) ?_ ((congrFun Zvg _).trans h18')) ?_
  ·show evL ΓE [.fz (.list (l.map .int)),.fz (.list ((l.take 8).map .int)),.fz (.int (l.take 8).sum),.fz (.str [x]),.fz (.str [y]),.fz (ZaJ (ZaZ x y)),.own (T.map ZeS),t7,t8,t9,.fz (.int (c:Int)),.fz (.obj f),.fz (.list (T.map ZeA)),.fz (.list ((S1.map (·.2)).map (Zbt (ZaZ x y))))] (.cons (.slc (.var 12) (.const .none) (.var 10)) (.cons (.var 5) .nil))=_
   exact ZaP es (Zcc rfl)
  ·show(eqD _ _).map (!·)=_
   erw[rwl (Zf0 ..) ?_];rfl
 ·exact Zbe (ds:=[.list (T.map ZeA),ZaJ (ZaZ x y)]) rfl ((congrFun Zvg _).trans h18)
end
section
set_option backward.match.sparseCases false
set_option maxRecDepth 100000
noncomputable def Zbl(P:Heap)(a:Addr):Obj:=(P.get? a).getD { cls:=.none }
noncomputable def fdOf(o:Obj):FuncData:=match o.data with | .func fd=>fd | _=>default
noncomputable def ZcF(P:Heap)(a:Addr):FuncData:=fdOf (Zbl P a)
noncomputable def ZhH(ps:List Str)(p:Arguments):Bool:=match p with
 | ⟨[],as,none,[],[],none,[]⟩=>as.map (λ(x:Arg)=>x.arg)==ps
 | _=>false
noncomputable def Zq6:Data->Bool
 | .func _=>true
 | _=>false
noncomputable def isFn(o:Obj):Bool:=o.cls==.type "function" && (o.dict.isNone&&Zq6 o.data)
noncomputable def ZqR(q:Str):Option Value->Bool
 | some (.str y _)=>y==q
 | _=>false
noncomputable def Zue(q:Str):Data->Bool
 | .fields vs=>ZqR q vs[1]?
 | _=>false
noncomputable def Zvh(q:Str)(o:Obj):Bool:=o.cls==.type "code" && Zue q o.data
noncomputable def ZeG(a:Addr):Bool:=a==66||a==166
noncomputable def isR:Value->Addr->Bool
 | .ref c,a=>c==a
 | _,_=>false
noncomputable def ZtU:Value->Addr
 | .ref c=>c
 | _=>66
noncomputable def there(P:Heap)(a:Addr):Bool:=(P.get? a).isSome&&!ZeG a
noncomputable def ZtY(P:Heap)(fd:FuncData)(c:Addr):Bool:=there P c&&(fd.code==.ref c&&Zvh fd.qualname (Zbl P c))
noncomputable def Zs1(P:Heap)(a:Addr)(fd:FuncData):Bool:=
 there P a&&(isFn (Zbl P a)&&(ZtY P fd (ZtU fd.code)&&(fd.closure.isEmpty&&(fd.globals==mainGlobals&&(fd.builtins==builtinsNs&&(!fd.scope.isCoroutine&&(!fd.scope.isGenerator&&fd.scope.kind==.function)))))))
noncomputable def ZuZ(fd:FuncData)(ps:List Str):Bool:=
 ZhH ps fd.params&&(fd.defaults==.none&&(fd.kwdefaults==.none&&(ps.all (λp=>fd.scope.names.lookup p==some .local||fd.scope.names.lookup p==some .cell)&&decide ps.Nodup)))
noncomputable def ZsP(o:Obj):Array DictEntry:=match o.data with | .dict es _=>es | _=>#[]
noncomputable def esG(P:Heap):Array DictEntry:=ZsP (Zbl P 3)
noncomputable def esE(P:Heap):Array DictEntry:=ZsP (Zbl P 54)
noncomputable def keyOk:Value->Int->Bool
 | .int k _,h=>h==hashInt k&&(decide (0<=k)&&specials.contains k.toNat)
 | _,_=>false
noncomputable def Zr1(c:Nat):Option Value->Bool
 | some (.str s _)=>s==⟨[92,c].toArray⟩
 | _=>false
noncomputable def Zmt:Data->Bool
 | .dict _ _=>true
 | _=>false
noncomputable def Ztl(a:Addr):Option Value->Bool
 | some v=>isR v a
 | none=>false
noncomputable def xsT:List (Pos×Str):=[(⟨76,37,0,0⟩,"_translate.<locals>.<genexpr>"),(⟨77,39,0,0⟩,"_translate.<locals>.<lambda>")]
noncomputable def xsL:List (Pos×Str):=[(⟨302,11,0,0⟩,"law.<locals>.<lambda>")]
noncomputable def pwS(i:Nat):Stmt:=(PySem.Challenge.pw_rx0098_01.main.body[i]?).getD (.Pass default)
noncomputable def Ztv:Stmt->List Stmt
 | .FunctionDef _ _ b _ _ _ _ _ _ _=>b
 | _=>[]
noncomputable def Zpo(s0:Scope):Stmt->Scope
 | .FunctionDef _ _ _ _ _ _ s _ _ _=>s
 | _=>s0
noncomputable def fnS(f:Nat):Stmt:=pwS (([3,6,9,11,12]:List Nat).getD f (f+9))
noncomputable def Zkb(f:Nat):List Stmt:=Ztv (fnS f)
noncomputable def scN(f:Nat):Scope:=Zpo PySem.Challenge.pw_rx0098_01.main.scope (fnS f)
noncomputable def psN(f:Nat):List Str:=([[],["pat"],["pattern"],["pat","STAR","QUESTION_MARK"],["inp","STAR"],["body"],["pattern"],["item","sign"],["items","name"],["sign"],["text","at"],["text"],["runs","name"],["number"],["x","y"],
 ["number","x","y"],["names","stack","token"],["tokens","end","name"],["tokens","names"],["script"]]:List (List Str)).getD f []
noncomputable def Zrc:List Str:=["function","sequence","initial"]
noncomputable def ZlP(p:Arguments):Bool:=match p with
 | ⟨[],as,none,[],[],none,_⟩=>as.map (λ(x:Arg)=>x.arg)==Zrc
 | _=>false
noncomputable def biN:List Str:=["len","chr","sum","list","range","iter","object","str","isinstance"]
noncomputable def Zur(P:Heap):List Bool:=[
 (List.range 20).all λf=>Zs1 P (faN f) (ZcF P (faN f)),
 (List.range 20).all λf=>Ztl (faN f) (nsFind (esG P) (fnN f)),
 (List.range 19).all λf=>ZuZ (ZcF P (faN (f+1))) (psN (f+1)),
 Ztl 45 (nsFind (esG P) "_twin_re_1"),Ztl 54 (nsFind (esG P) "_special_chars_map"),Ztl 32 (nsFind (esG P) "_initial_missing"),
 biN.all λn=>(nsFind (esG P) n).isNone,
 codeHdIn [(70,Zbl P 70)] 70 66,codeHdIn [(168,Zbl P 168)] 168 166,
 ([3,32,33,44,45,54,70,168]:List Nat).all λa=>there P a,
 (esE P).toList.all λe=>keyOk e.key e.hash,
 specials.all λc=>Zr1 c (findBy Value.isInt (esE P) (c:Int)),
 Zmt (Zbl P 54).data&&((Zbl P 54).cls==.type "dict" && ((Zbl P 54).dict.isNone&&(Zbl P 54).slots.isEmpty)),
 ZlP (ZcF P (faN 0)).params,(ZcF P (faN 0)).defaults==.ref 33,(ZcF P (faN 0)).kwdefaults==.none,(Zbl P 32).cls==.type "object",
 (ZcF P (faN 3)).code==.ref 70,(ZcF P (faN 19)).code==.ref 168,(ZcF P (faN 3)).qualname==("_translate" : Str),(ZcF P (faN 19)).qualname==("law" : Str)]
noncomputable def Zvj:Obj:={ cls:=.type "re.Pattern",data:=.fields #[.str (Str.ofString "([&~|])") 300,.int 32 335,.int 1 0,.none,.none,.ref 44,.int 0 0] }
noncomputable def obs(P:Heap):List Bool×List (FuncBody×Scope)×List Obj×List (Option Obj):=
 (Zur P,(List.range 20).map (λf=>((ZcF P (faN f)).body,(ZcF P (faN f)).scope)),[Zbl P 33,Zbl P 44,Zbl P 45],[P.get? 66,P.get? 166])
noncomputable def want:List Bool×List (FuncBody×Scope)×List Obj×List (Option Obj):=
 (List.replicate 21 true,(List.range 20).map (λf=>(.stmts (Zkb f),scN f)),[{ cls:=.type "tuple",data:=.seq #[.ref 32] },{ cls:=.type "tuple",data:=.seq (Zcb.map λ(k:Nat)=>Value.int (k:Int) 0) },Zvj],[some (tabObj #[]),some (tabObj #[])])
noncomputable abbrev Inn(P h₁:Heap):Prop:=(∀b o,P.get? b=some o->h₁.get? b=some o)∧(obs P=want)
theorem Inn.kp{P h₁:Heap}(slf:Inn P h₁):∀b o,P.get? b=some o->h₁.get? b=some o:=slf.1
theorem Inn.e{P h₁:Heap}(slf:Inn P h₁):obs P=want:=slf.2
noncomputable def ZaR(h₁:Heap)(h:Heap):Prop:=(∀b o,ZeG b=false->h₁.get? b=some o->h.get? b=some o)∧Za5 70 66 xsT h∧Za5 168 166 xsL h
theorem ZkN{p:Nat->Bool}{n:Nat}(h:(List.range n).all p=true)(f:Nat)(hf:f < n):p f=true:=List.all_eq_true.mp h f (List.mem_range.mpr hf)
section
variable {P h₁:Heap}
theorem Inn.chk(x:Inn P h₁)(i:Nat){b:Bool}(h:(Zur P)[i]? = some b)(hi:i < 21):b=true:=by
 have e:Zur P=List.replicate 21 true:=congrArg Prod.fst x.e
 rw[e,List.getElem?_replicate,if_pos hi] at h
 exact(Option.some.inj h).symm
theorem Inn.fn(x:Inn P h₁)(f:Nat)(hf:f < 20):(ZcF P (faN f)).body=.stmts (Zkb f)∧(ZcF P (faN f)).scope=scN f:=by
 have e:=congrArg (λy=>y.2.1[f]?) x.e
 have e:((List.range 20).map (λf=>((ZcF P (faN f)).body,(ZcF P (faN f)).scope)))[f]? = ((List.range 20).map (λf=>(FuncBody.stmts (Zkb f),scN f)))[f]?:=e
 rw[List.getElem?_map,List.getElem?_map,List.getElem?_range hf] at e
 exact Prod.mk.inj (Option.some.inj e)
theorem Inn.tup(x:Inn P h₁):Zbl P 33={ cls:=.type "tuple",data:=.seq #[.ref 32] }:=congrArg (λy=>y.2.2.1.headD { cls:=.none }) x.e
theorem Inn.codes(x:Inn P h₁):Zbl P 44={ cls:=.type "tuple",data:=.seq (Zcb.map λ(k:Nat)=>Value.int (k:Int) 0) }:=congrArg (λy=>(y.2.2.1.drop 1).headD { cls:=.none }) x.e
theorem Inn.pat(x:Inn P h₁):Zbl P 45=Zvj:=congrArg (λy=>(y.2.2.1.drop 2).headD { cls:=.none }) x.e
theorem Inn.t1(x:Inn P h₁):h₁.get? 66=some (tabObj #[]):=x.kp _ _ (congrArg (λy=>y.2.2.2.headD none) x.e)
theorem Inn.t2(x:Inn P h₁):h₁.get? 166=some (tabObj #[]):=x.kp _ _ (congrArg (λy=>(y.2.2.2.drop 1).headD none) x.e)
theorem Inn.at0(x:Inn P h₁){a:Addr}(hs:there P a=true):h₁.get? a=some (Zbl P a):=by
 refine x.kp _ _ ?_
 have hs:=Zbu hs
 unfold Zbl
 cases e:P.get? a with
 | none=>rw[e] at hs;cases hs
 | some o=>rfl
theorem Inn.at(x:Inn P h₁){a:Addr}(hs:there P a=true){h:Heap}(g:ZaR h₁ h):h.get? a=some (Zbl P a):=g.1 _ _ (ZfK (Za6 hs)) (x.at0 hs)
theorem Inn.is(x:Inn P h₁){a:Addr}(ha:a∈([3,32,33,44,45,54,70,168]:List Nat)):there P a=true:=List.all_eq_true.mp (x.chk 9 rfl (by decide)) a ha
theorem Zni{o:Obj}(h:isFn o=true):o.cls=.type "function" ∧ o.dict=none∧o.data=.func (fdOf o):=by
 refine⟨eq_of_beq (Zbu h),Option.isNone_iff_eq_none.mp (Zbu (Za6 h)),?_⟩
 have h3:=Za6 (Za6 h)
 obtain⟨c,d,dt,sl⟩:=o
 cases dt with
 | func fd=>rfl
 | _=>cases h3
theorem Zk3{q:Str}{v:Option Value}(h:ZqR q v=true):∃t,v=some (.str q t):=by
 cases v with
 | none=>cases h
 | some v=>
  cases v with
  | str y t=>exact⟨t,by erw[rwl (eq_of_beq (show(y==q)=true from h) ..) ?_]⟩
  | _=>cases h
theorem ZoE{q:Str}{o:Obj}(h:Zvh q o=true):∃vs t,o.cls=.type "code" ∧ o.data=.fields vs∧vs[1]? = some (.str q t):=by
 have h2:=Za6 h
 have h1:=eq_of_beq (Zbu h)
 obtain⟨c,d,dt,sl⟩:=o
 cases dt with
 | fields vs=>
  obtain⟨t,e⟩:=Zk3 (show ZqR q vs[1]? = true from h2)
  exact⟨vs,t,h1,rfl,e⟩
 | _=>cases h2
theorem Zpl{v:Value}{a:Addr}(h:isR v a=true):v=.ref a:=by
 cases v with
 | ref c=>erw[rwl (eq_of_beq (show(c==a)=true from h) ..) ?_]
 | _=>cases h
theorem ZeQ{v:Option Value}{a:Addr}(h:Ztl a v=true):v=some (.ref a):=by
 cases v with
 | none=>cases h
 | some v=>erw[rwl (Zpl (show isR v a=true from h) ..) ?_]
noncomputable abbrev ZgQ(P:Heap)(h₁:Heap)(a:Addr):Prop:=(∀h,ZaR h₁ h->h.get? a=some (Zbl P a))∧((Zbl P a).data=.func (ZcF P a))∧(∀h,ZaR h₁ h->h.CodeRec (ZcF P a).code (ZcF P a).qualname)∧((ZcF P a).closure=[])∧((ZcF P a).globals=mainGlobals)∧((ZcF P a).builtins=builtinsNs)∧((ZcF P a).scope.isCoroutine=false)∧((ZcF P a).scope.isGenerator=false)∧((ZcF P a).scope.kind=.function)
theorem ZgQ.ob{P:Heap}{h₁:Heap}{a:Addr}(slf:ZgQ P h₁ a):∀h,ZaR h₁ h->h.get? a=some (Zbl P a):=slf.1
theorem ZgQ.da{P:Heap}{h₁:Heap}{a:Addr}(slf:ZgQ P h₁ a):(Zbl P a).data=.func (ZcF P a):=slf.2.1
theorem ZgQ.cr{P:Heap}{h₁:Heap}{a:Addr}(slf:ZgQ P h₁ a):∀h,ZaR h₁ h->h.CodeRec (ZcF P a).code (ZcF P a).qualname:=slf.2.2.1
theorem ZgQ.cl{P:Heap}{h₁:Heap}{a:Addr}(slf:ZgQ P h₁ a):(ZcF P a).closure=[]:=slf.2.2.2.1
theorem ZgQ.gl{P:Heap}{h₁:Heap}{a:Addr}(slf:ZgQ P h₁ a):(ZcF P a).globals=mainGlobals:=slf.2.2.2.2.1
theorem ZgQ.bu{P:Heap}{h₁:Heap}{a:Addr}(slf:ZgQ P h₁ a):(ZcF P a).builtins=builtinsNs:=slf.2.2.2.2.2.1
theorem ZgQ.co{P:Heap}{h₁:Heap}{a:Addr}(slf:ZgQ P h₁ a):(ZcF P a).scope.isCoroutine=false:=slf.2.2.2.2.2.2.1
theorem ZgQ.gen{P:Heap}{h₁:Heap}{a:Addr}(slf:ZgQ P h₁ a):(ZcF P a).scope.isGenerator=false:=slf.2.2.2.2.2.2.2.1
theorem ZgQ.kd{P:Heap}{h₁:Heap}{a:Addr}(slf:ZgQ P h₁ a):(ZcF P a).scope.kind=.function:=slf.2.2.2.2.2.2.2.2
theorem Inn.Zu6(x:Inn P h₁)(f:Nat)(hf:f < 20):ZgQ P h₁ (faN f):=by
 have c:=ZkN (x.chk 0 rfl (by decide)) f hf
 have c1:=Zbu c;have c:=Za6 c
 have c2:=Zbu c;have c:=Za6 c
 have c3:=Zbu c;have c:=Za6 c
 have c4:=Zbu c;have c:=Za6 c
 have c5:=Zbu c;have c:=Za6 c
 have c6:=Zbu c;have c:=Za6 c
 have c7:=Zbu c;have c:=Za6 c
 refine⟨λh g=>x.at c1 g,(Zni c2).2.2,λh g=>?_,List.isEmpty_iff.mp c4,eq_of_beq c5,eq_of_beq c6,ZfK c7,ZfK (Zbu c),eq_of_beq (Za6 c)⟩
 obtain⟨vs,t,d1,d2,d3⟩:=ZoE (Za6 (Za6 c3))
 exact⟨_,_,vs,t,eq_of_beq (Zbu (Za6 c3)),x.at (Zbu c3) g,d2,d3⟩
theorem ZgJ{ps:List Str}{p:Arguments}(h:ZhH ps p=true):∃as:List Arg,p=⟨[],as,none,[],[],none,[]⟩∧as.map (·.arg)=ps:=by
 obtain⟨a,b,c,d,e,f,g⟩:=p
 cases a with
 | cons=>cases h
 | nil=>
 cases c with
 | some=>cases h
 | none=>
 cases d with
 | cons=>cases h
 | nil=>
 cases e with
 | cons=>cases h
 | nil=>
 cases f with
 | some=>cases h
 | none=>
 cases g with
 | cons=>cases h
 | nil=>exact⟨b,rfl,eq_of_beq h⟩
theorem Inn.ZmW(x:Inn P h₁)(f:Nat)(hf:f < 19):Zbi (ZaR h₁) (ZcF P (faN (f+1))) (Zbl P (faN (f+1))) (faN (f+1)) (Zkb (f+1)) (psN (f+1)):=by
 have F:=x.Zu6 (f+1) (Nat.succ_lt_succ hf)
 have c:=ZkN (x.chk 2 rfl (by decide)) f hf
 obtain⟨as,ea,e2⟩:=ZgJ (Zbu c)
 have c:=Za6 c
 have c3:=Zbu c;have c:=Za6 c
 have c4:=Zbu c;have c:=Za6 c
 refine⟨F.ob,F.da,F.cr,(x.fn _ (Nat.succ_lt_succ hf)).1,F.cl,F.gl,F.bu,λvals hl=>?_,F.co,F.gen,F.kd,λp hp=>?_⟩
 ·rw[←e2] at hl ⊢
  exact Zq4 ea (eq_of_beq c3) (eq_of_beq c4) (by erw[rwl (e2 ..) ?_];exact of_decide_eq_true (Za6 c)) (by erw[rwl (hl ..) (rwl (List.length_map ..) ?_)])
 ·have:=List.all_eq_true.mp (Zbu c) p hp
  rcases Bool.or_eq_true_iff.mp this with h | h
  ·exact .inl (eq_of_beq h)
  ·exact .inr (eq_of_beq h)
end
end
section
set_option maxRecDepth 100000
section
variable {P h₁:Heap}{p:Program}{loose:List Str}{mean:ExcName->Option Value}{mg mb:Str->Option Value}
noncomputable def bse(h₁:Heap)(b:Addr):Prop:=∃o,h₁.get? b=some o
theorem ZlO(hIn:Inn P h₁)(g:h₁.Ns mainGlobals mg)(n:Str):mg n=nsFind (esG P) n:=by
 obtain⟨o,es,ep,e,d,_,f⟩:=g
 rw[show h₁.get? mainGlobals=_ from hIn.at0 (hIn.is (a:=3) (by decide))] at e
 cases e
 erw[rwr (f n ..) ?_]
 show nsFind es n=nsFind (ZsP (Zbl P mainGlobals)) n
 unfold ZsP
 erw[rwl (d ..) ?_]
theorem ZoR(h66:h₁.get? 66=some (tabObj #[]))(h166:h₁.get? 166=some (tabObj #[])){b:Addr}{o:Obj}(e:h₁.get? b=some o)(hn:o≠tabObj #[]):ZeG b=false:=by
 unfold ZeG
 simp only[Bool.or_eq_false_iff,beq_eq_false_iff_ne]
 exact⟨λq=>by rw[q,h66] at e;cases e;exact hn rfl,λq=>by rw[q,h166] at e;cases e;exact hn rfl⟩
theorem ZlI{o:Obj}{vs:Array Value}(h1:o.cls=.type "code")(h2:o.data=.fields vs) : ¬Mut o:=λh=>by
 rcases h with⟨_,_,h⟩ | ⟨_,_,h⟩ | ⟨_,h⟩ | h | h
 ·rw[h2] at h;cases h
 ·rw[h2] at h;cases h
 ·rw[h2] at h;cases h
 ·rw[h1] at h;simp at h
 ·rw[h1] at h;simp at h
theorem Za5.keep{c Pt:Addr}{xs:List (Pos×Str)}{h h':Heap}(x:Za5 c Pt xs h)(hc:∀o,h.get? c=some o->h'.get? c=some o)(hp:∀o,h.get? Pt=some o->h'.get? Pt=some o)(k:∀b o,¬Mut o->h.get? b=some o->h'.get? b=some o):Za5 c Pt xs h':=by
 obtain⟨⟨o,vs,file,tf,flags,tg,inF,text,tt,e1,r⟩,ps,x2,x3,x4⟩:=x
 refine⟨⟨o,vs,file,tf,flags,tg,inF,text,tt,hc _ e1,r⟩,ps,hp _ x2,x3,λpq h cv e=>?_⟩
 obtain⟨c',o',vs',t',a1,a2,a3,a4,a5⟩:=x4 pq h cv e
 exact⟨c',o',vs',t',a1,k _ _ (ZlI a3 a4) a2,a3,a4,a5⟩
theorem Zuy{o:Obj}(h:NT o):o≠tabObj #[]:=h #[]
theorem Zp2{h:Heap}{a:Addr}{m:Str->Option Value}(h66:h₁.get? 66=some (tabObj #[]))(h166:h₁.get? 166=some (tabObj #[]))(x:h₁.Ns a m)(g:ZaR h₁ h):h.Ns a m:=by
 obtain⟨o,es,ep,e,hd,r⟩:=x
 exact⟨o,es,ep,g.1 _ _ (ZoR h66 h166 e (Zuy (.Zeo hd))) e,hd,r⟩
theorem nob(hIn:Inn P h₁)(n:Str)(hn:n∈biN):nsFind (esG P) n=none:=Option.isNone_iff_eq_none.mp (List.all_eq_true.mp (hIn.chk 6 rfl (by decide)) n hn)
theorem ZpQ(hIn:Inn P h₁){c Pt:Addr}(hs:there P c=true)(hc:codeHdIn [(c,Zbl P c)] c Pt=true):CodeHd h₁ c Pt:=codeHd_of_K (λa o e=>by
 rw[List.lookup_cons] at e
 cases q:(a==c) with
 | false=>rw[q] at e;cases e
 | true=>
  rw[q] at e
  cases e
  erw[rwl (eq_of_beq q ..) ?_]
  exact hIn.at0 hs) hc
theorem ZuL(hIn:Inn P h₁)(T:Top p loose mean mg mb h₁):Gr (bse h₁) mg mb (ZaR h₁):=⟨(λh h' x k=>by
  have b70:bse h₁ 70:=⟨_,hIn.at0 (hIn.is (by decide))⟩
  have b168:bse h₁ 168:=⟨_,hIn.at0 (hIn.is (by decide))⟩
  exact⟨λb o ht e=>k b o (.inl ⟨o,e⟩) (x.1 b o ht e),x.2.1.keep (λo e=>k _ o (.inl b70) e) (λo e=>k _ o (.inl ⟨_,hIn.t1⟩) e) (λb o m e=>k b o (.inr m) e),x.2.2.keep (λo e=>k _ o (.inl b168) e) (λo e=>k _ o (.inl ⟨_,hIn.t2⟩) e) (λb o m e=>k b o (.inr m) e)⟩),
(λh b x ⟨o,e⟩=>by
  cases q:ZeG b with
  | false=>exact⟨o,x.1 b o q e⟩
  | true=>
   unfold ZeG at q
   simp only[Bool.or_eq_true,beq_iff_eq] at q
   rcases q with rfl | rfl
   ·obtain⟨_,ps,e2,_⟩:=x.2.1;exact⟨_,e2⟩
   ·obtain⟨_,ps,e2,_⟩:=x.2.2;exact⟨_,e2⟩),
(λh x=>Zp2 hIn.t1 hIn.t2 T.g x),
(λh x=>Zp2 hIn.t1 hIn.t2 T.b x),
(λh x=>by
  obtain⟨mc,h1,h2⟩:=T.nolimit
  exact⟨mc,Zp2 hIn.t1 hIn.t2 h1 x,h2⟩),
(λn v h=>by
  have mgn:=ZlO hIn T.g
  simp only[List.mem_cons,List.not_mem_nil,or_false,Prod.mk.injEq] at h
  rcases h with⟨rfl,rfl⟩ | ⟨rfl,rfl⟩ | ⟨rfl,rfl⟩ | ⟨rfl,rfl⟩ | ⟨rfl,rfl⟩ | ⟨rfl,rfl⟩ | ⟨rfl,rfl⟩ | ⟨rfl,rfl⟩ | ⟨rfl,rfl⟩
  all_goals exact⟨(mgn _).trans (nob hIn _ (by decide)),(T.builtins _ (by decide)).trans (by kernel_rfl)⟩)⟩
theorem tab0(hIn:Inn P h₁){c Pt:Addr}{xs:List (Pos×Str)}(hs:there P c=true)(hc:codeHdIn [(c,Zbl P c)] c Pt=true)(hP:h₁.get? Pt=some (tabObj #[])):Za5 c Pt xs h₁:=
 ⟨ZpQ hIn hs hc,#[],hP,trivial,λ_ _ cv e=>by cases e⟩
theorem gd0(hIn:Inn P h₁):ZaR h₁ h₁:=
 ⟨λ_ _ _ e=>e,tab0 hIn (hIn.is (by decide)) (hIn.chk 7 rfl (by decide)) hIn.t1,tab0 hIn (hIn.is (by decide)) (hIn.chk 8 rfl (by decide)) hIn.t2⟩
theorem Zr6(hIn:Inn P h₁)(T:Top p loose mean mg mb h₁){Pt:Addr}(hPt:ZeG Pt=true){h:Heap}(g:ZaR h₁ h):h.BuiltinsAt mg Pt:=by
 obtain⟨bm,ob,b1,b2,b3,b4,b5,b6⟩:=T.bmain
 have nt:ZeG bm=false:=ZoR hIn.t1 hIn.t2 b3 λq=>by rw[q] at b4;cases b4
 refine⟨bm,ob,b1,b2,λq=>?_,λq=>?_,g.1 _ _ nt b3,b4,b5,b6⟩
 ·obtain⟨o,es,ep,e,d,_⟩:=T.g
  rw[q,e] at b3
  cases b3
  rw[d] at b6;cases b6
 ·rw[←q,nt] at hPt;cases hPt
theorem ZvJ(hIn:Inn P h₁)(T:Top p loose mean mg mb h₁):ZeB (ZaR h₁) 70 66 xsT mg:=⟨(λh g=>g.2.1),
(λh h' g kp bt t=>⟨λb o ht e=>bt b o (λq=>by rw[q] at ht;cases ht) (g.1 b o ht e),t,g.2.2.kp kp λo e=>bt _ o (by decide) e⟩),
(by decide),
(λh g=>Zr6 hIn T (by decide) g),
(by decide)⟩
theorem ZvQ(hIn:Inn P h₁)(T:Top p loose mean mg mb h₁):ZeB (ZaR h₁) 168 166 xsL mg:=⟨(λh g=>g.2.2),
(λh h' g kp bt t=>⟨λb o ht e=>bt b o (λq=>by rw[q] at ht;cases ht) (g.1 b o ht e),g.2.1.kp kp (λo e=>bt _ o (by decide) e),t⟩),
(by decide),
(λh g=>Zr6 hIn T (by decide) g),
(by decide)⟩
end
end
section
set_option maxRecDepth 100000
section
variable {P h₁:Heap}{p:Program}{loose:List Str}{mean:ExcName->Option Value}{mg mb:Str->Option Value}
theorem Zhz{v:Value}{h:Int}(x:keyOk v h=true):∃k t,v=.int k t∧h=hashInt k∧0<=k∧k.toNat∈specials:=by
 cases v with
 | int k t=>exact⟨k,t,rfl,eq_of_beq (Zbu x),of_decide_eq_true (Zbu (Za6 x)),List.contains_iff_mem.mp (Za6 (Za6 x))⟩
 | _=>exact absurd x Bool.false_ne_true
theorem ZkX{c:Nat}{v:Option Value}(x:Zr1 c v=true):∃t,v=some (.str ⟨[92,c].toArray⟩ t):=by
 cases v with
 | none=>exact absurd x Bool.false_ne_true
 | some v=>
  cases v with
  | str s t=>exact⟨t,by erw[rwl (eq_of_beq (show(s==⟨[92,c].toArray⟩)=true from x) ..) ?_]⟩
  | _=>exact absurd x Bool.false_ne_true
theorem Zj4{d:Data}(x:Zmt d=true):∃es ep,d=.dict es ep:=by
 cases d with
 | dict es ep=>exact⟨es,ep,rfl⟩
 | _=>exact absurd x Bool.false_ne_true
theorem Zs8(hIn:Inn P h₁):Zcy (ZaR h₁) 54:=⟨(λh g=>by
  have e:=hIn.at (a:=54) (hIn.is (by decide)) g
  have hk:=List.all_eq_true.mp (hIn.chk 10 rfl (by decide))
  have hv:=List.all_eq_true.mp (hIn.chk 11 rfl (by decide))
  have h12:=hIn.chk 12 rfl (by decide)
  obtain⟨es,ep,hd⟩:=Zj4 (Zbu h12)
  have he:esE P=es:=by unfold esE ZsP;rw[hd]
  rw[he] at hk hv
  refine⟨λk=>findBy Value.isInt es k,⟨_,es,ep,e,eq_of_beq (Zbu (Za6 h12)),hd,λx hx=>?_,λ_=>rfl⟩,λc=>⟨λhc=>ZkX (hv c hc),λhc=>?_⟩⟩
  ·obtain⟨k,t,h1,h2,_⟩:=Zhz (hk x (Array.mem_toList_iff.mpr hx))
   exact⟨k,t,h1,h2⟩
  ·show findBy Value.isInt es (c:Int)=none
   unfold findBy
   rw[Option.map_eq_none_iff,Array.find?_eq_none]
   intro x hx q
   obtain⟨k,t,h1,_,h3,h4⟩:=Zhz (hk x (Array.mem_toList_iff.mpr hx))
   rw[h1] at q
   have:k=(c:Int):=eq_of_beq q
   rw[this] at h4
   exact hc h4),
(by decide),
(λh g o e=>by
  rw[hIn.at (a:=54) (hIn.is (by decide)) g] at e
  cases e
  have h12:=Za6 (Za6 (hIn.chk 12 rfl (by decide)))
  exact⟨Option.isNone_iff_eq_none.mp (Zbu h12),Array.isEmpty_iff.mp (Za6 h12)⟩)⟩
theorem ZuC(hIn:Inn P h₁):∀h,ZaR h₁ h->Zeh h 45∧∃o,h.get? 45=some o∧o.dict=none:=λh g=>by
 have e1:=hIn.at (a:=45) (hIn.is (by decide)) g
 have e2:=hIn.at (a:=44) (hIn.is (by decide)) g
 rw[hIn.pat] at e1
 rw[hIn.codes] at e2
 exact⟨⟨_,44,_,e1,rfl,rfl,rfl,rfl,rfl,0,e2⟩,_,e1,rfl⟩
theorem mgF(hIn:Inn P h₁)(g:h₁.Ns mainGlobals mg)(f:Nat)(hf:f < 20):mg (fnN f)=some (.ref (faN f)):=(ZlO hIn g _).trans (ZeQ (ZkN (hIn.chk 1 rfl (by decide)) f hf))
theorem Ztk(hIn:Inn P h₁)(g:h₁.Ns mainGlobals mg):mg ("_twin_re_1" : Str)=some (.ref 45):=(ZlO hIn g _).trans (ZeQ (hIn.chk 3 rfl (by decide)))
theorem Zsx(hIn:Inn P h₁)(g:h₁.Ns mainGlobals mg):mg ("_special_chars_map" : Str)=some (.ref 54):=(ZlO hIn g _).trans (ZeQ (hIn.chk 4 rfl (by decide)))
theorem Ztt(hIn:Inn P h₁)(g:h₁.Ns mainGlobals mg):mg ("_initial_missing" : Str)=some (.ref 32):=(ZlO hIn g _).trans (ZeQ (hIn.chk 5 rfl (by decide)))
end
end
section
set_option maxRecDepth 100000
theorem bindR{M:Model}{A:Around}{E:Value->Shared->Prop}{s:Shared}{fd:FuncData}{as:List Arg}{ds:List Expr}{x y z d:Value}{da:Addr}{n:Nat}{Q:List (Str×Value)->Shared->Prop}(hp:fd.params=⟨[],as,none,[],[],none,ds⟩)(ha:as.map (·.arg)=Zrc)(hd:fd.defaults=.ref da)(hk:fd.kwdefaults=.none)
  (hh:s.heap.get? da=some { cls:=.type "tuple",data:=.seq #[d] n }) (q:Q [("function",x),("sequence",y),("initial",z)] s):wpAny M A (bindArgs fd ⟨[x,y,z],[]⟩) Q E s:=by
 obtain⟨nm,qu,pr,bo,sc,gl,cl,de,kd,dc,pm,an,cd,ct,bi⟩:=fd
 dsimp only at hp hd hk
 subst hp hd hk
 unfold bindArgs
 dsimp only
 refine wpAny_bind (wpAny_pure ?_)
 refine wpAny_bind (wpAny_seqItems hh rfl ?_)
 erw[rwl (ha ..) ?_]
 refine wpAny_of_eq ?_ q
 rfl
end
section
set_option maxRecDepth 100000
section
variable {prog:Program}{w:World}{P h₁:Heap}{p:Program}{loose:List Str}{mean:ExcName->Option Value}{mg mb:Str->Option Value}{n:Nat}
theorem Zfs{Gd:Heap->Prop}{a:Addr}{sem:List D->Option D}(h:∀ds,sem ds=none):Zan prog w Gd a n sem:=λds d e=>by rw[h] at e;cases e
theorem Zco(hIn:Inn P h₁)(g:h₁.Ns mainGlobals mg){Γ:ZaC}(h20:∀f,20<=f->∀ds,Γ f ds=none)(hc:∀f,f < 20->Zan prog w (ZaR h₁) (faN f) n (Γ f)):Zak prog w (ZaR h₁) mg Γ fnN faN n:=⟨(λf ds d h=>by
  rcases Nat.lt_or_ge f 20 with q | q
  ·exact mgF hIn g f q
  ·rw[h20 f q] at h;cases h),
(λf ds d h=>by
  rcases Nat.lt_or_ge f 20 with q | q
  ·have F:=hIn.Zu6 f q
   exact⟨_,_,F.da,F.ob⟩
  ·rw[h20 f q] at h;cases h),
(λf ds d h=>by
  rcases Nat.lt_or_ge f 20 with q | q
  ·exact hc f q ds d h
  ·rw[h20 f q] at h;cases h)⟩
theorem ZiI{p:Arguments}(h:ZlP p=true):∃(as:List Arg) (ds:List Expr),p=⟨[],as,none,[],[],none,ds⟩∧as.map (·.arg)=Zrc:=by
 obtain⟨a,b,c,d,e,f,g⟩:=p
 cases a with
 | cons=>exact absurd h Bool.false_ne_true
 | nil=>
 cases c with
 | some=>exact absurd h Bool.false_ne_true
 | none=>
 cases d with
 | cons=>exact absurd h Bool.false_ne_true
 | nil=>
 cases e with
 | cons=>exact absurd h Bool.false_ne_true
 | nil=>
 cases f with
 | some=>exact absurd h Bool.false_ne_true
 | none=>exact⟨b,g,rfl,eq_of_beq h⟩
theorem Zua(hIn:Inn P h₁)(g:h₁.Ns mainGlobals mg):ZaE (ZaR h₁) (bse h₁) mg (ZcF P (faN 0)) (Zbl P (faN 0)) (faN 0) 32:=by
 have F:=hIn.Zu6 0 (by decide)
 have hs:=(hIn.fn 0 (by decide)).2
 have hk:∀{n:Str} {k:NameKind},(scN 0).names.lookup n=some k->(ZcF P (faN 0)).scope.names.lookup n=some k:=λe=>by erw[rwl (hs ..) ?_];exact e
 refine⟨F.ob,F.da,F.cr,F.cl,F.gl,F.bu,λM A s x y z E Q gd q=>?_,F.co,F.gen,F.kd,?_,hk (by kernel_rfl),hk (by kernel_rfl),hk (by kernel_rfl),hk (by kernel_rfl),hk (by kernel_rfl),hk (by kernel_rfl),hk (by kernel_rfl),hk (by kernel_rfl),Ztt hIn g,⟨_,hIn.at0 (hIn.is (by decide))⟩⟩
 ·obtain⟨as,ds,e,e2⟩:=ZiI (hIn.chk 13 rfl (by decide))
  have e33:=hIn.at (a:=33) (hIn.is (by decide)) gd
  rw[hIn.tup] at e33
  exact bindR e e2 (eq_of_beq (hIn.chk 14 rfl (by decide))) (eq_of_beq (hIn.chk 15 rfl (by decide))) e33 q
 ·have hnc:(scN 0).names.all (λy=>y.2 != .cell)=true:=by kernel_rfl
  erw[rwl (hs ..) ?_]
  exact λy hy=>by simpa using List.all_eq_true.mp hnc y hy
theorem Zib(hIn:Inn P h₁):∀h,ZaR h₁ h->∃o,h.get? 32=some o∧o.cls=.type "object" := λh g=>
 ⟨_,hIn.at (a:=32) (hIn.is (by decide)) g,eq_of_beq (hIn.chk 16 rfl (by decide))⟩
theorem ZbW(G:Gr (bse h₁) mg mb (ZaR h₁)){Γ:ZaC}(C:Zak prog w (ZaR h₁) mg Γ fnN faN n)(hIn:Inn P h₁)(f:Nat)(hf:f < 19){nm:List Str}{st:S}{N:Nat}(hnm:∃rest,nm=psN (f+1)++rest)(hnd:nm.Nodup)(hm:ms nm fnN (scN (f+1)) st (Zkb (f+1))=true)(hst:st.Zcw []=true) :
  Zan prog w (ZaR h₁) (faN (f+1)) (n+1) (run Γ N (psN (f+1)).length nm.length st):=
 ZrJ G C (hIn.ZmW f hf) (hIn.fn _ (Nat.succ_lt_succ hf)).2 hnm hnd hm hst
theorem c2(hIn:Inn P h₁)(G:Gr (bse h₁) mg mb (ZaR h₁))(g:h₁.Ns mainGlobals mg):Zan prog w (ZaR h₁) (faN 2) 1 ZjU:=
 ZsJ (n:=0) G (Zs8 hIn) (Zsx hIn g) (hIn.ZmW 1 (by decide)) (by kernel_rfl) (hIn.fn 2 (by decide)).2 (by kernel_rfl) (by kernel_rfl) (by kernel_rfl)
theorem cNo(hIn:Inn P h₁)(g:h₁.Ns mainGlobals mg):Zak prog w (ZaR h₁) mg noΓ fnN faN n:=Zco hIn g (λ_ _ _=>rfl) λ_ _=>Zfs λ_=>rfl
theorem c5(hIn:Inn P h₁)(G:Gr (bse h₁) mg mb (ZaR h₁))(g:h₁.Ns mainGlobals mg):Zan prog w (ZaR h₁) (faN 5) 1 Zup:=
 ZbW (n:=0) G (cNo hIn g) hIn 4 (by decide) (nm:=Zkr) ⟨_,rfl⟩ (by decide) (by kernel_rfl) (by decide)
theorem c7(hIn:Inn P h₁)(G:Gr (bse h₁) mg mb (ZaR h₁))(g:h₁.Ns mainGlobals mg):Zan prog w (ZaR h₁) (faN 7) 1 Zsq:=
 ZbW (n:=0) G (cNo hIn g) hIn 6 (by decide) (nm:=Zj6) ⟨_,rfl⟩ (by decide) (by kernel_rfl) (by decide)
theorem c9(hIn:Inn P h₁)(G:Gr (bse h₁) mg mb (ZaR h₁))(g:h₁.Ns mainGlobals mg):Zan prog w (ZaR h₁) (faN 9) 1 ZrH:=
 ZbW (n:=0) G (cNo hIn g) hIn 8 (by decide) (nm:=ZiC) ⟨_,rfl⟩ (by decide) (by kernel_rfl) (by decide)
theorem c4(hIn:Inn P h₁)(G:Gr (bse h₁) mg mb (ZaR h₁))(g:h₁.Ns mainGlobals mg):Zan prog w (ZaR h₁) (faN 4) 1 Zuz:=
 ZbW (n:=0) G (cNo hIn g) hIn 3 (by decide) (nm:=Zcf) ⟨_,rfl⟩ (by decide) (by kernel_rfl) (by decide)
theorem c13(hIn:Inn P h₁)(G:Gr (bse h₁) mg mb (ZaR h₁))(g:h₁.Ns mainGlobals mg):Zan prog w (ZaR h₁) (faN 13) 1 ZnA:=
 ZbW (n:=0) G (cNo hIn g) hIn 12 (by decide) (nm:=Zip) ⟨_,rfl⟩ (by decide) (by kernel_rfl) (by decide)
theorem c14(hIn:Inn P h₁)(G:Gr (bse h₁) mg mb (ZaR h₁))(g:h₁.Ns mainGlobals mg):Zan prog w (ZaR h₁) (faN 14) 1 Zn9:=
 ZbW (n:=0) G (cNo hIn g) hIn 13 (by decide) (nm:=Zhm) ⟨_,rfl⟩ (by decide) (by kernel_rfl) (by decide)
theorem cA(hIn:Inn P h₁)(G:Gr (bse h₁) mg mb (ZaR h₁))(g:h₁.Ns mainGlobals mg):Zak prog w (ZaR h₁) mg ΓA fnN faN 10:=
 Zco hIn g (λf hf ds=>by
  match f,hf with
  | f+20,_=>rfl) λf hf=>by
  match f,hf with
  | 2,_=>exact(c2 hIn G g).up (by decide)
  | 4,_=>exact(c4 hIn G g).up (by decide)
  | 5,_=>exact(c5 hIn G g).up (by decide)
  | 7,_=>exact(c7 hIn G g).up (by decide)
  | 9,_=>exact(c9 hIn G g).up (by decide)
  | 13,_=>exact(c13 hIn G g).up (by decide)
  | 14,_=>exact(c14 hIn G g).up (by decide)
  | 0,_ | 1,_ | 3,_ | 6,_ | 8,_ | 10,_ | 11,_ | 12,_ | 15,_ | 16,_ | 17,_ | 18,_ | 19,_=>exact Zfs λ_=>rfl
  | f+20,hf=>exact absurd hf (Nat.not_lt.mpr (Nat.le_add_left 20 f))
end
end
section
set_option maxRecDepth 100000
section
variable {prog:Program}{w:World}{P h₁:Heap}{p:Program}{loose:List Str}{mean:ExcName->Option Value}{mg mb:Str->Option Value}{n:Nat}
theorem c6(hIn:Inn P h₁)(G:Gr (bse h₁) mg mb (ZaR h₁))(g:h₁.Ns mainGlobals mg):Zan prog w (ZaR h₁) (faN 6) 11 ZtQ:=
 ZbW (n:=10) G (cA hIn G g) hIn 5 (by decide) (nm:=ZhA) ⟨_,rfl⟩ (by decide) (by kernel_rfl) (by decide)
theorem c8(hIn:Inn P h₁)(G:Gr (bse h₁) mg mb (ZaR h₁))(g:h₁.Ns mainGlobals mg):Zan prog w (ZaR h₁) (faN 8) 11 ZtT:=
 ZbW (n:=10) G (cA hIn G g) hIn 7 (by decide) (nm:=Zir) ⟨_,rfl⟩ (by decide) (by kernel_rfl) (by decide)
theorem c10(hIn:Inn P h₁)(G:Gr (bse h₁) mg mb (ZaR h₁))(g:h₁.Ns mainGlobals mg):Zan prog w (ZaR h₁) (faN 10) 11 Zoj:=
 ZbW (n:=10) G (cA hIn G g) hIn 9 (by decide) (nm:=Zhv) ⟨_,rfl⟩ (by decide) (by kernel_rfl) (by decide)
theorem c12(hIn:Inn P h₁)(G:Gr (bse h₁) mg mb (ZaR h₁))(g:h₁.Ns mainGlobals mg):Zan prog w (ZaR h₁) (faN 12) 11 Zk9:=
 ZbW (n:=10) G (cA hIn G g) hIn 11 (by decide) (nm:=ZgW) ⟨_,rfl⟩ (by decide) (by kernel_rfl) (by decide)
theorem c15(hIn:Inn P h₁)(G:Gr (bse h₁) mg mb (ZaR h₁))(g:h₁.Ns mainGlobals mg):Zan prog w (ZaR h₁) (faN 15) 11 Znc:=
 ZbW (n:=10) G (cA hIn G g) hIn 14 (by decide) (nm:=ZfQ) ⟨_,rfl⟩ (by decide) (by kernel_rfl) (by decide)
theorem c3(hIn:Inn P h₁)(G:Gr (bse h₁) mg mb (ZaR h₁))(g:h₁.Ns mainGlobals mg)(O:ZeB (ZaR h₁) 70 66 xsT mg):Zan prog w (ZaR h₁) (faN 3) 11 ZuF:=
 Zpt (n:=10) G (cA hIn G g) O (by decide) (hIn.ZmW 2 (by decide)) (eq_of_beq (hIn.chk 17 rfl (by decide))) (ys:=[(76,37,true),(77,39,false)])
  (λgl gc h=>by
   simp at h
   obtain⟨rfl,rfl⟩:=h
   exact⟨(⟨76,37,0,0⟩,"_translate.<locals>.<genexpr>"),by simp[xsT],rfl,rfl,by rw[eq_of_beq (hIn.chk 19 rfl (by decide))];kernel_rfl⟩)
  (λgl gc h=>by
   simp at h
   obtain⟨rfl,rfl⟩:=h
   exact⟨(⟨77,39,0,0⟩,"_translate.<locals>.<lambda>"),by simp[xsT],rfl,rfl,by rw[eq_of_beq (hIn.chk 19 rfl (by decide))];kernel_rfl⟩)
  (Ztk hIn g) (ZuC hIn) (hIn.fn 3 (by decide)).2 (nm:=Zg5) ⟨_,rfl⟩ (by decide) (by kernel_rfl) (by decide)
theorem cB(hIn:Inn P h₁)(G:Gr (bse h₁) mg mb (ZaR h₁))(g:h₁.Ns mainGlobals mg)(O:ZeB (ZaR h₁) 70 66 xsT mg):Zak prog w (ZaR h₁) mg ΓB fnN faN 20:=
 Zco hIn g (λf hf ds=>by
  match f,hf with
  | f+20,_=>rfl) λf hf=>by
  match f,hf with
  | 2,_=>exact(c2 hIn G g).up (by decide)
  | 4,_=>exact(c4 hIn G g).up (by decide)
  | 5,_=>exact(c5 hIn G g).up (by decide)
  | 7,_=>exact(c7 hIn G g).up (by decide)
  | 9,_=>exact(c9 hIn G g).up (by decide)
  | 13,_=>exact(c13 hIn G g).up (by decide)
  | 14,_=>exact(c14 hIn G g).up (by decide)
  | 3,_=>exact(c3 hIn G g O).up (by decide)
  | 6,_=>exact(c6 hIn G g).up (by decide)
  | 8,_=>exact(c8 hIn G g).up (by decide)
  | 10,_=>exact(c10 hIn G g).up (by decide)
  | 12,_=>exact(c12 hIn G g).up (by decide)
  | 15,_=>exact(c15 hIn G g).up (by decide)
  | 0,_ | 1,_ | 11,_ | 16,_ | 17,_ | 18,_ | 19,_=>exact Zfs λ_=>rfl
  | f+20,hf=>exact absurd hf (Nat.not_lt.mpr (Nat.le_add_left 20 f))
theorem c1(hIn:Inn P h₁)(G:Gr (bse h₁) mg mb (ZaR h₁))(g:h₁.Ns mainGlobals mg)(O:ZeB (ZaR h₁) 70 66 xsT mg):Zan prog w (ZaR h₁) (faN 1) 21 ZoU:=
 Zt9 (n:=20) (N:=fuel) (nms:=["parts"]) (st:=ZsF) G (cB hIn G g O) (hIn.ZmW 0 (by decide)) (by decide) (hIn.fn 1 (by decide)).2 (by kernel_rfl) (by kernel_rfl) (by kernel_rfl) (by decide) λds d h=>ZpI h
theorem c11(hIn:Inn P h₁)(G:Gr (bse h₁) mg mb (ZaR h₁))(g:h₁.Ns mainGlobals mg)(O:ZeB (ZaR h₁) 70 66 xsT mg):Zan prog w (ZaR h₁) (faN 11) 21 Zmd:=
 ZbW (n:=20) G (cB hIn G g O) hIn 10 (by decide) (nm:=Ziw) ⟨_,rfl⟩ (by decide) (by kernel_rfl) (by decide)
theorem cC(hIn:Inn P h₁)(G:Gr (bse h₁) mg mb (ZaR h₁))(g:h₁.Ns mainGlobals mg)(O:ZeB (ZaR h₁) 70 66 xsT mg):Zak prog w (ZaR h₁) mg ΓC fnN faN 30:=
 Zco hIn g (λf hf ds=>by
  match f,hf with
  | f+20,_=>rfl) λf hf=>by
  match f,hf with
  | 1,_=>exact(c1 hIn G g O).up (by decide)
  | 11,_=>exact(c11 hIn G g O).up (by decide)
  | 2,_=>exact(c2 hIn G g).up (by decide)
  | 4,_=>exact(c4 hIn G g).up (by decide)
  | 5,_=>exact(c5 hIn G g).up (by decide)
  | 7,_=>exact(c7 hIn G g).up (by decide)
  | 9,_=>exact(c9 hIn G g).up (by decide)
  | 13,_=>exact(c13 hIn G g).up (by decide)
  | 14,_=>exact(c14 hIn G g).up (by decide)
  | 3,_=>exact(c3 hIn G g O).up (by decide)
  | 6,_=>exact(c6 hIn G g).up (by decide)
  | 8,_=>exact(c8 hIn G g).up (by decide)
  | 10,_=>exact(c10 hIn G g).up (by decide)
  | 12,_=>exact(c12 hIn G g).up (by decide)
  | 15,_=>exact(c15 hIn G g).up (by decide)
  | 0,_ | 16,_ | 17,_ | 18,_ | 19,_=>exact Zfs λ_=>rfl
  | f+20,hf=>exact absurd hf (Nat.not_lt.mpr (Nat.le_add_left 20 f))
theorem c17(hIn:Inn P h₁)(G:Gr (bse h₁) mg mb (ZaR h₁))(g:h₁.Ns mainGlobals mg)(O:ZeB (ZaR h₁) 70 66 xsT mg):∀k:Nat,Zan prog w (ZaR h₁) (faN 17) (30+k) (ZcC k)
 | 0=>Zfs λ_=>rfl
 | k+1=>by
  have C:Zak prog w (ZaR h₁) mg (ΓV (ZcC k)) fnN faN (30+k):=by
   have B:=(cB (prog:=prog) (w:=w) hIn G g O)
   refine Zco hIn g (λf hf ds=>?_) λf hf=>?_
   ·match f,hf with
    | f+20,_=>rfl
   ·by_cases q:f=17
    ·subst q;exact c17 hIn G g O k
    ·have e:ΓV (ZcC k) f=ΓB f:=by
      unfold ΓV
      split
      ·exact absurd rfl q
      ·rfl
     erw[rwl (e ..) ?_]
     exact λds d hd A P s vs R L ok hP hr k=>B.ok f ds d hd A P s vs R (L.le (by lia)) ok hP hr k
  exact ZbW (n:=30+k) G C hIn 16 (by decide) (nm:=ZhR) ⟨_,rfl⟩ (by decide) (by kernel_rfl) (by decide)
theorem c16(hIn:Inn P h₁)(G:Gr (bse h₁) mg mb (ZaR h₁))(g:h₁.Ns mainGlobals mg)(O:ZeB (ZaR h₁) 70 66 xsT mg):Zan prog w (ZaR h₁) (faN 16) 31 Zgw:=
 ZbW (n:=30) G (cC hIn G g O) hIn 15 (by decide) (nm:=Zik) ⟨_,rfl⟩ (by decide) (by kernel_rfl) (by decide)
theorem cD(hIn:Inn P h₁)(G:Gr (bse h₁) mg mb (ZaR h₁))(g:h₁.Ns mainGlobals mg)(O:ZeB (ZaR h₁) 70 66 xsT mg):Zak prog w (ZaR h₁) mg ΓD fnN faN 50:=by
 have Cc:=(cC (prog:=prog) (w:=w) hIn G g O)
 refine Zco hIn g (λf hf ds=>?_) λf hf=>?_
 ·match f,hf with
  | f+20,_=>rfl
 ·by_cases q:f=17
  ·subst q;exact(c17 hIn G g O 12).up (by decide)
  ·by_cases q':f=16
   ·subst q';exact(c16 hIn G g O).up (by decide)
   ·have e:ΓD f=ΓC f:=by
     unfold ΓD
     split
     ·exact absurd rfl q'
     ·exact absurd rfl q
     ·rfl
    erw[rwl (e ..) ?_]
    exact λds d hd A P s vs R L ok hP hr k=>Cc.ok f ds d hd A P s vs R (L.le (by lia)) ok hP hr k
theorem c18(hIn:Inn P h₁)(G:Gr (bse h₁) mg mb (ZaR h₁))(g:h₁.Ns mainGlobals mg)(O:ZeB (ZaR h₁) 70 66 xsT mg):Zan prog w (ZaR h₁) (faN 18) 51 ZoC:=
 ZbW (n:=50) G (cD hIn G g O) hIn 17 (by decide) (nm:=ZhZ) ⟨_,rfl⟩ (by decide) (by kernel_rfl) (by decide)
theorem cE(hIn:Inn P h₁)(G:Gr (bse h₁) mg mb (ZaR h₁))(g:h₁.Ns mainGlobals mg)(O:ZeB (ZaR h₁) 70 66 xsT mg):Zak prog w (ZaR h₁) mg ΓE fnN faN 60:=by
 have Cd:=(cD (prog:=prog) (w:=w) hIn G g O)
 refine Zco hIn g (λf hf ds=>?_) λf hf=>?_
 ·match f,hf with
  | f+20,_=>rfl
 ·by_cases q:f=18
  ·subst q;exact(c18 hIn G g O).up (by decide)
  ·have e:ΓE f=ΓD f:=by
    unfold ΓE
    split
    ·exact absurd rfl q
    ·rfl
   erw[rwl (e ..) ?_]
   exact λds d hd A P s vs R L ok hP hr k=>Cd.ok f ds d hd A P s vs R (L.le (by lia)) ok hP hr k
end
end
section
set_option maxRecDepth 100000
theorem items_int{R:WRecords}:∀{xs:List WData},WShape.hasItems R xs .int=true->∃ns:List Int,xs=ns.map .int
 | [],_=>⟨[],rfl⟩
 | x::xs,h=>by
  have h':(WShape.has R x .int&&WShape.hasItems R xs .int)=true:=h
  simp only[Bool.and_eq_true] at h'
  obtain⟨ns,rfl⟩:=items_int h'.2
  cases x with
  | int i=>exact⟨i::ns,rfl⟩
  | _=>exact Bool.noConfusion (show false=true from h'.1)
theorem ZnO{R:WRecords}{args:List WData}(h:WShape.hasAll R args [.list .int]=true):∃ns:List Int,args=[.list (ns.map .int)]:=by
 cases args with
 | nil=>cases h
 | cons a r=>
  have h':(WShape.has R a (.list .int)&&WShape.hasAll R r [])=true:=h
  simp only[Bool.and_eq_true] at h'
  have hr:r=[]:=by
   cases r with
   | nil=>rfl
   | cons _ _=>exact Bool.noConfusion (show false=true from h'.2)
  subst hr
  cases a with
  | list xs=>
   obtain⟨ns,rfl⟩:=items_int ((Bool.or_false _).symm.trans (show(WShape.hasItems R xs .int||false)=true from h'.1))
   exact⟨ns,rfl⟩
  | _=>exact Bool.noConfusion (show false=true from h'.1)
theorem Zg8{P:Params}{h:Heap}:∀{ns:List Int} {vs:List Value},WellAll P h vs (ns.map .int)->Zad (λ_=>True) h vs (ns.map .int)
 | [],vs,x=>by
  cases x
  exact .nil
 | n::ns,vs,x=>by
  cases x with
  | cons a b=>
   cases a
   exact .cons (.int _ _) (Zg8 b)
theorem ZqE{ns:List Int}(h:PySem.Challenge.rw_rx0098_01.row.toRowW.claim.pre [.list (ns.map .int)]=true):ns.length<=63:=by
 have h':(WShape.hasAll [] [WData.list (ns.map .int)] [.list .int]&&WTm.holds [] (.and (.not (.lt (.lit (.int 63)) (.len (.arg 0)))) (.lit (.bool true))) { args:=[WData.list (ns.map .int)] })=true:=h
 simp only[Bool.and_eq_true] at h'
 have h2:WTm.holds [] (.and (.not (.lit (.bool (decide ((63:Int) < ((ns.map WData.int).length:Int)))))) (.lit (.bool true))) { args:=[WData.list (ns.map .int)] }=true:=h'.2
 by_cases q:(63:Int) < (ns.map WData.int).length
 ·rw[decide_eq_true q] at h2
  exact Bool.noConfusion (show false=true from h2)
 ·rw[List.length_map] at q;lia
theorem ZpR(ns:List Int):PySem.Challenge.rw_rx0098_01.row.toRowW.claim.post [.list (ns.map .int)] (.bool true) [.list (ns.map .int)]=true:=by
 have e:same (.bool true) (.bool true)=true:=by decide +kernel
 show(WShape.has [] (.bool true) .bool&&WTm.holds [] (.lit (.bool (same (.bool true) (.bool true)))) { args:=[WData.list (ns.map .int)],res:=some (.bool true),after:=[.list (ns.map .int)] })=true
 erw[rwl (e ..) ?_]
 rfl
theorem ZjC{h:Heap}{c Pt:Addr}(x:CodeHd h c Pt):isCodeTable h Pt:=by
 obtain⟨o,vs,file,tf,flags,tg,inF,text,tt,e1,e2,e3,e4,_⟩:=x
 exact⟨c,o,vs,e1,e2,e3,e4⟩
theorem Zsi{P h₁ h:Heap}(hIn:Inn P h₁)(g:ZaR h₁ h):OldK h₁ h:=by
 have tb:∀b,ZeG b=true->isCodeTable h₁ b∧h₁.get? b=some (tabObj #[])∧∃ps,h.get? b=some (tabObj ps):=λb q=>by
  unfold ZeG at q
  simp only[Bool.or_eq_true,beq_iff_eq] at q
  rcases q with rfl | rfl
  ·obtain⟨_,ps,e2,_⟩:=g.2.1
   exact⟨ZjC (c:=70) (ZpQ hIn (hIn.is (by decide)) (hIn.chk 7 rfl (by decide))),hIn.t1,ps,e2⟩
  ·obtain⟨_,ps,e2,_⟩:=g.2.2
   exact⟨ZjC (c:=168) (ZpQ hIn (hIn.is (by decide)) (hIn.chk 8 rfl (by decide))),hIn.t2,ps,e2⟩
 refine⟨λb o e=>?_,λb o e=>?_⟩
 ·cases q:ZeG b with
  | false=>exact .inl (g.1 b o q e)
  | true=>
   obtain⟨t1,t2,ps,t3⟩:=tb b q
   rw[e] at t2
   cases t2
   exact .inr (.inl ⟨t1,rfl,#[],ps,rfl,by erw[rwl (Array.empty_append ..) ?_];exact t3⟩)
 ·cases q:ZeG b with
  | false=>exact⟨o,g.1 b o q e⟩
  | true=>obtain⟨_,_,ps,t3⟩:=tb b q;exact⟨_,t3⟩
noncomputable def qL:Program:=view PySem.Challenge.pw_rx0098_01 [0,28]
noncomputable def ZhT:List Str := "_initial_missing" :: "_twin_re_1" :: "_special_chars_map" :: (List.range 19).map fnN
noncomputable def ZvS:DefRec:=((defOf qL "law").map (·.1)).getD ((recsOf qL).headD ⟨"",default,[],scN 0,default⟩)
noncomputable def ZeC (w : World) : Prop := (Zja (stepT (denote treeTable)) (start (opening PySem.Challenge.pw_rx0098_01)) (opening PySem.Challenge.pw_rx0098_01) PySem.Challenge.pw_rx0098_01 w 3000).map (fun r =>
      (staticsOk (importedModules PySem.Challenge.pw_rx0098_01.main.body) r.1.heap r.2.abs.heap&&namesBound PySem.Challenge.pw_rx0098_01 r.2.abs.heap&&gensDone r.2.abs&&laidKept r.1.heap r.2.abs.heap,
        openSeen qL ZhT (importedModules PySem.Challenge.pw_rx0098_01.main.body) (λ_=>true) true r.2.abs,obs r.2.abs.heap))=some (true,openGood qL ZhT,want)
theorem Zsf(w:World):ZeC ((w.withFollow "comprehension-iter-twice" false).withFollow "special-get-raises" false):=by
 unfold ZeC
 erw[rwl (PySem.W.Fast.te10156331382660048174 ..) (rwl (PySem.W.Fast.te11892475500146522536 ..) (rwl (PySem.W.Fast.te1435165496053646825 ..) (rwl (PySem.W.Fast.te14364793385576792824 ..) (rwl (PySem.W.Fast.te4187177175401517315 ..) ?_))))]
 kernel_rfl
theorem ZtB(w:World):ZeC ((w.withFollow "comprehension-iter-twice" false).withFollow "special-get-raises" true):=by
 unfold ZeC
 erw[rwl (PySem.W.Fast.te10156331382660048174 ..) (rwl (PySem.W.Fast.te11892475500146522536 ..) (rwl (PySem.W.Fast.te1435165496053646825 ..) (rwl (PySem.W.Fast.te14364793385576792824 ..) (rwl (PySem.W.Fast.te4187177175401517315 ..) ?_))))]
 kernel_rfl
theorem Zsw(w:World):ZeC ((w.withFollow "comprehension-iter-twice" true).withFollow "special-get-raises" false):=by
 unfold ZeC
 erw[rwl (PySem.W.Fast.te10156331382660048174 ..) (rwl (PySem.W.Fast.te11892475500146522536 ..) (rwl (PySem.W.Fast.te1435165496053646825 ..) (rwl (PySem.W.Fast.te14364793385576792824 ..) (rwl (PySem.W.Fast.te4187177175401517315 ..) ?_))))]
 kernel_rfl
theorem Zr3(w:World):ZeC ((w.withFollow "comprehension-iter-twice" true).withFollow "special-get-raises" true):=by
 unfold ZeC
 erw[rwl (PySem.W.Fast.te10156331382660048174 ..) (rwl (PySem.W.Fast.te11892475500146522536 ..) (rwl (PySem.W.Fast.te1435165496053646825 ..) (rwl (PySem.W.Fast.te14364793385576792824 ..) (rwl (PySem.W.Fast.te4187177175401517315 ..) ?_))))]
 kernel_rfl
theorem Zm8(a b:Bool)(w:World):ZeC ((w.withFollow "comprehension-iter-twice" a).withFollow "special-get-raises" b):=by
 cases a<;>cases b
 ·exact Zsf w
 ·exact ZtB w
 ·exact Zsw w
 ·exact Zr3 w
end
section
set_option maxRecDepth 100000
theorem ZoF:LeftO PySem.Challenge.pw_rx0098_01 qL ZhT (λ_=>true) (λs=>obs s.heap) (λ_=>want) 3000 true:=
 ZpS λw=>byRow2 (P:=ZeC) "special-get-raises" (λw=>byRow2 (P:=λw=>ZeC (w.withFollow "special-get-raises" false)) "comprehension-iter-twice" (Zm8 false false) (Zm8 true false) w)
  (λw=>byRow2 (P:=λw=>ZeC (w.withFollow "special-get-raises" true)) "comprehension-iter-twice" (Zm8 false true) (Zm8 true true) w) w
theorem said:PySem.Challenge.rw_rx0098_01.wellSaid=true:=by
 erw[rwl (PySem.W.Fast.te9446332074065402090 ..) ?_]
 kernel_rfl
theorem hd(call:WalkO qL ZhT (λ_ _=>True) (λ_ h=>∃P,Inn P h) PySem.Challenge.rw_rx0098_01.row.toRowW ZvS [] λf vs=>PySem.call f vs):PySem.Challenge.rw_rx0098_01.Holds:=
 holds_law said λs=>holds_open (q:=qL) (loose:=ZhT) (XP:=λ_ _=>True) ZoF (λw s e=>⟨s.heap,λ_ _ e=>e,e⟩) (λw h h' x k=>let ⟨P,y⟩:=x;⟨P,λb o e=>k _ _ (y.kp b o e),y.e⟩) (λ_ _=>trivial) (λ_ _ _ _ _=>trivial)
  (by kernel_rfl) (by kernel_rfl) (by kernel_rfl) (λs e=>recFacts_nil (by kernel_rfl)) (by kernel_rfl) s (by kernel_rfl) ⟨rfl,rfl,rfl,rfl,rfl,by decide +kernel⟩ ⟨[.list []],by kernel_rfl,by kernel_rfl⟩ call
end
section
set_option maxRecDepth 100000
theorem ZuX{q:Str}(e:q = "law"):∃pq∈xsL,pq.1.line=302∧pq.1.col=11∧pq.2=(q ++ ".<locals>.")++("<lambda>" : Str):=⟨(⟨302,11,0,0⟩,"law.<locals>.<lambda>"),List.mem_singleton.mpr rfl,rfl,rfl,by erw[rwl (e ..) ?_];kernel_rfl⟩
theorem ZsC{l:List (Str×NameKind)}(h:l.all (λp=>p.2 != .cell)=true):∀p∈l,p.2≠.cell:=λp hp=>bne_iff_ne.mp (List.all_eq_true.mp h p hp)
set_option tactic.hygienic true in
theorem final(hsem:∀l:List Int,l.length<=63->Zo0 ΓE fuel 14 Zg0 Zdi Zfm Zlj Zl4 (.list (l.map .int))):PySem.Challenge.rw_rx0098_01.Holds:=by
 refine hd λw s₀ s₁ mg mb G Y a o pm cd doc dV kV h1 h2 h3 h4 h5 h6 args vals as hpre hlay hrd hwell has=>?_
 obtain⟨P,hIn⟩:=Y
 have T:=G.T
 have ea:a=faN 19:=by
  have:=mgF hIn T.g 19 (by decide)
  rw[show fnN 19=("law" : Str) from rfl,show mg "law" = _ from h5] at this
  cases this
  rfl
 subst ea
 clear h1 h2 h3 h4
 obtain⟨ns,rfl⟩:=ZnO (Bool.and_eq_true_iff.mp (show(WShape.hasAll [] args [.list .int]&&_)=true from hpre)).1
 have hlen:=ZqE hpre
 cases hwell with
 | cons hw hn=>
  cases hn
  cases hw with
  | list hl hws=>
   rename_i l vs
   have Gr':=ZuL hIn T
   have OT:=ZvJ hIn T
   have OL:=ZvQ hIn T
   have Df:=hIn.ZmW 18 (by decide)
   rw[←List.take_append_drop 9 (Zkb (18+1))] at Df
   refine wpAny_call ?_
   obtain⟨_,_,_,_,_,_,_,_,V⟩:=(hsem ns hlen).run
   refine ZrC (n:=60) (N:=fuel) (xl:=Zdi) (xc:=Zfm) (tX:=Zlj) (rX:=Zl4) (st:=Zg0) (nms:=ZpG.drop 1) (P:=λ_=>True) Gr' (cE hIn Gr' T.g OT) OL (Zua hIn T.g) (hIn.fn 0 (by decide)).1 (mgF hIn T.g 0 (by decide)) (Zib hIn) Df (eq_of_beq (hIn.chk 18 rfl (by decide))) (hIn.fn 19 (by decide)).2 (by decide) (by kernel_rfl) (by decide)
    (ZuX (eq_of_beq (hIn.chk 20 rfl (by decide)))) (by kernel_rfl) (by kernel_rfl) ⟨by decide,by kernel_rfl,rfl,rfl,rfl,ZsC (by kernel_rfl),by kernel_rfl,by kernel_rfl,by kernel_rfl⟩ (ZnT (by kernel_rfl)) (by kernel_rfl) (by decide) (by decide) (by kernel_rfl) (by decide) (by kernel_rfl) (by kernel_rfl) (by kernel_rfl) (by kernel_rfl) (by kernel_rfl) (by kernel_rfl) (by kernel_rfl) (by decide) (by decide) (by kernel_rfl) (by kernel_rfl) (by kernel_rfl) (by kernel_rfl) (by kernel_rfl) (by kernel_rfl) (by kernel_rfl)
    V ?_ (gd0 hIn) (by kernel_rfl) (λa h=>absurd trivial h) ?_ λs' g' o'=>?_
   ·exact⟨rfl,by decide,by decide⟩
   ·exact .cons (.list trivial ⟨0,hl⟩ (Zg8 hws) (by erw[rwl (szv ..) ?_];simp;lia)) .nil
   ·refine⟨.inl ⟨.bool true,.bool true,[],rfl,λcls=>rfl,.bool true,ZpR ns,λ_=>⟨List.nodup_nil,λa h=>nomatch h⟩⟩,Zsi hIn o'.gd,g'.os,g'.gens (.of_eq h6)⟩
end
end Mine.Internal
theorem PySem.Challenge.cw_rx0098_01_holds : PySem.Challenge.rw_rx0098_01.Holds :=
  Mine.Internal.final Mine.Internal.law_sem
