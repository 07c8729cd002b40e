import PyProof.Rows.All
import Wide.All
import OpenK.AllK
import Wide.FinOn
import Lean
import PySem.Challenge.RW_ty0068_01
open PySem PySem.W PyProof.Rows
set_option Elab.async false
set_option maxRecDepth 100000
set_option linter.unusedVariables false
set_option linter.unusedSimpArgs false
namespace Mine
noncomputable section

def kO(M:Model)(Γ:Ctx)(p:Pos)(t:Sem PySem.Fin)(s:Shared)(e:End)(s':Shared):List Frame→Prop
 |F::fs=>∃C8 AB,Runs M (Γ.over (F::fs)) p t [] s C8 AB∧(match C8 with
  |.ret r=>(match F with
   |.ret k _ _ _ Q4 SD _=>Runs M (Γ.goto Q4) SD (k r) fs AB e s'
   |.gen g k _ Q4 SD=>Runs M (Γ.goto Q4) SD (k (End.ret r).result) fs (AB.setGen g .finished) e s')
  |.susp v UJ U2 LH JZ P0 oI=>∀x,splitAtGen (F::fs)=x→(match x with
   |none=>e=.susp v UJ U2 LH JZ P0 (oI++F::fs)∧s'=AB
   |some (pre,(g,k,Q4,SD),rest)=>Runs M (Γ.goto Q4) SD (k (.yielded v)) rest (AB.setGen g (End.susp v UJ U2 LH JZ P0 (oI++pre)).genState) e s'))
 |[]=>match t with
  |.pure (.done f)=>e=.ret (.ok f)∧s'=s
  |.pure (.again c)=>Runs M (Γ.goto c) p (M.den c) [] s e s'
  |.raise x=>e=.ret (.error x)∧s'=s
  |.rule _ k=>Runs M Γ p (k ()) [] s e s'
  |.at p' k=>Runs M Γ p' (k ()) [] s e s'
  |.load a _ k=>∀x,s.heap.get? a=x→(match x with
   |some o=>Runs M Γ p (k o) [] s e s'
   |none=>True)
  |.update a _ f k=>Runs M Γ p (k ()) [] {s with heap:=s.heap.update a f} e s'
  |.loadIfAlive a k=>Runs M Γ p (k (s.heap.get? a)) [] s e s'
  |.point _ k=>Runs M Γ p (k ()) [] s e s'
  |.alloc o k=>Runs M Γ p (k s.heap.objs.size) [] {s with heap:=s.heap.push o} e s'
  |.fresh k=>Runs M Γ p (k s.toks) [] {s with toks:=s.toks+1} e s'
  |.ask k=>Runs M Γ p (k ⟨M.prog,M.w.params⟩) [] s e s'
  |.choose src n k=>Runs M Γ p (k (M.w.draws src (s.drawn.get src)%n)) [] {s with drawn:=s.drawn.bump src} e s'
  |.os q _ k=>Runs M Γ p (k (Os.step s.os q).2) [] {s with os:=(Os.step s.os q).1} e s'
  |.handled own k=>Runs M Γ p (k (if own then Γ.own else Γ.handled)) [] s e s'
  |.genState g k=>∀x,s.gens[g]? =x→(match x with
   |some st=>Runs M Γ p (k st.seen) [] s e s'
   |none=>True)
  |.stack k=>Runs M Γ p (k ((Γ.code,p)::Γ.below)) [] s e s'
  |.thread k=>Runs M Γ p (k 0) [] s e s'
  |.newGen c k=>Runs M Γ p (k s.gens.size) [] {s with gens:=s.gens.push (.fresh c)} e s'
  |.call c h g l k=>∃C8 AB,Runs M (Γ.enter c h p) p (M.den c) [] s C8 AB∧(match C8 with
   |.ret r=>Runs M Γ p (k r) [] AB e s'
   |.susp v UJ U2 LH JZ P0 fs=>e=.susp v UJ U2 LH JZ P0 (fs++[.ret k h g l Γ.code p []])∧s'=AB)
  |.yield v g l k=>e=.susp v g l k Γ.code p []∧s'=s
  |.resume g r _ k=>∃res AB,Wakes M Γ p g r s res AB∧Runs M Γ p (k res) [] AB e s'
  |.unsupported _=>True
  |.finish _=>True
  |.register _ _=>True
  |.fork _ _=>True
  |.await _ _ _ _ _=>True
theorem ZO{α:Type}{P:Option α→Prop}{a:α}{y:Option α}(e:y=some a)(h:P (some a)):∀x,y=x→P x:= λx q=>(e.symm.trans q)▸h
theorem xQ{α:Type}{P:Option α→Prop}{y:Option α}(e:y=none)(h:P none):∀x,y=x→P x:= λx q=>(e.symm.trans q)▸h
theorem JO{M:Model}{Γ:Ctx}{p:Pos}{g:Nat}{r:Resume}{s s':Shared}{res:GenResult}{st:GenState}(e:s.gens[g]? =some st):
  Wakes M Γ p g r s res s'=(match(generalizing:=false) st with
   |.fresh c=>(match r with
    |.send .none=>∃C8 AB,Runs M (Γ.wake c p) p (M.den c) [] (s.setGen g .running) C8 AB∧C8.quiet=true∧res=C8.result∧s'=AB.setGen g C8.genState
    |.send _=>res=.justStarted∧s'=s
    |.throw x=>res=.raised x∧s'=s.setGen g .finished)
   |.suspended LH _ JZ P0 fs _=>∃C8 AB,Runs M (Γ.wake JZ p) P0 (LH r) fs (s.setGen g .running) C8 AB∧C8.quiet=true∧res=C8.result∧s'=AB.setGen g C8.genState
   |.running=>res=.running∧s'=s
   |.finished=>res=.finished∧s'=s):=by
 unfold Wakes;rw[e];cases st<;>rfl
theorem VQ{M:Model}{Γ:Ctx}{p:Pos}{g:Nat}{v:Value}{s s':Shared}{res:GenResult}{c:Code}(e:s.gens[g]? =some (.fresh c))(hv:v≠.none):Wakes M Γ p g (.send v) s res s'=(res=.justStarted∧s'=s):=by
 rw[JO e];cases v<;>first|exact absurd rfl hv|rfl
theorem DN{M:Model}{Γ:Ctx}{p:Pos}{t:Sem PySem.Fin}{fs:List Frame}{s s':Shared}{e:End}(h:Runs M Γ p t fs s e s'):kO M Γ p t s e s' fs:=
 Runs.casesOn (motive:= λΓ p t fs s e s' V=>kO M Γ p t s e s' fs) h ⟨rfl,rfl⟩ ⟨rfl,rfl⟩ (λV h=>h) (λh=>h) (λh=>h) (λe h=>ZO e h) (λV h=>h) (λh=>h) (λh=>h) (λh=>h) (λh=>h) (λh=>h) (λV h=>h) (λh=>h) (λh=>h)
  (λe h=>ZO e h) (λh=>h) (λh=>h) (λh=>h) (λh1 h2=>⟨_,_,h1,h2⟩) (λh1=>⟨_,_,h1,rfl,rfl⟩) ⟨rfl,rfl⟩ (λe h1 q h2=>⟨_,_,(JO e).mpr ⟨_,_,h1,q,rfl,rfl⟩,h2⟩) (λe h1 q h2=>⟨_,_,(JO e).mpr ⟨_,_,h1,q,rfl,rfl⟩,h2⟩)
  (λe hv h=>⟨_,_,(VQ e hv).mpr ⟨rfl,rfl⟩,h⟩) (λe h=>⟨_,_,(JO e).mpr ⟨rfl,rfl⟩,h⟩) (λe h=>⟨_,_,(JO e).mpr ⟨rfl,rfl⟩,h⟩) (λe h=>⟨_,_,(JO e).mpr ⟨rfl,rfl⟩,h⟩) (λh1 h2=>⟨_,_,h1,h2⟩) (λh1 h2=>⟨_,_,h1,h2⟩) (λq h1=>⟨_,_,h1,xQ q ⟨rfl,rfl⟩⟩) (λq h1 V h2=>⟨_,_,h1,ZO q h2⟩)
theorem two{α β:Type}{a a':α}{b b':β}(h:a'=a∧b'=b):a=a'∧b=b':=⟨h.1.symm,h.2.symm⟩
theorem P6{P:End→Shared→Prop}{G:Prop}{C8:End}{AB:Shared}{R:End→Shared→Prop}(ih:∀{e s},R e s→C8=e∧AB=s)(q:∃e s,R e s∧P e s)(k:P C8 AB→G):G:=by
 obtain⟨e,s,h,hp⟩:=q;obtain⟨rfl,rfl⟩:=ih h;exact k hp
theorem eZ{P:GenResult→Shared→Prop}{G:Prop}{C8:End}{AB:Shared}{g:Nat}{R:End→Shared→Prop}(ih:∀{e s},R e s→C8=e∧AB=s)(q:∃r t,(∃e s,R e s∧e.quiet=true∧r=e.result∧t=s.setGen g e.genState)∧P r t)(k:P C8.result (AB.setGen g C8.genState)→G):G:=by
 obtain⟨r,t,⟨e,s,h,_,rfl,rfl⟩,hp⟩:=q;obtain⟨rfl,rfl⟩:=ih h;exact k hp
theorem VL{P:GenResult→Shared→Prop}{G:Prop}{a:GenResult}{b:Shared}(q:∃r t,(r=a∧t=b)∧P r t)(k:P a b→G):G:=by
 obtain⟨r,t,⟨rfl,rfl⟩,hp⟩:=q;exact k hp
theorem QB{M:Model}{Γ:Ctx}{p:Pos}{g:Nat}{r:Resume}{s:Shared}{P:GenResult→Shared→Prop}{R:GenResult→Shared→Prop}(e:∀a b,Wakes M Γ p g r s a b=R a b)(q:∃a b,Wakes M Γ p g r s a b∧P a b):∃a b,R a b∧P a b:=by
 obtain⟨a,b,h,hp⟩:=q;exact⟨a,b,(e a b).mp h,hp⟩
def kY(M:Model)(Γ:Ctx)(p:Pos)(t:Sem PySem.Fin)(fs:List Frame)(s:Shared)(e:End)(s':Shared):Prop:=∀{nJ AF},Runs M Γ p t fs s nJ AF→e=nJ∧s'=AF
theorem rY{M:Model}{Γ:Ctx}{p:Pos}{t:Sem PySem.Fin}{fs:List Frame}{s AB:Shared}{C8:End}(h:Runs M Γ p t fs s C8 AB):kY M Γ p t fs s C8 AB:=
 Runs.rec (motive:= λΓ p t fs s e s' V=>kY M Γ p t fs s e s') (λq=>two (DN q)) (λq=>two (DN q)) (λV V ih V V q=>ih (DN q)) (λV ih V V q=>ih (DN q)) (λV ih V V q=>ih (DN q)) (λe V ih V V q=>ih (DN q _ e)) (λV V ih V V q=>ih (DN q)) (λV ih V V q=>ih (DN q)) (λV ih V V q=>ih (DN q)) (λV ih V V q=>ih (DN q)) (λV ih V V q=>ih (DN q)) (λV ih V V q=>ih (DN q)) (λV V ih V V q=>ih (DN q)) (λV ih V V q=>ih (DN q)) (λV ih V V q=>ih (DN q))
  (λe V ih V V q=>ih (DN q _ e)) (λV ih V V q=>ih (DN q)) (λV ih V V q=>ih (DN q)) (λV ih V V q=>ih (DN q)) (λV V ih1 ih2 V V q=>P6 ih1 (DN q) ih2) (λV ih1 V V q=>P6 ih1 (DN q) two) (λq=>two (DN q))
  (λe V V V ih1 ih2 V V q=>eZ ih1 (QB (λV V=>JO e) (DN q)) ih2) (λe V V V ih1 ih2 V V q=>eZ ih1 (QB (λV V=>JO e) (DN q)) ih2) (λe hv V ih V V q=>VL (QB (λV V=>VQ e hv) (DN q)) ih) (λe V ih V V q=>VL (QB (λV V=>JO e) (DN q)) ih) (λe V ih V V q=>VL (QB (λV V=>JO e) (DN q)) ih) (λe V ih V V q=>VL (QB (λV V=>JO e) (DN q)) ih)
  (λV V ih1 ih2 V V q=>P6 ih1 (DN q) ih2) (λV V ih1 ih2 V V q=>P6 ih1 (DN q) ih2) (λz V ih1 V V q=>P6 ih1 (DN q) λh=>two (h _ z)) (λz V V V ih1 ih2 V V q=>P6 ih1 (DN q) λh=>ih2 (h _ z)) h
theorem T1{A:GenResult}{B:Shared}{a b:GenResult}{AB AF:Shared}(h:a=A∧AB=B)(h':b=A∧AF=B):a=b∧AB=AF:=⟨h.1.trans h'.1.symm,h.2.trans h'.2.symm⟩
theorem Pn{M:Model}{Γ:Ctx}{p:Pos}{g:Nat}{r:Resume}{s AB AF:Shared}{a b:GenResult}
  (h:Wakes M Γ p g r s a AB)(h':Wakes M Γ p g r s b AF):a=b∧AB=AF:=by
 have run:∀{Γ p t fs s}{a b:GenResult}{AB AF:Shared},(∃C8 P9,Runs M Γ p t fs s C8 P9∧C8.quiet=true∧a=C8.result∧AB=P9.setGen g C8.genState)→(∃C8 P9,Runs M Γ p t fs s C8 P9∧C8.quiet=true∧b=C8.result∧AF=P9.setGen g C8.genState)→a=b∧AB=AF:=by
  intro _ _ _ _ _ a b AB AF h h';obtain⟨C8,P9,hr,_,rfl,rfl⟩:=h;exact eZ (P:= λx y=>x=b∧y=AF) (rY hr) ⟨_,_,h',rfl,rfl⟩ id
 cases e:s.gens[g]? with
 |none=>unfold Wakes at h;rw[e]at h;exact h.elim
 |some st=>
  have w:=@JO M Γ p g r s;cases st with
  |fresh c=>
   cases r with
   |send v=>
    by_cases hv:v=.none
    ·subst hv;exact run ((w e).mp h) ((w e).mp h')
    ·exact T1 ((VQ e hv).mp h) ((VQ e hv).mp h')
   |throw x=>exact T1 ((w e).mp h) ((w e).mp h')
  |suspended _ _ _ _ _ _=>exact run ((w e).mp h) ((w e).mp h')
  |running=>exact T1 ((w e).mp h) ((w e).mp h')
  |finished=>exact T1 ((w e).mp h) ((w e).mp h')
theorem nI{α:Type}{o:Option α}{P P':α→Prop}{G:α→Prop}(k:∀a,P a→P' a→G a)(h:∃a,o=some a∧P a)(h':∃a,o=some a∧P' a):∃a,o=some a∧G a:=
 h.elim λa q=>h'.elim λb q'=>⟨a,q.1,k a q.2 ((Option.some.inj (q'.1.symm.trans q.1))▸q'.2)⟩
theorem Px{α:Type}(M:Model)(Γ:Ctx)(Q Q':α→Pos→Shared→Prop)(E E':Value→Pos→Shared→Prop)(t:Sem α):∀(p:Pos)(s:Shared),Sem.wp M Γ t Q E p s→Sem.wp M Γ t Q' E' p s→
  Sem.wp M Γ t (λa p' s'=>Q a p' s'∧Q' a p' s') (λe p' s'=>E e p' s'∧E' e p' s') p s:=
 Sem.rec (motive:= λt=>∀p s,Sem.wp M Γ t Q E p s→Sem.wp M Γ t Q' E' p s→Sem.wp M Γ t (λa p' s'=>Q a p' s'∧Q' a p' s') (λe p' s'=>E e p' s'∧E' e p' s') p s)
  (λV V V=>.intro) (λV V V=>.intro) (λV V V h V=>h) (λV V V h V=>h) (λV V ih p s=>ih () p s) (λp' V ih V s=>ih () p' s) (λV V V ih p s=>nI λo=>ih o p s) (λV V V V ih p V h h'=>⟨h.1,ih () p _ h.2 h'.2⟩) (λV V ih p V=>ih _ p _) (λV V ih p s=>ih _ p s) (λV V ih p s=>ih () p s) (λV V V V V h V=>h) (λV ih p V=>ih _ p _) (λV ih p s=>ih _ p s)
  (λV V V ih p V h h'=>⟨h.1,ih _ p _ h.2 h'.2⟩) (λV V V ih p V=>ih _ p _) (λc hd V V k ih p s h h'=>h.elim λr q=>q.elim λs' q=>h'.elim λr' q'=>q'.elim λs'' q'=>⟨r,s',q.1,ih r p s' q.2 (have z:=rY q.1 q'.1;End.noConfusion z.1 (λy=>y▸z.2▸q'.2))⟩) (λV V ih p s=>ih _ p s) (λV V ih p V=>ih _ p _) (λV V ih p s=>nI λst=>ih _ p s) (λg r V k ih p s h h'=>h.elim λr q=>q.elim λs' q=>h'.elim λr' q'=>q'.elim λs'' q'=>⟨r,s',q.1,ih r p s' q.2 (have z:=Pn q.1 q'.1;z.1▸z.2▸q'.2)⟩)
  (λV V V V V V V h V=>h) (λV ih p s=>ih _ p s) (λV V V V V h V=>h) (λV ih p s=>ih _ p s) (λV V V V V V V V h V=>h) t
theorem fD{α:Type}{M:Model}{A:Around}{t:Sem α}{Q Q':α→Shared→Prop}{E E':Value→Shared→Prop}{s:Shared}
  (h:wpAny M A t Q E s)(h':wpAny M A t Q' E' s):wpAny M A t (λa s'=>Q a s'∧Q' a s') (λe s'=>E e s'∧E' e s') s:=
 λΓ p hΓ=>Px M Γ _ _ _ _ t p s (h Γ p hΓ) (h' Γ p hΓ)
namespace G1
end G1
universe u
inductive D where
 |none
 |bool (b:Bool)
 |int (i:Int)
 |str (s:Str)
 |flt (b:UInt64)
 |ty (n:String)
 |adr (a:Addr)
 |tup (l:List D)
 |lst (l:List D)
 |obj (C:Addr) (names:List Str) (l:List D)
 |rng (a b:Int)
 |clo (fd:FuncData) (names:List Str) (l:List D)
 |ilst (l:List D)
noncomputable abbrev Gm:=Addr→Obj→Prop
def G3:List DictEntry→List Str→Prop
 |[],[]=>True
 |e::r,x::xs=>e.key.isStr x=true∧G3 r xs
 |_,_=>False
noncomputable def ZU(fd:FuncData):FuncData:={fd with closure:=[],closureTuple:=.none,code:=.none,qualname:=""}
inductive HR(g:Gm):List (Str×Addr)→List Str→List Value→Prop where
 |nil:HR g [] [] []
 |cons {x c oc v cs xs vs}:g c oc→oc.data=.cell (some v)→HR g cs xs vs→HR g ((x,c)::cs) (x::xs) (v::vs)
theorem HR.mono{g g':Gm}(hg:∀a o,g a o→g' a o){cs:List (Str×Addr)}{xs:List Str}{vs:List Value}(H:HR g cs xs vs):HR g' cs xs vs:=by
 induction H with
 |nil=>exact .nil
 |cons a b _ ih=>exact .cons (hg _ _ a) b ih
mutual
inductive AQ(g:Gm):Value→D→Prop where
 |none:AQ g .none .none
 |bool (b):AQ g (.bool b) (.bool b)
 |int (i t):AQ g (.int i t) (.int i)
 |str (s t):AQ g (.str s t) (.str s)
 |flt (b t):AQ g (.float b t) (.flt b)
 |ty (n):AQ g (.type n) (.ty n)
 |adr (a):AQ g (.ref a) (.adr a)
 |tup {a o vs n ds}:g a o→o.cls=.type "tuple"→o.data=.seq (List.toArray vs) n→AJ g vs ds→AQ g (.ref a) (.tup ds)
 |lst {a vs n ds}:g a {cls:=.type "list",data:=.seq (List.toArray vs) n}→AJ g vs ds→AQ g (.ref a) (.lst ds)
 |obj {a dx C ns vs ds n} {es:List DictEntry}:g a (instObj C dx)→g dx (dictOf es n)→es.map (·.val)=vs→G3 es ns→AJ g vs ds→AQ g (.ref a) (.obj C ns ds)
 |rng {r o a b}:g r o→(∃t u v,∀h:Heap,h.get? r=some o→IsRange h r a b 1 t u v)→AQ g (.ref r) (.rng a b)
 |clo {a o fd xs vs ds}:g a o→o.data=.func fd→(∀h:Heap,(∀b x,g b x→h.get? b=some x)→h.CodeRec fd.code fd.qualname)→HR g fd.closure xs vs→AJ g vs ds→AQ g (.ref a) (.clo (ZU fd) xs ds)
 |ilst {a o vs n ds}:g a o→o.cls=.type "list"→o.data=.seq (List.toArray vs) n→AJ g vs ds→AQ g (.ref a) (.ilst ds)
inductive AJ(g:Gm):List Value→List D→Prop where
 |nil:AJ g [] []
 |cons {v vs d ds}:AQ g v d→AJ g vs ds→AJ g (v::vs) (d::ds)
end
theorem lV{g g':Gm}(hg:∀a o,g a o→g' a o):(∀v d,AQ g v d→AQ g' v d)∧∀vs ds,AJ g vs ds→AJ g' vs ds:=
 ⟨λv d h=>AQ.rec (motive_1:= λv d V=>AQ g' v d) (motive_2:= λvs ds V=>AJ g' vs ds) .none .bool .int .str .flt .ty .adr (λa b c V ih=>.tup (hg _ _ a) b c ih) (λa V ih=>.lst (hg _ _ a) ih) (λa b c d V ih=>.obj (hg _ _ a) (hg _ _ b) c d ih) (λa b=>.rng (hg _ _ a) b)
   (λa b r c V ih=>.clo (hg _ _ a) b (λh k=>r h λb x e=>k b x (hg b x e)) (c.mono hg) ih) (λa b c V ih=>.ilst (hg _ _ a) b c ih) .nil (λV V a b=>.cons a b) h,
  λv d h=>AJ.rec (motive_1:= λv d V=>AQ g' v d) (motive_2:= λvs ds V=>AJ g' vs ds) .none .bool .int .str .flt .ty .adr (λa b c V ih=>.tup (hg _ _ a) b c ih) (λa V ih=>.lst (hg _ _ a) ih) (λa b c d V ih=>.obj (hg _ _ a) (hg _ _ b) c d ih) (λa b=>.rng (hg _ _ a) b)
   (λa b r c V ih=>.clo (hg _ _ a) b (λh k=>r h λb x e=>k b x (hg b x e)) (c.mono hg) ih) (λa b c V ih=>.ilst (hg _ _ a) b c ih) .nil (λV V a b=>.cons a b) h⟩
theorem AQ.mono{g g':Gm}(hg:∀a o,g a o→g' a o){v:Value}{d:D}(h:AQ g v d):AQ g' v d:=(lV hg).1 v d h
theorem AJ.mono{g g':Gm}(hg:∀a o,g a o→g' a o){v:List Value}{d:List D}(h:AJ g v d):AJ g' v d:=(lV hg).2 v d h
def fS(g:Gm)(v:Value):D→Prop
 |.none=>v=.none
 |.bool b=>v=.bool b
 |.int i=>∃t,v=.int i t
 |.str x=>∃t,v=.str x t
 |.flt b=>∃t,v=.float b t
 |.ty n=>v=.type n
 |.adr a=>v=.ref a
 |.tup ds=>∃a o vs n,v=.ref a∧g a o∧o.cls=.type "tuple"∧o.data=.seq (List.toArray vs) n∧AJ g vs ds
 |.lst ds=>∃a vs n,v=.ref a∧g a {cls:=.type "list",data:=.seq (List.toArray vs) n}∧AJ g vs ds
 |.obj C ns ds=>∃a dx n es,v=.ref a∧g a (instObj C dx)∧g dx (dictOf es n)∧G3 es ns∧AJ g (es.map (·.val)) ds
 |.rng a b=>∃r o,v=.ref r∧g r o∧∃t u w,∀h:Heap,h.get? r=some o→IsRange h r a b 1 t u w
 |.clo fd xs ds=>∃a o fd' vs,v=.ref a∧g a o∧o.data=.func fd'∧ZU fd'=fd∧(∀h:Heap,(∀b x,g b x→h.get? b=some x)→h.CodeRec fd'.code fd'.qualname)∧HR g fd'.closure xs vs∧AJ g vs ds
 |.ilst ds=>∃a o vs n,v=.ref a∧g a o∧o.cls=.type "list"∧o.data=.seq (List.toArray vs) n∧AJ g vs ds
theorem AQ.inv{g:Gm}{v:Value}{d:D}(h:AQ g v d):fS g v d:=
 AQ.casesOn (motive_1:= λv d V=>fS g v d) h rfl (λV=>rfl) (λV t=>⟨t,rfl⟩) (λV t=>⟨t,rfl⟩) (λV t=>⟨t,rfl⟩) (λV=>rfl) (λV=>rfl)
  (λa b c d=>⟨_,_,_,_,rfl,a,b,c,d⟩) (λa d=>⟨_,_,_,rfl,a,d⟩) (λa b c d e=>by subst c;exact⟨_,_,_,_,rfl,a,b,d,e⟩) (λa b=>⟨_,_,rfl,a,b⟩) (λa b c d e=>⟨_,_,_,_,rfl,a,b,rfl,c,d,e⟩) (λa b c d=>⟨_,_,_,_,rfl,a,b,c,d⟩)
def kT(g:Gm)(vs:List Value):List D→Prop
 |[]=>vs=[]
 |d::ds=>∃v us,vs=v::us∧AQ g v d∧AJ g us ds
theorem AJ.inv{g:Gm}{vs:List Value}{ds:List D}(h:AJ g vs ds):kT g vs ds:=
 AJ.casesOn (motive_2:= λvs ds V=>kT g vs ds) h rfl λa b=>⟨_,_,rfl,a,b⟩
theorem AI{α:Type u}{x:α}{P:Prop}(h:none=some x):P:=nomatch h
theorem dM{α:Type u}{x:α}{P:Prop}(h:some x=none):P:=nomatch h
theorem MI{P:Prop}(h:false=true):P:=nomatch h
theorem GW{α β:Type}{a a':α}{b b':β}(h:some (a,b)=some (a',b')):a=a'∧b=b':=Prod.mk.inj (Option.some.inj h)
theorem Sb{α β:Type}{a a':α}{b b':β}(h:some (a,b)=some (a',b')):a'=a∧b'=b:=Prod.mk.inj (Option.some.inj h.symm)
theorem Sa{α:Type}{a a':α}(h:some a=some a'):a'=a:=Option.some.inj h.symm
theorem AQ.int_inv{g:Gm}{v:Value}{i:Int}(h:AQ g v (.int i)):∃t,v=.int i t:=h.inv
theorem AQ.str_inv{g:Gm}{v:Value}{i:Str}(h:AQ g v (.str i)):∃t,v=.str i t:=h.inv
theorem AQ.flt_inv{g:Gm}{v:Value}{i:UInt64}(h:AQ g v (.flt i)):∃t,v=.float i t:=h.inv
theorem AQ.bool_inv{g:Gm}{v:Value}{i:Bool}(h:AQ g v (.bool i)):v=.bool i:=h.inv
theorem AQ.none_inv{g:Gm}{v:Value}(h:AQ g v .none):v=.none:=h.inv
theorem AQ.ty_inv{g:Gm}{v:Value}{i:String}(h:AQ g v (.ty i)):v=.type i:=h.inv
theorem AQ.adr_inv{g:Gm}{v:Value}{i:Addr}(h:AQ g v (.adr i)):v=.ref i:=h.inv
theorem AJ.nil_inv{g:Gm}{vs:List Value}(h:AJ g vs []):vs=[]:=h.inv
theorem AJ.cons_inv{g:Gm}{vs:List Value}{d:D}{ds:List D}(h:AJ g vs (d::ds)):∃v us,vs=v::us∧AQ g v d∧AJ g us ds:=h.inv
theorem AJ.one_inv{g:Gm}{vs:List Value}{d:D}(h:AJ g vs [d]):∃v,vs=[v]∧AQ g v d:=
 let ⟨v,_,e,a,r⟩:=h.cons_inv;⟨v,by rw[e,r.nil_inv],a⟩
theorem AJ.two_inv{g:Gm}{vs:List Value}{d e:D}(h:AJ g vs [d,e]):∃v u,vs=[v,u]∧AQ g v d∧AQ g u e:=
 let ⟨v,_,q,a,r⟩:=h.cons_inv;let ⟨u,q',b⟩:=r.one_inv;⟨v,u,by rw[q,q'],a,b⟩
theorem AJ.three_inv{g:Gm}{vs:List Value}{d e f:D}(h:AJ g vs [d,e,f]):∃v u t,vs=[v,u,t]∧AQ g v d∧AQ g u e∧AQ g t f:=
 let ⟨v,_,q,a,r⟩:=h.cons_inv;let ⟨u,t,q',b,c⟩:=r.two_inv;⟨v,u,t,by rw[q,q'],a,b,c⟩
theorem AJ.length{g:Gm}{vs:List Value}{ds:List D}(h:AJ g vs ds):vs.length=ds.length:=by
 induction ds generalizing vs with
 |nil=>rw[h.nil_inv];rfl
 |cons d ds ih=>obtain⟨v,us,e,_,r⟩:=h.cons_inv;rw[e];exact congrArg (· +1) (ih r)
theorem AJ.get{g:Gm}{vs:List Value}{ds:List D}(h:AJ g vs ds){i:Nat}{d:D}(e:ds[i]? =some d):∃v,vs[i]? =some v∧AQ g v d:=by
 induction ds generalizing vs i with
 |nil=>exact AI e
 |cons x ds ih=>
  obtain⟨v,us,q,a,r⟩:=h.cons_inv;subst q;cases i with
  |zero=>exact⟨v,rfl,Option.some.inj e▸a⟩
  |succ i=>exact ih r e
theorem AJ.get'{g:Gm}{vs:List Value}{ds:List D}(h:AJ g vs ds){i:Nat}{v:Value}(e:vs[i]? =some v):∃d,ds[i]? =some d∧AQ g v d:=by
 induction ds generalizing vs i with
 |nil=>rw[h.nil_inv]at e;exact AI e
 |cons x ds ih=>
  obtain⟨u,us,q,a,r⟩:=h.cons_inv;subst q;cases i with
  |zero=>exact⟨x,rfl,Option.some.inj e▸a⟩
  |succ i=>exact ih r e
theorem AJ.append{g:Gm}{vs us:List Value}{ds es:List D}(h:AJ g vs ds)(k:AJ g us es):AJ g (vs++us) (ds++es):=by
 induction ds generalizing vs with
 |nil=>rw[h.nil_inv];exact k
 |cons d ds ih=>obtain⟨v,ws,e,a,r⟩:=h.cons_inv;rw[e];exact .cons a (ih r)
noncomputable def AL(h:Heap)(hid:Addr→Prop):Gm:= λa o=>h.get? a=some o∧¬hid a
def AY(hid:Addr→Prop)(ow:List Addr):Addr→Prop:= λa=>hid a∨a∈ow
def A3(h h':Heap):Prop:=∀b o,h.get? b=some o→h'.get? b=some o
theorem A3.refl(h:Heap):A3 h h:= λV V e=>e
theorem A3.trans{a b c:Heap}(x:A3 a b)(y:A3 b c):A3 a c:= λd o e=>y d o (x d o e)
theorem DJ{h h':Heap}{hid:Addr→Prop}(k:A3 h h'):∀a o,AL h hid a o→AL h' hid a o:= λa o e=>⟨k a o e.1,e.2⟩
theorem GN{h:Heap}{hid hid':Addr→Prop}(k:∀a,hid' a→hid a):∀a o,AL h hid a o→AL h hid' a o:= λa V e=>⟨e.1,λq=>e.2 (k a q)⟩
inductive BE where
 |list (p:Option Addr)
 |hdr (p:Option Addr) (C:Addr)
 |ins (p:Option Addr) (C:Addr) (names:List Str)
 |tab (p:Option Addr) (c:Addr) (q:Str)
inductive LV where
 |unset
 |d (d:D)
 |own (k:BE) (ds:List D)
inductive DC(g:Gm):BE→Value→Addr→Obj→List D→Prop where
 |list {p l vs n ds}:(p=none∨p=some l)→AJ g vs ds→DC g (.list p) (.ref l) l {cls:=.type "list",data:=.seq (List.toArray vs) n} ds
 |hdr {p C t dx l vs n ds m} {e:DictEntry}:(p=none∨p=some l)→g t (instObj C dx)→g dx (dictOf [e] m)→e.key.isStr "_headers"=true→e.val=.ref l→AJ g vs ds→DC g (.hdr p C) (.ref t) l {cls:=.type "list",data:=.seq (List.toArray vs) n} ds
 |ins {p C t l vs n ds names} {es:List DictEntry}:(p=none∨p=some l)→g t (instObj C l)→es.map (·.val)=vs→G3 es names→AJ g vs ds→DC g (.ins p C names) (.ref t) l (dictOf es n) ds
 |tab {p c q P v ps d}:(p=none∨p=some P)→(∀h:Heap,(∀b x,g b x→h.get? b=some x)→CodeHd h c P)→TriplesOk ps.toList→(∀pos c',codeAmong pos ps.toList=some c'→∀h:Heap,(∀b x,g b x→h.get? b=some x)→h.CodeRec c' q)→AQ g v d→DC g (.tab p c q) v P (tabObj ps) [d]
theorem DC.mono{g g':Gm}(hg:∀a o,g a o→g' a o){k:BE}{v:Value}{l:Addr}{o:Obj}{ds:List D}(H:DC g k v l o ds):DC g' k v l o ds:=
 DC.casesOn (motive:= λk v l o ds V=>DC g' k v l o ds) H (λq a=>.list q (a.mono hg)) (λq a b c d e=>.hdr q (hg _ _ a) (hg _ _ b) c d (e.mono hg)) (λq a b c d=>.ins q (hg _ _ a) b c (d.mono hg))
  λq a b c d=>.tab q (λh k=>a h λb x e=>k b x (hg b x e)) b (λpos c' e h k=>c pos c' e h λb x e=>k b x (hg b x e)) (d.mono hg)
theorem DC.nocell{g:Gm}{k:BE}{v:Value}{l:Addr}{o:Obj}{ds:List D}(H:DC g k v l o ds)(c:Option Value):o.data≠.cell c:=
 DC.casesOn (motive:= λV V V o V V=>o.data≠.cell c) H (λV V e=>nomatch e) (λV V V V V V e=>nomatch e) (λV V V V V e=>nomatch e) λV V V V V e=>nomatch e
def kX(g:Gm)(v:Value)(l:Addr)(o:Obj)(ds:List D):BE→Prop
 |.list p=>∃vs n,(p=none∨p=some l)∧v=.ref l∧o={cls:=.type "list",data:=.seq (List.toArray vs) n}∧AJ g vs ds
 |.hdr p C=>∃t dx vs n m e,(p=none∨p=some l)∧v=.ref t∧o={cls:=.type "list",data:=.seq (List.toArray vs) n}∧g t (instObj C dx)∧g dx (dictOf [e] m)∧e.key.isStr "_headers"=true∧e.val=.ref l∧AJ g vs ds
 |.ins p C names=>∃t n es,(p=none∨p=some l)∧v=.ref t∧o=dictOf es n∧g t (instObj C l)∧G3 es names∧AJ g (es.map (·.val)) ds
 |.tab p c q=>∃ps d,(p=none∨p=some l)∧ds=[d]∧o=tabObj ps∧(∀h:Heap,(∀b x,g b x→h.get? b=some x)→CodeHd h c l)∧TriplesOk ps.toList∧(∀pos c',codeAmong pos ps.toList=some c'→∀h:Heap,(∀b x,g b x→h.get? b=some x)→h.CodeRec c' q)∧AQ g v d
theorem DC.inv{g:Gm}{k:BE}{v:Value}{l:Addr}{o:Obj}{ds:List D}(H:DC g k v l o ds):kX g v l o ds k:=
 DC.casesOn (motive:= λk v l o ds V=>kX g v l o ds k) H (λq a=>⟨_,_,q,rfl,rfl,a⟩) (λq a b c d e=>⟨_,_,_,_,_,_,q,rfl,rfl,a,b,c,d,e⟩) (λq a b c d=>⟨_,_,_,q,rfl,rfl,a,c,b▸d⟩) λq a b c d=>⟨_,_,q,rfl,rfl,a,b,c,d⟩
structure AP where
 names:List (Str×Bool)
 globs:List Str
 stor:List Str
 code:Option (Addr×Str)
structure CN(Sg:AP)(env:Env):Prop where
 kind:env.scope.kind=.function
 glob:env.globals=mainGlobals
 bi:env.builtins=builtinsNs
 loc:∀(i:Nat)(x:Str),Sg.names[i]? =some (x,true)→env.kindOf x=some .local
 cel:∀(i:Nat)(x:Str),Sg.names[i]? =some (x,false)→env.kindOf x=some .cell∨env.kindOf x=some .free
 glo:∀(i:Nat)(x:Str),Sg.globs[i]? =some x→env.kindOf x=some .globalImplicit
 sto:∀x∈Sg.stor,env.kindOf x=some .cell
 nod:(Sg.names.map (·.1)).Nodup
 dbg:∀(i:Nat)(x:Str)(b:Bool),Sg.names[i]? =some (x,b)→(x==("__debug__":Str))=false∧(x==("__classdict__":Str))=false
 dbgG:∀(i:Nat)(x:Str),Sg.globs[i]? =some x→(x==("__debug__":Str))=false
 cod:∀c q,Sg.code=some (c,q)→env.code=.ref c∧env.qual=q
def EG(env:Env)(h:Heap)(x:Str)(l:Bool)(v:Value):Prop:=
 match l with
 |true=>∃m,h.Ns env.locals m∧m x=some v
 |false=>∃c,env.cells.lookup x=some c∧h.IsCell c (some v)
theorem EG.grows{env:Env}{h h':Heap}{x:Str}{l:Bool}{v:Value}(k:A3 h h')(H:EG env h x l v):EG env h' x l v:=by
 cases l with
 |true=>obtain⟨m,n,e⟩:=H;exact⟨m,n.keeps k,e⟩
 |false=>obtain⟨c,n,e⟩:=H;exact⟨c,n,e.keeps k⟩
inductive M1(env:Env)(hid:Addr→Prop)(ow:List Addr)(h:Heap)(x:Str)(b:Bool)(l:Addr)(k:BE)(ds:List D):Prop
 |mk (v:Value) (o:Obj):EG env h x b v→l∈ow→l≠env.locals→h.get? l=some o→DC (AL h (AY hid ow)) k v l o ds→M1 env hid ow h x b l k ds
def JT(env:Env)(hid:Addr→Prop)(ow:List Addr)(h:Heap)(x:Str)(b:Bool)(l:Addr):LV→Prop
 |.unset=>True
 |.d dd=>∃v,EG env h x b v∧AQ (AL h (AY hid ow)) v dd
 |.own k ds=>M1 env hid ow h x b l k ds
theorem JT.grows{env:Env}{hid:Addr→Prop}{ow:List Addr}{h h':Heap}{x:Str}{b:Bool}{l:Addr}{lv:LV}(k:A3 h h')(H:JT env hid ow h x b l lv):JT env hid ow h' x b l lv:=by
 cases lv with
 |unset=>trivial
 |d dd=>obtain⟨v,a,e⟩:=H;exact⟨v,a.grows k,e.mono (DJ k)⟩
 |own kk ds=>obtain⟨v,o,a,e,f,p,q⟩:=H;exact⟨v,o,a.grows k,e,f,k _ _ p,q.mono (DJ k)⟩
structure AV(AA:Heap)(Sg:AP)(env:Env)(hid:Addr→Prop)(he:Heap)(ow la:List Addr)(h:Heap)(ρ:List LV):Prop where
 base:A3 AA he
 keep:A3 he h
 hlt:∀b,hid b→b∉ow∧∃o,h.get? b=some o
 owr:∀b∈ow,he.get? b=none∧∃o,h.get? b=some o
 loc:env.locals∈ow
 ns:∃m,h.Ns env.locals m
 cel:∀x c,env.cells.lookup x=some c→∃v,h.IsCell c v
 inj:∀x y c,env.cells.lookup x=some c→env.cells.lookup y=some c→x=y
 sto:∀x∈Sg.stor,∃c,env.cells.lookup x=some c∧c∈ow
 len:ρ.length=Sg.names.length
 lal:la.length=Sg.names.length
 slot:∀(i:Nat)(x:Str)(b:Bool)(l:Addr)(lv:LV),Sg.names[i]? =some (x,b)→la[i]? =some l→ρ[i]? =some lv→JT env hid ow h x b l lv
 lad:∀(i j:Nat)(l:Addr)(k k':BE)(ds es:List D),ρ[i]? =some (.own k ds)→ρ[j]? =some (.own k' es)→la[i]? =some l→la[j]? =some l→i=j
theorem AV.grows{AA:Heap}{Sg:AP}{env:Env}{hid:Addr→Prop}{he:Heap}{ow la:List Addr}{h h':Heap}{ρ:List LV}(S:AV AA Sg env hid he ow la h ρ)(k:A3 h h'):AV AA Sg env hid he ow la h' ρ where
 base:=S.base
 keep:=S.keep.trans k
 hlt:= λb q=>let ⟨a,o,e⟩:=S.hlt b q;⟨a,o,k _ _ e⟩
 owr:= λb hb=>let ⟨a,o,e⟩:=S.owr b hb;⟨a,o,k _ _ e⟩
 loc:=S.loc
 ns:=let ⟨m,n⟩:=S.ns;⟨m,n.keeps k⟩
 cel:= λx c e=>let ⟨v,hv⟩:=S.cel x c e;⟨v,hv.keeps k⟩
 inj:=S.inj
 sto:=S.sto
 len:=S.len
 lal:=S.lal
 slot:= λi x b l lv a c d=>(S.slot i x b l lv a c d).grows k
 lad:=S.lad
def B9(n:Nat)(A:Around):Prop:=A.handled=none∧A.depth+n≤900∧A.units+40*n≤9000
abbrev Kp(s s':Shared):Prop:=Keeps s s'
theorem Kp.grows{s s':Shared}(x:Kp s s'):A3 s.heap s'.heap:=by
 obtain⟨h,t,rfl,k⟩:=x;exact k
theorem Kp.refl(s:Shared):Kp s s:=⟨s.heap,s.toks,rfl,λV V e=>e⟩
theorem Kp.trans{a b c:Shared}(x:Kp a b)(y:Kp b c):Kp a c:=by
 obtain⟨h,t,rfl,k⟩:=x;obtain⟨h',t',rfl,k'⟩:=y;exact⟨h',t',rfl,λb o e=>k' b o (k b o e)⟩
theorem Kp.toks(s:Shared)(t:Nat):Kp s {s with toks:=t}:=⟨s.heap,t,rfl,λV V e=>e⟩
theorem A3.push(h:Heap)(o:Obj):A3 h (h.push o):= λV V e=>Heap.get?_push_of_some _ e
theorem Kp.push(s:Shared)(o:Obj):Kp s {s with heap:=s.heap.push o}:=⟨_,s.toks,rfl,A3.push _ _⟩
structure DP(hid:Addr→Prop)(d:D)(s:Shared)(v:Value)(s':Shared):Prop where
 d:AQ (AL s'.heap hid) v d
 k:Kp s s'
structure LP(hid:Addr→Prop)(ds:List D)(s:Shared)(vs:List Value)(s':Shared):Prop where
 d:AJ (AL s'.heap hid) vs ds
 k:Kp s s'
structure BP{α:Type}(b:α)(s:Shared)(b':α)(s':Shared):Prop where
 e:b'=b
 k:Kp s s'
section
variable(prog:Program)(w:World)(AA:Heap)
def PE(n:Nat)(Sg:AP)(e:Expr)(f:List LV→Option D):Prop:=
 ∀(env:Env)(A:Around)(s:Shared)(ρ:List LV)(d:D)(hid:Addr→Prop)(he:Heap)(ow la:List Addr)(E:Value→Shared→Prop),
  CN Sg env→B9 n A→AV AA Sg env hid he ow la s.heap ρ→f ρ=some d→
  wpAny (model prog w) A (eval e env) (DP (AY hid ow) d s) E s
def BH(h:Heap)(hid:Addr→Prop)(v:Value)(d:D):Prop:=
 AQ (AL h hid) v d∨∃l vs ds,v=.ref l∧d=.lst ds∧h.PlainList l (List.toArray vs)∧AJ (AL h hid) vs ds
structure fR(hid:Addr→Prop)(d:D)(s:Shared)(v:Value)(s':Shared):Prop where
 d:BH s'.heap hid v d
 k:Kp s s'
def PO(n:Nat)(Sg:AP)(e:Expr)(f:List LV→Option D):Prop:=
 ∀(env:Env)(A:Around)(s:Shared)(ρ:List LV)(d:D)(hid:Addr→Prop)(he:Heap)(ow la:List Addr)(E:Value→Shared→Prop),
  CN Sg env→B9 n A→AV AA Sg env hid he ow la s.heap ρ→f ρ=some d→
  wpAny (model prog w) A (eval e env) (fR (AY hid ow) d s) E s
def FM(n:Nat)(Sg:AP)(es:List Expr)(f:List LV→Option (List D)):Prop:=
 ∀(env:Env)(A:Around)(s:Shared)(ρ:List LV)(ds:List D)(hid:Addr→Prop)(he:Heap)(ow la:List Addr)(pos:Pos)(E:Value→Shared→Prop),
  CN Sg env→B9 n A→AV AA Sg env hid he ow la s.heap ρ→f ρ=some ds→
  wpAny (model prog w) A (spliced (backTo pos (starEach es env))) (LP (AY hid ow) ds s) E s
def PT(n:Nat)(Sg:AP)(e:Expr)(f:List LV→Option Bool):Prop:=
 ∀(env:Env)(A:Around)(s:Shared)(ρ:List LV)(b:Bool)(hid:Addr→Prop)(he:Heap)(ow la:List Addr)(E:Value→Shared→Prop),
  CN Sg env→B9 n A→AV AA Sg env hid he ow la s.heap ρ→f ρ=some b→
  wpAny (model prog w) A (isTrue e env (eval e env)) (BP b s) E s
end
section
variable{M:Model}{A:Around}{E:Value→Shared→Prop}
theorem BD{α:Type}{t:Sem α}{Q:α→Shared→Prop}{R:α→Shared→Prop}{s:Shared}(h:wpAny M A t Q E s)(k:∀a s',Q a s'→R a s'):wpAny M A t R E s:=wpAny_mono h k λV V e=>e
theorem GD.wp_g{t:Sem Value}{R:Value→Shared→Prop}{s CA:Shared}{hid:Addr→Prop}{d:D}(h:wpAny M A t (DP hid d s) E CA)(k:∀v s',AQ (AL s'.heap hid) v d→Kp s s'→R v s'):wpAny M A t R E CA:=BD h λv s' x=>k v s' x.d x.k
theorem GO.wp_g{t:Sem Value}{R:Value→Shared→Prop}{s CA:Shared}{hid:Addr→Prop}{d:D}(h:wpAny M A t (fR hid d s) E CA)(k:∀v s',BH s'.heap hid v d→Kp s s'→R v s'):wpAny M A t R E CA:=BD h λv s' x=>k v s' x.d x.k
theorem GL.wp_g{t:Sem (List Value)}{R:List Value→Shared→Prop}{s CA:Shared}{hid:Addr→Prop}{d:List D}(h:wpAny M A t (LP hid d s) E CA)(k:∀v s',AJ (AL s'.heap hid) v d→Kp s s'→R v s'):wpAny M A t R E CA:=BD h λv s' x=>k v s' x.d x.k
theorem GB.wp_g{α:Type}{t:Sem α}{R:α→Shared→Prop}{s CA:Shared}{b:α}(h:wpAny M A t (BP b s) E CA)(k:∀v s',v=b→Kp s s'→R v s'):wpAny M A t R E CA:=BD h λv s' x=>k v s' x.e x.k
theorem ID{α:Type}{t:Sem α}{R:α→Shared→Prop}{s CA:Shared}{b:α}(h:wpAny M A t (BP b s) E CA)(k:∀s',Kp s s'→R b s'):wpAny M A t R E CA:=BD h λV s' x=>x.e▸k s' x.k
end
theorem AK{α β:Type}{o:Option α}{f:α→Option β}{b:β}{P:Prop}(h:o.bind f=some b)(k:∀a,o=some a→f a=some b→P):P:=
 let ⟨a,x,y⟩:=Option.bind_eq_some_iff.mp h;k a x y
@[elab_as_elim] theorem FV{α β:Type}{o:Option α}{f:α→β}{b:β}{P:β→Prop}(h:o.map f=some b)(k:∀a,o=some a→P (f a)):P b:=
 let ⟨a,x,y⟩:=Option.map_eq_some_iff.mp h;y▸k a x
@[elab_as_elim] theorem DA{α:Type}{a b:α}{P:α→Prop}(h:some a=some b)(k:P a):P b:=Option.some.inj h▸k
@[elab_as_elim] theorem LR{α β:Type}{a a':α}{b b':β}{P:α→β→Prop}(h:some (a,b)=some (a',b'))(k:P a b):P a' b':=(GW h).1▸(GW h).2▸k
@[elab_as_elim] theorem KT{α β γ:Type}{o:Option γ}{f:γ→α×β}{a':α}{b':β}{P:α→β→Prop}(h:o.map f=some (a',b'))(k:∀c,o=some c→P (f c).1 (f c).2):P a' b':=by
 obtain⟨c,x,y⟩:=Option.map_eq_some_iff.mp h;have:=k c x;rwa [y]at this
theorem DM{α:Type}{c:Prop}[Decidable c]{o:Option α}{b:α}{P:Prop}(h:(if c then o else none)=some b)(k:c→o=some b→P):P:=
 if q:c then k q (by rwa [if_pos q]at h)else by rw[if_neg q]at h;exact nomatch h
theorem PD{α:Type}{c:Prop}[Decidable c]{o:Option α}{b:α}{P:Prop}(h:(if c then none else o)=some b)(k:¬c→o=some b→P):P:=
 if q:c then by rw[if_pos q]at h;exact nomatch h else k q (by rwa [if_neg q]at h)
theorem HF{a b:Bool}{P:Prop}(h:(a&&b)=true)(k:a=true→b=true→P):P:=(Bool.and_eq_true_iff.mp h).elim k
@[elab_as_elim] theorem CV{α:Type}{c:Prop}[Decidable c]{a b:α}{P:α→Prop}(h:(if c then some a else none)=some b)(k:c→P a):P b:=DM h λq e=>DA e (k q)
@[elab_as_elim] theorem RM{α:Type}{c:Prop}[Decidable c]{a b:α}{P:α→Prop}(h:(if c then none else some a)=some b)(k:¬c→P a):P b:=PD h λq e=>DA e (k q)
noncomputable def FR{α:Type}(a b:Option α):Option α:=match a with
 |some x=>some x
 |none=>b
theorem G7{α:Type}{a b:Option α}{d:α}{P:Prop}(h:FR a b=some d)(k:a=some d→P)(l:b=some d→P):P:=by
 cases a with
 |some x=>exact k h
 |none=>exact l h
noncomputable def NZ{α β:Type}(o:Option α)(f:α→Option β)(z:Option β):Option β:=match o with
 |some a=>f a
 |none=>z
theorem U9{α β:Type}{o:Option α}{f:α→Option β}{z:Option β}{b:β}{P:Prop}(h:NZ o f z=some b)(k:∀a,o=some a→f a=some b→P)(l:z=some b→P):P:=by
 cases o with
 |some x=>exact k x rfl h
 |none=>exact l h
section
noncomputable def TX(d:D):Option Bool:=D.casesOn (motive_1:= λV=>Option Bool) d none some (λV=>none) (λV=>none) (λV=>none) (λV=>none) (λV=>none) (λV=>none) (λV=>none) (λV V V=>none) (λV V=>none) (λV V V=>none) (λV=>none)
noncomputable def B6(d:D):Option Int:=D.casesOn (motive_1:= λV=>Option Int) d none (λV=>none) some (λV=>none) (λV=>none) (λV=>none) (λV=>none) (λV=>none) (λV=>none) (λV V V=>none) (λV V=>none) (λV V V=>none) (λV=>none)
noncomputable def E6(d:D):Option Str:=D.casesOn (motive_1:= λV=>Option Str) d none (λV=>none) (λV=>none) some (λV=>none) (λV=>none) (λV=>none) (λV=>none) (λV=>none) (λV V V=>none) (λV V=>none) (λV V V=>none) (λV=>none)
noncomputable def HV(d:D):Option UInt64:=D.casesOn (motive_1:= λV=>Option UInt64) d none (λV=>none) (λV=>none) (λV=>none) some (λV=>none) (λV=>none) (λV=>none) (λV=>none) (λV V V=>none) (λV V=>none) (λV V V=>none) (λV=>none)
noncomputable def Q0(d:D):Option String:=D.casesOn (motive_1:= λV=>Option String) d none (λV=>none) (λV=>none) (λV=>none) (λV=>none) some (λV=>none) (λV=>none) (λV=>none) (λV V V=>none) (λV V=>none) (λV V V=>none) (λV=>none)
noncomputable def QW(d:D):Option Addr:=D.casesOn (motive_1:= λV=>Option Addr) d none (λV=>none) (λV=>none) (λV=>none) (λV=>none) (λV=>none) some (λV=>none) (λV=>none) (λV V V=>none) (λV V=>none) (λV V V=>none) (λV=>none)
noncomputable def JC(d:D):Option (List D):=D.casesOn (motive_1:= λV=>Option (List D)) d none (λV=>none) (λV=>none) (λV=>none) (λV=>none) (λV=>none) (λV=>none) some (λV=>none) (λV V V=>none) (λV V=>none) (λV V V=>none) (λV=>none)
noncomputable def CX(d:D):Option (List D):=D.casesOn (motive_1:= λV=>Option (List D)) d none (λV=>none) (λV=>none) (λV=>none) (λV=>none) (λV=>none) (λV=>none) (λV=>none) some (λV V V=>none) (λV V=>none) (λV V V=>none) (λV=>none)
noncomputable def Q1(d:D):Option (List D):=D.casesOn (motive_1:= λV=>Option (List D)) d none (λV=>none) (λV=>none) (λV=>none) (λV=>none) (λV=>none) (λV=>none) (λV=>none) (λV=>none) (λV V V=>none) (λV V=>none) (λV V V=>none) some
noncomputable def M5(d:D):Option (Int×Int):=D.casesOn (motive_1:= λV=>Option (Int×Int)) d none (λV=>none) (λV=>none) (λV=>none) (λV=>none) (λV=>none) (λV=>none) (λV=>none) (λV=>none) (λV V V=>none) (λa b=>some (a,b)) (λV V V=>none) (λV=>none)
noncomputable def OW(d:D):Option Unit:=D.casesOn (motive_1:= λV=>Option Unit) d (some ()) (λV=>none) (λV=>none) (λV=>none) (λV=>none) (λV=>none) (λV=>none) (λV=>none) (λV=>none) (λV V V=>none) (λV V=>none) (λV V V=>none) (λV=>none)
end
theorem xK{d:D}{i:Bool}:TX d=some i→d=.bool i:=
 D.casesOn (motive_1:= λd=>TX d=some i→d=.bool i) d AI (λV h=>congrArg D.bool (Option.some.inj h)) (λV=>AI) (λV=>AI) (λV=>AI) (λV=>AI) (λV=>AI) (λV=>AI) (λV=>AI) (λV V V=>AI) (λV V=>AI) (λV V V=>AI) (λV=>AI)
theorem HW{d:D}{i:Int}:B6 d=some i→d=.int i:=
 D.casesOn (motive_1:= λd=>B6 d=some i→d=.int i) d AI (λV=>AI) (λV h=>congrArg D.int (Option.some.inj h)) (λV=>AI) (λV=>AI) (λV=>AI) (λV=>AI) (λV=>AI) (λV=>AI) (λV V V=>AI) (λV V=>AI) (λV V V=>AI) (λV=>AI)
theorem QY{d:D}{i:Str}:E6 d=some i→d=.str i:=
 D.casesOn (motive_1:= λd=>E6 d=some i→d=.str i) d AI (λV=>AI) (λV=>AI) (λV h=>congrArg D.str (Option.some.inj h)) (λV=>AI) (λV=>AI) (λV=>AI) (λV=>AI) (λV=>AI) (λV V V=>AI) (λV V=>AI) (λV V V=>AI) (λV=>AI)
theorem lG{d:D}{i:UInt64}:HV d=some i→d=.flt i:=
 D.casesOn (motive_1:= λd=>HV d=some i→d=.flt i) d AI (λV=>AI) (λV=>AI) (λV=>AI) (λV h=>congrArg D.flt (Option.some.inj h)) (λV=>AI) (λV=>AI) (λV=>AI) (λV=>AI) (λV V V=>AI) (λV V=>AI) (λV V V=>AI) (λV=>AI)
theorem xO{d:D}{i:String}:Q0 d=some i→d=.ty i:=
 D.casesOn (motive_1:= λd=>Q0 d=some i→d=.ty i) d AI (λV=>AI) (λV=>AI) (λV=>AI) (λV=>AI) (λV h=>congrArg D.ty (Option.some.inj h)) (λV=>AI) (λV=>AI) (λV=>AI) (λV V V=>AI) (λV V=>AI) (λV V V=>AI) (λV=>AI)
theorem xJ{d:D}{i:Addr}:QW d=some i→d=.adr i:=
 D.casesOn (motive_1:= λd=>QW d=some i→d=.adr i) d AI (λV=>AI) (λV=>AI) (λV=>AI) (λV=>AI) (λV=>AI) (λV h=>congrArg D.adr (Option.some.inj h)) (λV=>AI) (λV=>AI) (λV V V=>AI) (λV V=>AI) (λV V V=>AI) (λV=>AI)
theorem QZ{d:D}{i:List D}:JC d=some i→d=.tup i:=
 D.casesOn (motive_1:= λd=>JC d=some i→d=.tup i) d AI (λV=>AI) (λV=>AI) (λV=>AI) (λV=>AI) (λV=>AI) (λV=>AI) (λV h=>congrArg D.tup (Option.some.inj h)) (λV=>AI) (λV V V=>AI) (λV V=>AI) (λV V V=>AI) (λV=>AI)
theorem L3{d:D}{i:List D}:CX d=some i→d=.lst i:=
 D.casesOn (motive_1:= λd=>CX d=some i→d=.lst i) d AI (λV=>AI) (λV=>AI) (λV=>AI) (λV=>AI) (λV=>AI) (λV=>AI) (λV=>AI) (λV h=>congrArg D.lst (Option.some.inj h)) (λV V V=>AI) (λV V=>AI) (λV V V=>AI) (λV=>AI)
theorem xP{d:D}{i:List D}:Q1 d=some i→d=.ilst i:=
 D.casesOn (motive_1:= λd=>Q1 d=some i→d=.ilst i) d AI (λV=>AI) (λV=>AI) (λV=>AI) (λV=>AI) (λV=>AI) (λV=>AI) (λV=>AI) (λV=>AI) (λV V V=>AI) (λV V=>AI) (λV V V=>AI) (λV h=>congrArg D.ilst (Option.some.inj h))
theorem lH{d:D}{i:Int×Int}:M5 d=some i→d=.rng i.1 i.2:=
 D.casesOn (motive_1:= λd=>M5 d=some i→d=.rng i.1 i.2) d AI (λV=>AI) (λV=>AI) (λV=>AI) (λV=>AI) (λV=>AI) (λV=>AI) (λV=>AI) (λV=>AI) (λV V V=>AI) (λV V h=>Option.some.inj h▸rfl) (λV V V=>AI) (λV=>AI)
theorem xL{d:D}{i:Unit}:OW d=some i→d=.none:=
 D.casesOn (motive_1:= λd=>OW d=some i→d=.none) d (λV=>rfl) (λV=>AI) (λV=>AI) (λV=>AI) (λV=>AI) (λV=>AI) (λV=>AI) (λV=>AI) (λV=>AI) (λV V V=>AI) (λV V=>AI) (λV V V=>AI) (λV=>AI)
@[elab_as_elim] theorem kE{α β:Type}{as:D→Option α}{c:α→D}(inv:∀{d i},as d=some i→d=c i){d:D}{f:α→Option β}{b:β}{P:D→Prop}(h:(as d).bind f=some b)(k:∀i,f i=some b→P (c i)):P d:=
 AK h λi x y=>inv x▸k i y
section
variable{β:Type}{g:Gm}{v:Value}{d:D}{b:β}{P:Value→Prop}
@[elab_as_elim] theorem AQ.intE{f:Int→Option β}(x:AQ g v d)(h:(B6 d).bind f=some b)(k:∀i t,f i=some b→P (.int i t)):P v:=
 AK h λi e y=>let ⟨t,q⟩:=(HW e▸x).int_inv;q▸k i t y
@[elab_as_elim] theorem AQ.strE{f:Str→Option β}(x:AQ g v d)(h:(E6 d).bind f=some b)(k:∀i t,f i=some b→P (.str i t)):P v:=
 AK h λi e y=>let ⟨t,q⟩:=(QY e▸x).str_inv;q▸k i t y
@[elab_as_elim] theorem AQ.fltE{f:UInt64→Option β}(x:AQ g v d)(h:(HV d).bind f=some b)(k:∀i t,f i=some b→P (.float i t)):P v:=
 AK h λi e y=>let ⟨t,q⟩:=(lG e▸x).flt_inv;q▸k i t y
@[elab_as_elim] theorem AQ.lstE{ds:List D}{P:Value→Prop}(x:AQ g v d)(e:d=.lst ds)(k:∀a vs n,g a {cls:=.type "list",data:=.seq (List.toArray vs) n}→AJ g vs ds→P (.ref a)):P v:=
 let ⟨a,vs,n,q,r,t⟩:=(e▸x).inv;q▸k a vs n r t
end
noncomputable def OT{α:Type}(as:D→Option α):List D→Option (List α)
 |[]=>some []
 |d::r=>(as d).bind λx=>(OT as r).map (x::·)
theorem AJ.of_get{g:Gm}{vs:List Value}{ds:List D}(hl:vs.length=ds.length)(h:∀(i:Nat) v d,vs[i]? =some v→ds[i]? =some d→AQ g v d):AJ g vs ds:=by
 induction ds generalizing vs with
 |nil=>rw[List.eq_nil_of_length_eq_zero hl];exact .nil
 |cons d ds ih=>
  cases vs with
  |nil=>exact nomatch hl
  |cons v vs=>exact .cons (h 0 v d rfl rfl) (ih (Nat.succ.inj hl) λi=>h (i+1))
noncomputable def EO{β:Type}(f:D→Option β)(l:List D):Option β:=match l with
 |[a]=>f a
 |_=>none
noncomputable def I4{β:Type}(f:D→D→Option β)(l:List D):Option β:=match l with
 |[a,b]=>f a b
 |_=>none
noncomputable def P8{β:Type}(f:D→D→D→Option β)(l:List D):Option β:=match l with
 |[a,b,c]=>f a b c
 |_=>none
section
variable{β:Type}{l:List D}{b:β}{P:Prop}
theorem Sh{f:D→Option β}(h:EO f l=some b)(k:∀d,l=[d]→f d=some b→P):P:=match l,h with
 |[d],h=>k d rfl h
theorem s7{f:D→D→Option β}(h:I4 f l=some b)(k:∀d e,l=[d,e]→f d e=some b→P):P:=match l,h with
 |[d,e],h=>k d e rfl h
theorem Pb{f:D→D→D→Option β}(h:P8 f l=some b)(k:∀d e i,l=[d,e,i]→f d e i=some b→P):P:=match l,h with
 |[d,e,i],h=>k d e i rfl h
end
section
variable{β:Type}{g:Gm}{vs:List Value}{b:β}{P:List Value→Prop}
@[elab_as_elim] theorem AJ.one1{d:D}(x:AJ g vs [d])(k:∀v,AQ g v d→P [v]):P vs:=let ⟨v,q,a⟩:=x.one_inv;q▸k v a
@[elab_as_elim] theorem AJ.oneE{f:D→Option β}{l:List D}(x:AJ g vs l)(h:EO f l=some b)(k:∀v d,AQ g v d→f d=some b→P [v]):P vs:=match l,h with
 |[d],h=>let ⟨v,q,a⟩:=x.one_inv;q▸k v d a h
@[elab_as_elim] theorem AJ.twoE{f:D→D→Option β}{l:List D}(x:AJ g vs l)(h:I4 f l=some b)(k:∀v u d e,AQ g v d→AQ g u e→f d e=some b→P [v,u]):P vs:=match l,h with
 |[d,e],h=>let ⟨v,u,q,a,c⟩:=x.two_inv;q▸k v u d e a c h
@[elab_as_elim] theorem AJ.threeE{f:D→D→D→Option β}{l:List D}(x:AJ g vs l)(h:P8 f l=some b)(k:∀v u t d e i,AQ g v d→AQ g u e→AQ g t i→f d e i=some b→P [v,u,t]):P vs:=match l,h with
 |[d,e,i],h=>let ⟨v,u,t,q,a,c,r⟩:=x.three_inv;q▸k v u t d e i a c r h
end
section
open GD GO GL GB
local macro_rules
  | `(tactic| cases $h:ident) => do
    let m ← `(tactic| cases ($h))
    let m ← "Sa AQ.bool_inv AQ.none_inv AQ.ty_inv AQ.adr_inv AJ.nil_inv".splitOn.foldrM (fun n r => do `(tactic| first | (have q := $(Lean.mkIdent n.toName) $h; clear $h; subst q) | $r:tactic)) m
    let m ← "Sb AQ.int_inv AQ.str_inv AQ.flt_inv".splitOn.foldrM (fun n r => do `(tactic| first | (rcases $(Lean.mkIdent n.toName):ident $h:ident with ⟨r, q⟩; clear $h; subst q; try subst r) | $r:tactic)) m
    let m ← "AI dM MI no_tf".splitOn.foldrM (fun n r => do `(tactic| first | exact $(Lean.mkIdent n.toName) $h | $r:tactic)) m
    return m
local macro_rules
  | `(tactic| show $t) => `(tactic| refine (?_ : $t))
noncomputable def dF:LV→Option D
 |.d v=>some v
 |_=>none
noncomputable def U1:LV→Option D
 |.d v=>some v
 |.own (.list _) ds=>some (.lst ds)
 |_=>none
def AD(i:Nat)(ρ:List LV):Option D:=ρ[i]?.bind dF
def AM(i:Nat)(ρ:List LV):Option D:=ρ[i]?.bind U1
theorem Il{l:LV}{d:D}(h:dF l=some d):l=.d d:=
 LV.casesOn (motive:= λl=>dF l=some d→l=.d d) l AI (λV h=>congrArg LV.d (Option.some.inj h)) (λV V=>AI) h
@[elab_as_elim] theorem Im{l:LV}{d:D}{P:LV→D→Prop}(h:U1 l=some d)(k:∀d,P (.d d) d)(k':∀p ds,P (.own (.list p) ds) (.lst ds)):P l d:=
 LV.casesOn (motive:= λl=>U1 l=some d→P l d) l AI (λx h=>Option.some.inj h▸k x) (λo ds=>BE.casesOn (motive:= λo=>U1 (.own o ds)=some d→P (.own o ds) d) o (λp h=>Option.some.inj h▸k' p ds) (λV V=>AI) (λV V V=>AI) (λV V V=>AI)) h
theorem O9{i:Nat}{ρ:List LV}{d:D}(h:AD i ρ=some d):ρ[i]? =some (.d d):=AK h λV a b=>Il b▸a
@[elab_as_elim] theorem En{i:Nat}{ρ:List LV}{d:D}{P:D→Prop}(h:AM i ρ=some d)(k:∀d,ρ[i]? =some (.d d)→P d)(k':∀p ds,ρ[i]? =some (.own (.list p) ds)→P (.lst ds)):P d:=
 AK h λl a b=>Im (P:= λl d=>ρ[i]? =some l→P d) b k k' a
section
variable{prog:Program}{w:World}{AA:Heap}{n:Nat}{Sg:AP}
theorem IA{env:Env}{hid:Addr→Prop}{he:Heap}{ow la:List Addr}{h:Heap}{ρ:List LV}(S:AV AA Sg env hid he ow la h ρ){i:Nat}{x:Str}{b:Bool}{lv:LV}(hn:Sg.names[i]? =some (x,b))(hv:ρ[i]? =some lv):
  ∃l,la[i]? =some l∧JT env hid ow h x b l lv:=by
 have hi:i<Sg.names.length:=(List.getElem?_eq_some_iff.mp hn).1;have hl:i<la.length:=S.lal▸hi;exact⟨la[i],by simp[hl],S.slot i x b _ lv hn (by simp[hl]) hv⟩
inductive kU(env:Env)(hid:Addr→Prop)(ow la:List Addr)(h:Heap)(i:Nat)(x:Str)(b:Bool)(ds:List D):Prop
 |mk (l:Addr):la[i]? =some l→EG env h x b (.ref l)→l∈ow→l≠env.locals→∀vs:List Value,h.PlainList l (List.toArray vs)→AJ (AL h (AY hid ow)) vs ds→kU env hid ow la h i x b ds
theorem I3{env:Env}{hid:Addr→Prop}{he:Heap}{ow la:List Addr}{h:Heap}{ρ:List LV}(S:AV AA Sg env hid he ow la h ρ){i:Nat}{x:Str}{b:Bool}{pn:Option Addr}{ds:List D}(hn:Sg.names[i]? =some (x,b))(hv:ρ[i]? =some (.own (.list pn) ds)):
  kU env hid ow la h i x b ds:=
 (IA S hn hv).elim λl e=>M1.casesOn e.2 λv o a1 a2 a3 a4 a5=>Exists.elim a5.inv λvs q=>q.elim λn q=>⟨l,e.1,q.2.1▸a1,a2,a3,vs,⟨n,q.2.2.1▸a4⟩,q.2.2.2⟩
theorem Qd{env:Env}{A:Around}{s:Shared}{Q:Value→Shared→Prop}{E:Value→Shared→Prop}{i:Nat}{x:Str}{b:Bool}{v:Value}(H:CN Sg env)(hn:Sg.names[i]? =some (x,b))(hv:EG env s.heap x b v)(h:Q v s):
  wpAny (model prog w) A (loadName env x) Q E s:=by
 cases b with
 |true=>
  obtain⟨m,n,e⟩:=hv;exact wpAny_loadName_local H.kind (H.loc i x hn) n e h
 |false=>
  obtain⟨c,e,hc⟩:=hv;rcases H.cel i x hn with k|k
  ·exact wpAny_loadName_cell H.kind k e hc h
  ·exact wpAny_loadName_free H.kind k e hc h (H.dbg i x _ hn).2
theorem FG{env:Env}{A:Around}{s:Shared}{Q:Value→Shared→Prop}{E:Value→Shared→Prop}{i:Nat}{x:Str}{b:Bool}{v:Value}{pos:Pos}(H:CN Sg env)(hn:Sg.names[i]? =some (x,b))(hv:EG env s.heap x b v)(h:Q v s):
  wpAny (model prog w) A (eval (.Name x pos) env) Q E s:=wpAny_Name (Qd H hn hv h) (H.dbg i x _ hn).1
theorem AE(i:Nat){x:Str}{b:Bool}{pos:Pos}(hn:Sg.names[i]? =some (x,b)):PE prog w AA n Sg (.Name x pos) (AD i):=by
 intro env A s ρ d hid he ow la E H _ S hf;obtain⟨l,_,v',hx,hd⟩:=IA S hn (O9 hf);exact FG H hn hx ⟨hd,Kp.refl s⟩
theorem AR(i:Nat){x:Str}{b:Bool}{pos:Pos}(hn:Sg.names[i]? =some (x,b)):PO prog w AA n Sg (.Name x pos) (AM i):=by
 intro env A s ρ d hid he ow la E H _ S hf;refine En hf (λd hv=>?_) λp ds hv=>?_
 ·obtain⟨l,_,v',hx,hd⟩:=IA S hn hv;exact FG H hn hx ⟨.inl hd,Kp.refl s⟩
 ·obtain⟨l,_,hx,_,_,vs,hp,hd⟩:=I3 S hn hv;exact FG H hn hx ⟨.inr ⟨l,vs,_,rfl,rfl,hp,hd⟩,Kp.refl s⟩
theorem A7{e:Expr}{f:List LV→Option D}(h:PE prog w AA n Sg e f):PO prog w AA n Sg e f:=by
 intro env A s ρ d hid he ow la E H hA S hf;exact wp_g (h env A s ρ d hid he ow la E H hA S hf) λv s' a b=>⟨.inl a,b⟩
theorem A1(i:Int){k:Nat}{pos:Pos}:PE prog w AA n Sg (.Constant (.int i) k pos) (λV=>some (.int i)):=by
 intro env A s ρ d hid he ow la E H hA S hf;cases hf;exact wpAny_Constant_int ⟨.int _ _,Kp.toks _ _⟩
theorem MO(x:Str){k:Nat}{pos:Pos}:PE prog w AA n Sg (.Constant (.str x) k pos) (λV=>some (.str x)):=by
 intro env A s ρ d hid he ow la E H hA S hf;cases hf;exact wpAny_Constant_str ⟨.str _ _,Kp.toks _ _⟩
theorem IZ(x:UInt64){k:Nat}{pos:Pos}:PE prog w AA n Sg (.Constant (.float x) k pos) (λV=>some (.flt x)):=by
 intro env A s ρ d hid he ow la E H hA S hf;cases hf;exact AutoFloatOps.wpAny_Constant_float ⟨.flt _ _,Kp.toks _ _⟩
theorem IY(b:Bool){k:Nat}{pos:Pos}:PE prog w AA n Sg (.Constant (.bool b) k pos) (λV=>some (.bool b)):=by
 intro env A s ρ d hid he ow la E H hA S hf;cases hf;exact wpAny_Constant_bool ⟨.bool _,Kp.refl _⟩
theorem N3{k:Nat}{pos:Pos}:PE prog w AA n Sg (.Constant .none k pos) (λV=>some .none):=by
 intro env A s ρ d hid he ow la E H hA S hf;cases hf;exact wpAny_Constant_none ⟨.none,Kp.refl _⟩
def K5(prog:Program)(w:World)(n:Nat)(op:Operator)(f:D→D→Option D):Prop:=
 ∀(A:Around)(s:Shared)(hid:Addr→Prop)(a b:Value)(da db d:D)(E:Value→Shared→Prop),B9 n A→AQ (AL s.heap hid) a da→AQ (AL s.heap hid) b db→f da db=some d→
  wpAny (model prog w) A (binaryOp op a b) (DP hid d s) E s
theorem AU{l r:Expr}{op:Operator}{pos:Pos}{fl fr:List LV→Option D}{g:D→D→Option D}(hg:K5 prog w n op g)(hl:PE prog w AA n Sg l fl)(hr:PE prog w AA n Sg r fr):
  PE prog w AA n Sg (.BinOp l op r pos) (λρ=>(fl ρ).bind λa=>(fr ρ).bind λb=>g a b):=by
 intro env A s ρ d hid he ow la E H hA S hf;refine AK hf λa ha hf=>?_;refine AK hf λb hb hf=>?_;refine wpAny_BinOp (wp_g (hl env A s ρ a hid he ow la E H hA S ha) λva AB da A6=>?_);refine wp_g (hr env A AB ρ b hid he ow la E H hA (S.grows A6.grows) hb) λvb AF db AZ=>?_;exact wp_g (hg A AF _ va vb a b d E hA (da.mono (DJ AZ.grows)) db hf) λv BI dv EJ=>⟨dv,(A6.trans AZ).trans EJ⟩
noncomputable def FT(i:Int):Bool:=decide (i.natAbs<1000000000000)
theorem nZ{i:Int}(h:FT i=true):i.natAbs<2^1023:=by
 unfold FT at h;have:(1000000000000:Nat)≤2^1023:=by decide+kernel
 simp at h;lia
theorem bS{i:Int}(h:FT i=true):¬Float64.isInf (Float64.ofInt i)=true:=Float64.ofInt_fits (nZ h)
noncomputable def O8(i:Int):Bool:=decide (i.natAbs<1000000000)
def OU(f:Int→Int→Option D)(g:UInt64→UInt64→Option D)(k:UInt64→Int→Option D)(a b:D):Option D:=
 FR ((B6 a).bind λx=>(B6 b).bind (f x)) ((HV a).bind λx=>FR ((HV b).bind (g x)) ((B6 b).bind (k x)))
theorem Q3{op:Operator}{f:Int→Int→Option D}{g:UInt64→UInt64→Option D}{k:UInt64→Int→Option D}
  (hf:∀{A s hid E i t j u d},f i j=some d→wpAny (model prog w) A (binaryOp op (.int i t) (.int j u)) (DP hid d s) E s)
  (hg:∀{A s hid E i t j u d},g i j=some d→wpAny (model prog w) A (binaryOp op (.float i t) (.float j u)) (DP hid d s) E s)
  (hk:∀{A s hid E i t j u d},k i j=some d→wpAny (model prog w) A (binaryOp op (.float i t) (.int j u)) (DP hid d s) E s):K5 prog w n op (OU f g k):=
 λV V V V V V V V V V ha hb h=>G7 h (λh=>ha.intE h λV V h=>hb.intE h λV V h=>hf h) λh=>ha.fltE h λV V h=>G7 h (λh=>hb.fltE h λV V h=>hg h) λh=>hb.intE h λV V h=>hk h
noncomputable def lF(f:Int→Int→Int)(a b:Int):Option D:=some (.int (f a b))
noncomputable def ZJ(f:UInt64→UInt64→UInt64)(a b:UInt64):Option D:=some (.flt (f a b))
def ZK(f:UInt64→UInt64→UInt64)(a:UInt64)(b:Int):Option D:=if FT b then some (.flt (f a (Float64.ofInt b)))else none
def BW(a b:D):Option D:=FR (OU (lF λx y=>x+y) (ZJ Float64.add) (ZK Float64.add) a b) ((E6 a).bind λx=>(E6 b).bind λy=>if x.length+y.length≤100000 then some (.str (x++y))else none)
def EN:D→D→Option D:=OU (lF λx y=>x-y) (ZJ Float64.sub) (ZK Float64.sub)
def EH:D→D→Option D:=OU (λa b=>if FT a&&FT b then some (.int (a*b))else none) (ZJ Float64.mul) (ZK Float64.mul)
def FO(a b:D):Option D:=(B6 a).bind λa=>(B6 b).bind λb=>if b=0 then none else if O8 b then some (.int (a.fdiv b))else none
def CZ:D→D→Option D:=OU (λa b=>if b=0 then none else some (.int (a.fmod b))) (λa b=>if Float64.isZero b then none else some (.flt (Float64.divmod a b).2)) λV V=>none
theorem CI:K5 prog w n .Add BW:= λA s hid a b da db d E hA ha hb h=>G7 h
 (Q3 (λh=>DA h (add_int ⟨.int _ _,Kp.toks _ _⟩)) (λh=>DA h (add_float ⟨.flt _ _,Kp.toks _ _⟩)) (λh=>CV h λq=>add_fi_fits (nZ q) ⟨.flt _ _,Kp.toks _ _⟩) A s hid a b da db d E hA ha hb)
 λh=>ha.strE h λV V h=>hb.strE h λV V h=>CV h λq=>add_str (λt' tk=>⟨.str _ _,Kp.toks _ _⟩) (by rw[sizeLine_eq];exact Nat.le_trans q (by decide))
theorem E0:K5 prog w n .Sub EN:=
 Q3 (λh=>DA h (sub_int ⟨.int _ _,Kp.toks _ _⟩)) (λh=>DA h (sub_float ⟨.flt _ _,Kp.toks _ _⟩)) λh=>CV h λq=>AutoFloatOps.sub_fi_1 (bS q) ⟨.flt _ _,Kp.toks _ _⟩
theorem Dn{a b:Int}(h:FT a=true):IntMulOk a b:=by
 refine IntMulOk.of_left (intBits_le_64 ?_ ?_)<;>(unfold FT at h;simp at h;lia)
theorem F6:K5 prog w n .Mult EH:=
 Q3 (λh=>CV h λq=>PyProof.Rows.mul_int ⟨.int _ _,Kp.toks _ _⟩ (Dn (Bool.and_eq_true_iff.mp q).1)) (λh=>DA h (mul_float ⟨.flt _ _,Kp.toks _ _⟩)) λh=>CV h λq=>AutoFloatOps.mul_fi_1 (bS q) ⟨.flt _ _,Kp.toks _ _⟩
theorem Dm{b:Int}(h:O8 b=true):b.natAbs<1000000000:=of_decide_eq_true h
theorem JW:K5 prog w n .FloorDiv FO:= λA s hid a b da db d E hA ha hb h=>ha.intE h λV V h=>hb.intE h λV V h=>PD h λh0 h=>CV h λh1=>
 floordiv_int h0 ⟨.int _ _,Kp.toks _ _⟩ (.inl (PyProof.noPylong_small (Nat.lt_trans (Dm h1) (by decide))))
theorem E8:K5 prog w n .Mod CZ:=
 Q3 (λh=>RM h λq=>PyProof.Rows.mod_int q ⟨.int _ _,Kp.toks _ _⟩) (λh=>RM h λq=>AutoFloatOps.mod_1 q ⟨.flt _ _,Kp.toks _ _⟩) λh=>AI h
def KM:D→D→Option D:=OU
 (λa b=>if b=0 then none else if Float64.isInf (Float64.ofFrac (decide (a<0)!=decide (b<0)) a.natAbs b.natAbs)then none else some (.flt (Float64.ofFrac (decide (a<0)!=decide (b<0)) a.natAbs b.natAbs)))
 (λa b=>if Float64.isZero b then none else some (.flt (Float64.div a b)))
 (λa b=>if !FT b then none else if Float64.isZero (Float64.ofInt b)then none else some (.flt (Float64.div a (Float64.ofInt b))))
theorem L4:K5 prog w n .Div KM:=
 Q3 (λh=>PD h λh0 h=>RM h λh1=>PySem.AutoIntOps.truediv_2 (by simpa using h0) h1 ⟨.flt _ _,Kp.toks _ _⟩) (λh=>RM h λq=>AutoFloatOps.truediv_1 q ⟨.flt _ _,Kp.toks _ _⟩)
  λh=>PD h λh0 h=>RM h λh1=>AutoFloatOps.truediv_fi_2 (bS (by simpa using h0)) h1 ⟨.flt _ _,Kp.toks _ _⟩
noncomputable def JN(x:Str)(k:Int):Str:=Txt.mul x k
def KO(a b:D):Option D:=FR ((E6 a).bind λa=>(B6 b).bind λk=>if decide (a.length≤100)&&decide (-1000≤k)&&decide (k≤100)then some (.str (JN a k))else none) (EH a b)
theorem Jc{a:Str}{k:Int}(h1:a.length≤100)(h2: -1000≤k)(h3:k≤100):MulOk a k:=by
 refine⟨by simp only[Bool.or_eq_false_iff,decide_eq_false_iff_not];lia,λh4 h5=>?_,λh4 h5=>?_⟩
 ·have:(100:Int)≤(2^63-1) / k:=by
   refine Int.le_ediv_of_mul_le (by lia) ?_;lia
  lia
 ·unfold Builtin.Str.tooLong;have:a.length*k.toNat≤100*100:=Nat.mul_le_mul h1 (by lia);simp[sizeLine_eq];lia
theorem Z4:K5 prog w n .Mult KO:= λA s hid a b da db d E hA ha hb h=>G7 h (λh=>ha.strE h λV V h=>hb.intE h λV V h=>CV h λh=>by
 simp only[Bool.and_eq_true,decide_eq_true_eq]at h;exact SB.mul (Jc h.1.1 h.1.2 h.2) λt' k=>⟨.str _ _,Kp.toks _ _⟩) (F6 A s hid a b da db d E hA ha hb)
end
open PySem PySem.W PyProof.Rows PySem.Spec
noncomputable def F0(d:D):PySem.W.Dat:=D.rec (motive_1:= λV=>PySem.W.Dat) (motive_2:= λV=>List PySem.W.Dat) .none .bool .int .str (λV=>.bytes #[]) (λV=>.bytes #[]) (λV=>.bytes #[]) (λV r=>.tuple r) (λV r=>.list r) (λV V V V=>.bytes #[]) (λV V=>.bytes #[]) (λV V V V=>.bytes #[]) (λV V=>.bytes #[]) [] (λV V a b=>a::b) d
noncomputable def K2(l:List D):List PySem.W.Dat:=D.rec_1 (motive_1:= λV=>PySem.W.Dat) (motive_2:= λV=>List PySem.W.Dat) .none .bool .int .str (λV=>.bytes #[]) (λV=>.bytes #[]) (λV=>.bytes #[]) (λV r=>.tuple r) (λV r=>.list r) (λV V V V=>.bytes #[]) (λV V=>.bytes #[]) (λV V V V=>.bytes #[]) (λV V=>.bytes #[]) [] (λV V a b=>a::b) l
section
variable{h:Heap}{g:Gm}
theorem NM{n:Nat}{P:Prop}(hk:kqdOk n (.bytes #[])=true):P:=by cases n<;>exact nomatch hk
def TR(h:Heap)(v:Value)(d:D):Prop:=∀n,kqdOk n (F0 d)=true→∃as,Reads h v (kqdP (F0 d)) as
def QP(h:Heap)(vs:List Value)(ds:List D):Prop:=∀n,(∀d∈K2 ds,kqdOk n d=true)→∃as,ReadsAll h vs (kqdPs (K2 ds)) as
theorem Mg{a:Addr}{o:Obj}{vs:List Value}{k:Nat}{ds:List D}(ho:h.get? a=some o)(hc:o.cls=.type "tuple")(hd:o.data=.seq (List.toArray vs) k)(ih:QP h vs ds):TR h (.ref a) (.tup ds):=by
 intro n hk;cases n with
 |zero=>exact nomatch hk
 |succ n=>
  obtain⟨as,q⟩:=ih n (List.all_eq_true.mp hk);exact⟨as,reads_tuple_at ho hc hd q⟩
theorem rQ{a:Addr}{vs:List Value}{k:Nat}{ds:List D}(ho:h.get? a=some {cls:=.type "list",data:=.seq (List.toArray vs) k})(ih:QP h vs ds):TR h (.ref a) (.lst ds):=by
 intro n hk;cases n with
 |zero=>exact nomatch hk
 |succ n=>
  obtain⟨as,q⟩:=ih n (List.all_eq_true.mp hk);exact⟨_,reads_list_at ho rfl rfl q⟩
theorem Mf{v:Value}{vs:List Value}{d:D}{ds:List D}(h1:TR h v d)(h2:QP h vs ds):QP h (v::vs) (d::ds):= λn hk=>
 let ⟨_,q⟩:=h1 n (hk _ (.head _));let ⟨_,p⟩:=h2 n λd hm=>hk d (.tail _ hm);⟨_,ReadsAll.cons q p⟩
theorem m8(hg:∀a o,g a o→h.get? a=some o){v:Value}{d:D}(n:Nat)(x:AQ g v d)(hk:kqdOk n (F0 d)=true):∃as,Reads h v (kqdP (F0 d)) as:=
 AQ.rec (motive_1:= λv d V=>TR h v d) (motive_2:= λvs ds V=>QP h vs ds) (λV V=>⟨_,Reads.none⟩) (λV n hk=>by cases n<;>exact nomatch hk) (λi t V V=>⟨_,Reads.int i t⟩) (λx t V V=>⟨_,Reads.str x t⟩) (λV V V=>NM) (λV V=>NM) (λV V=>NM)
  (λa b c V r=>Mg (hg _ _ a) b c r) (λa V r=>rQ (hg _ _ a) r) (λV V V V V V V=>NM) (λV V V=>NM) (λV V V V V V V=>NM) (λV V V V V V=>NM) (λV V=>⟨_,ReadsAll.nil⟩) (λV V=>Mf) x n hk
theorem Br(hg:∀a o,g a o→h.get? a=some o){vs:List Value}{ds:List D}(n:Nat)(x:AJ g vs ds)(hk:∀d∈K2 ds,kqdOk n d=true):∃as,ReadsAll h vs (kqdPs (K2 ds)) as:=by
 induction ds generalizing vs with
 |nil=>rw[x.nil_inv];exact⟨_,ReadsAll.nil⟩
 |cons d ds ih=>
  obtain⟨v,us,e,p,q⟩:=x.cons_inv;rw[e];obtain⟨_,r⟩:=m8 hg n p (hk _ (.head _));obtain⟨_,t⟩:=ih q λd hm=>hk d (.tail _ hm);exact⟨_,ReadsAll.cons r t⟩
end
theorem SO{h:Heap}{hid:Addr→Prop}:∀a o,AL h hid a o→h.get? a=some o:= λV V e=>e.1
def EA(d:D):Bool:=kqdOk 8 (F0 d)
def LA(a b:D):Bool:=PyData.eqv (kqdP (F0 a)) (kqdP (F0 b))
theorem bH{a b:D}(ha:EA a=true)(hb:EA b=true):LA a b=true↔F0 a=F0 b:=kqd_eqv 8 _ _ 8 ha hb
theorem U8{d:D}(h:EA d=true):PySem.SeqAt.shaped (kqdP (F0 d))=true:=by
 have l:=kqd_lay 8 _ h;unfold PySem.SeqAt.shaped;rw[l.1,Bool.true_and];exact decide_eq_true (Nat.le_trans l.2 (by decide))
theorem BH.of{h:Heap}{hid:Addr→Prop}{v:Value}{d:D}(x:AQ (AL h hid) v d):BH h hid v d:=.inl x
theorem BH.reads{h:Heap}{hid:Addr→Prop}{v:Value}{d:D}(x:BH h hid v d)(hk:EA d=true):∃as,Reads h v (kqdP (F0 d)) as:=by
 rcases x with x|⟨l,vs,ds,rfl,rfl,⟨n,ho⟩,hd⟩
 ·exact m8 SO 8 x hk
 ·exact rQ ho (λn=>Br SO n hd) 8 hk
theorem BH.grows{h h':Heap}{hid:Addr→Prop}{v:Value}{d:D}(k:A3 h h')(x:BH h hid v d):BH h' hid v d:=by
 rcases x with x|⟨l,vs,ds,rfl,rfl,⟨n,ho⟩,hd⟩
 ·exact .inl (x.mono (DJ k))
 ·exact .inr ⟨l,vs,ds,rfl,rfl,⟨n,k _ _ ho⟩,hd.mono (DJ k)⟩
section
variable{prog:Program}{w:World}{AA:Heap}{n:Nat}{Sg:AP}
def IJ(prog:Program)(w:World)(n:Nat)(op:CmpOp)(f:D→D→Option Bool):Prop:=
 ∀(A:Around)(s:Shared)(hid:Addr→Prop)(a b:Value)(da db:D)(r:Bool)(E:Value→Shared→Prop),B9 n A→BH s.heap hid a da→BH s.heap hid b db→f da db=some r→
  wpAny (model prog w) A (compareOp op a b) (BP (.bool r) s) E s
theorem B9.units64{A:Around}(h:B9 n A):A.units+64<cLine:=by
 have:=h.2.2;show A.units+64<9900;lia
theorem BH.den{h:Heap}{hid:Addr→Prop}{v:Value}{d:D}(x:BH h hid v d)(hn:CX d=none):AQ (AL h hid) v d:=
 x.elim id λ⟨_,_,_,_,e,_⟩=>by rw[e]at hn;exact dM hn
section
variable{β:Type}{h:Heap}{hid:Addr→Prop}{v:Value}{d:D}{b:β}{P:Value→Prop}
@[elab_as_elim] theorem BH.intE{f:Int→Option β}(x:BH h hid v d)(e:(B6 d).bind f=some b)(k:∀i t,f i=some b→P (.int i t)):P v:=
 AK e λi e y=>let ⟨t,q⟩:=((HW e▸x).den rfl).int_inv;q▸k i t y
@[elab_as_elim] theorem BH.strE{f:Str→Option β}(x:BH h hid v d)(e:(E6 d).bind f=some b)(k:∀i t,f i=some b→P (.str i t)):P v:=
 AK e λi e y=>let ⟨t,q⟩:=((QY e▸x).den rfl).str_inv;q▸k i t y
@[elab_as_elim] theorem BH.fltE{f:UInt64→Option β}(x:BH h hid v d)(e:(HV d).bind f=some b)(k:∀i t,f i=some b→P (.float i t)):P v:=
 AK e λi e y=>let ⟨t,q⟩:=((lG e▸x).den rfl).flt_inv;q▸k i t y
@[elab_as_elim] theorem BH.tyE{f:String→Option β}(x:BH h hid v d)(e:(Q0 d).bind f=some b)(k:∀i,f i=some b→P (.type i)):P v:=
 AK e λi e y=>((xO e▸x).den rfl).ty_inv▸k i y
@[elab_as_elim] theorem BH.noneE{f:Unit→Option β}(x:BH h hid v d)(e:(OW d).bind f=some b)(k:f ()=some b→P .none):P v:=
 AK e λV e y=>((xL e▸x).den rfl).none_inv▸k y
end
theorem BH.int{h:Heap}{hid:Addr→Prop}{v:Value}{i:Int}(x:BH h hid v (.int i)):∃t,v=.int i t:=(x.den rfl).int_inv
theorem BH.str{h:Heap}{hid:Addr→Prop}{v:Value}{i:Str}(x:BH h hid v (.str i)):∃t,v=.str i t:=(x.den rfl).str_inv
theorem BH.flt{h:Heap}{hid:Addr→Prop}{v:Value}{i:UInt64}(x:BH h hid v (.flt i)):∃t,v=.float i t:=(x.den rfl).flt_inv
theorem BH.none{h:Heap}{hid:Addr→Prop}{v:Value}(x:BH h hid v .none):v=.none:=(x.den rfl).none_inv
theorem BH.ty{h:Heap}{hid:Addr→Prop}{v:Value}{i:String}(x:BH h hid v (.ty i)):v=.type i:=(x.den rfl).ty_inv
def cI(f:Int→Int→Bool)(a b:D):Option Bool:=(B6 a).bind λx=>(B6 b).bind λy=>some (f x y)
def cS(f:Str→Str→Bool)(a b:D):Option Bool:=(E6 a).bind λx=>(E6 b).bind λy=>some (f x y)
theorem OZ{op:CmpOp}{f:Int→Int→Bool}(hf:∀{A s E} i t j u,wpAny (model prog w) A (compareOp op (.int i t) (.int j u)) (BP (.bool (f i j)) s) E s):IJ prog w n op (cI f):=
 λV V V V V V V V V V ha hb h=>ha.intE h λV V h=>hb.intE h λV V h=>DA h (hf _ _ _ _)
theorem mL{op:CmpOp}{f:Str→Str→Bool}(hf:∀{A s E} i t j u,wpAny (model prog w) A (compareOp op (.str i t) (.str j u)) (BP (.bool (f i j)) s) E s):IJ prog w n op (cS f):=
 λV V V V V V V V V V ha hb h=>ha.strE h λV V h=>hb.strE h λV V h=>DA h (hf _ _ _ _)
def EU(a b:D):Option Bool:=FR (cI (· ==·) a b) (FR (cS (· ==·) a b) (FR ((HV a).bind λa=>(HV b).bind λb=>some (Float64.cmp a b==some Ordering.eq)) (if EA a&&EA b then some (LA a b)else none)))
def FS(a b:D):Option Bool:=FR (cI (· !=·) a b) (FR (cS (· !=·) a b) (if EA a&&EA b then some (!LA a b)else none))
def J0:D→D→Option Bool:=cI λa b=>decide (a<b)
def Q7:D→D→Option Bool:=cI λa b=>decide (b<a)
def Q8:D→D→Option Bool:=cI λa b=>decide (a≤b)
def O3:D→D→Option Bool:=cI λa b=>decide (b≤a)
theorem F7:IJ prog w n .Eq EU:= λA s hid a b da db r E hA ha hb h=>
 G7 h (OZ (λV V V V=>PyProof.Rows.eq_int ⟨rfl,Kp.refl _⟩) A s hid a b da db r E hA ha hb) λh=>G7 h (mL (λV V V V=>PyProof.Rows.eq_str ⟨rfl,Kp.refl _⟩) A s hid a b da db r E hA ha hb) λh=>
 G7 h (λh=>ha.fltE h λV V h=>hb.fltE h λV V h=>DA h (AutoFloatOps.eq_0 ⟨rfl,Kp.refl _⟩)) λh=>CV h λhk=>
  have k:=Bool.and_eq_true_iff.mp hk
  (ha.reads k.1).elim λV ra=>(hb.reads k.2).elim λV rb=>eq_dataH ra rb (U8 k.1) (U8 k.2) hA.units64 ⟨rfl,Kp.refl _⟩
theorem JY:IJ prog w n .NotEq FS:= λA s hid a b da db r E hA ha hb h=>
 G7 h (OZ (λV V V V=>PyProof.Rows.ne_int ⟨rfl,Kp.refl _⟩) A s hid a b da db r E hA ha hb) λh=>G7 h (mL (λV V V V=>PyProof.Rows.ne_str ⟨rfl,Kp.refl _⟩) A s hid a b da db r E hA ha hb) λh=>CV h λhk=>
  have k:=Bool.and_eq_true_iff.mp hk
  (ha.reads k.1).elim λV ra=>(hb.reads k.2).elim λV rb=>ne_dataH ra rb (U8 k.1) (U8 k.2) hA.units64 ⟨rfl,Kp.refl _⟩
theorem O1:IJ prog w n .Lt J0:=OZ λV V V V=>PyProof.Rows.lt_int ⟨rfl,Kp.refl _⟩
theorem mM:IJ prog w n .Gt Q7:=OZ λV V V V=>PyProof.Rows.gt_int ⟨rfl,Kp.refl _⟩
theorem mN:IJ prog w n .LtE Q8:=OZ λV V V V=>PyProof.Rows.le_int ⟨rfl,Kp.refl _⟩
theorem aF:IJ prog w n .GtE O3:=OZ λV V V V=>PyProof.Rows.ge_int ⟨rfl,Kp.refl _⟩
def isNone(d:D):Bool:=(OW d).isSome
theorem BH.isNone{h:Heap}{hid:Addr→Prop}{v:Value}{d:D}(x:BH h hid v d):(v== .none)=Mine.isNone d:=
 x.elim (λx=>AQ.casesOn (motive_1:= λv d V=>(v==Value.none)=Mine.isNone d) x rfl (λV=>rfl) (λV V=>rfl) (λV V=>rfl) (λV V=>rfl) (λV=>rfl) (λV=>rfl) (λV V V V=>rfl) (λV V=>rfl) (λV V V V V=>rfl) (λV V=>rfl) (λV V V V V=>rfl) (λV V V V=>rfl))
  λ⟨_,_,_,e,e',_⟩=>e▸e'▸rfl
def F8(a b:D):Option Bool:=FR ((OW b).bind λV=>some (isNone a)) ((Q0 a).bind λx=>(Q0 b).bind λy=>some (Value.type x==Value.type y))
theorem O0:IJ prog w n .Is F8:= λV V V V V V V V V V ha hb h=>
 G7 h (λh=>hb.noneE h λh=>DA h (is_none ⟨congrArg Value.bool ha.isNone,Kp.refl _⟩)) λh=>ha.tyE h λV h=>hb.tyE h λV h=>DA h (wpAny_is_plain rfl ⟨rfl,Kp.refl _⟩)
theorem aG:IJ prog w n .IsNot (λa b=>(F8 a b).map (!·)):= λV V V V V V V V V V ha hb h=>FV h λV h=>
 G7 h (λh=>hb.noneE h λh=>DA h (isNot_none ⟨congrArg (λb=>Value.bool (!b)) ha.isNone,Kp.refl _⟩)) λh=>ha.tyE h λV h=>hb.tyE h λV h=>DA h (wpAny_isNot_plain rfl ⟨rfl,Kp.refl _⟩)
theorem R7{l r:Expr}{op:CmpOp}{pos:Pos}{fl fr:List LV→Option D}{g:D→D→Option Bool}(hg:IJ prog w n op g)(hl:PO prog w AA n Sg l fl)(hr:PO prog w AA n Sg r fr)
  (hm:behindInMarks op r=false):
  PE prog w AA n Sg (.Compare l [op] [r] pos) (λρ=>(fl ρ).bind λa=>(fr ρ).bind λb=>(g a b).map .bool):=by
 intro env A s ρ d hid he ow la E H hA S hf;refine AK hf λa ha hf=>?_;refine AK hf λb hb hf=>?_;refine FV hf λr hq=>?_;refine wpAny_Compare1 (wp_g (hl env A s ρ a hid he ow la E H hA S ha) λva AB da A6=>?_) hm;refine wp_g (hr env A AB ρ b hid he ow la E H hA (S.grows A6.grows) hb) λvb AF db AZ=>?_;exact ID (hg A AF _ va vb a b r E hA (da.grows AZ.grows) db hq) λBI EJ=>⟨.bool _,(A6.trans AZ).trans EJ⟩
theorem CD{l r:Expr}{op:CmpOp}{pos:Pos}{fl fr:List LV→Option D}{g:D→D→Option Bool}(hg:IJ prog w n op g)(hl:PO prog w AA n Sg l fl)(hr:PO prog w AA n Sg r fr)
  (hm:behindInMarks op r=false):
  PT prog w AA n Sg (.Compare l [op] [r] pos) (λρ=>(fl ρ).bind λa=>(fr ρ).bind λb=>g a b):=by
 intro env A s ρ d hid he ow la E H hA S hf;refine AK hf λa ha hf=>?_;refine AK hf λb hb hf=>?_;refine wpAny_isTrue_Compare1 (wp_g (hl env A s ρ a hid he ow la E H hA S ha) λva AB da A6=>?_) hm;refine wp_g (hr env A AB ρ b hid he ow la E H hA (S.grows A6.grows) hb) λvb AF db AZ=>?_;refine ID (hg A AF _ va vb a b d E hA (da.grows AZ.grows) db hf) λBI EJ=>?_;exact wpAny_truthy_bool ⟨rfl,(A6.trans AZ).trans EJ⟩
theorem Md{x:Expr}{pos:Pos}{f:List LV→Option Bool}(h:PT prog w AA n Sg x f):PT prog w AA n Sg (.UnaryOp .Not x pos) (λρ=>(f ρ).map (!·)):=by
 intro env A s ρ d hid he ow la E H hA S hf;refine FV hf λq hq=>?_;exact wpAny_isTrue_Not (ID (h env A s ρ q hid he ow la E H hA S hq) λAB k=>⟨rfl,k⟩)
def HH(d:D):Option Bool:=FR (TX d) (FR ((B6 d).bind λi=>some (i !=0)) ((OW d).bind λV=>some false))
theorem Qh{A:Around}{s:Shared}{hid:Addr→Prop}{v:Value}{d:D}{b:Bool}{E:Value→Shared→Prop}(hd:AQ (AL s.heap hid) v d)(hf:HH d=some b):
  wpAny (model prog w) A (truthy v) (BP b s) E s:=
 G7 hf (λh=>(xK h▸hd).bool_inv▸wpAny_truthy_bool ⟨rfl,Kp.refl _⟩) λh=>G7 h (λh=>hd.intE h λV V h=>DA h (PyProof.Rows.truthy_int ⟨rfl,Kp.refl _⟩))
  λh=>(BH.of hd).noneE h λh=>DA h (PyProof.Rows.truthy_none ⟨rfl,Kp.refl _⟩)
theorem LQ{x:Expr}{f:List LV→Option D}(h:PE prog w AA n Sg x f)(he':∀env whole,isTrue x env whole=(do let v ←whole;standAt x.pos;holding [v] (truthy v))):
  PT prog w AA n Sg x (λρ=>(f ρ).bind HH):=by
 intro env A s ρ d hid he ow la E H hA S hf;refine AK hf λa ha hf=>?_;refine wpAny_isTrue_value (wp_g (h env A s ρ a hid he ow la E H hA S ha) λv AB dv k=>?_) (he' env _);exact ID (Qh dv hf) λAF AZ=>⟨rfl,k.trans AZ⟩
@[elab_as_elim] theorem Z3{α:Type}{b:Bool}{x y:Option α}{d:α}{P:Bool→Prop}(h:(if b then x else y)=some d)(k:x=some d→P true)(l:y=some d→P false):P b:=by
 cases b with
 |true=>exact k h
 |false=>exact l h
theorem rO{x y:Expr}{pos:Pos}{f g:List LV→Option Bool}(h:PT prog w AA n Sg x f)(h':PT prog w AA n Sg y g):
  PT prog w AA n Sg (.BoolOp .And [x,y] pos) (λρ=>(f ρ).bind λb=>if b then g ρ else some false):=by
 intro env A s ρ d hid he ow la E H hA S hf;refine AK hf λa ha hf=>?_;refine wpAny_isTrue_BoolOp (wpAny_allTrue_And_cons (ID (h env A s ρ a hid he ow la E H hA S ha) λAB k=>?_));refine Z3 hf (λhf=>?_) λhf=>DA hf ⟨rfl,k⟩;refine wpAny_allTrue_And_cons (ID (h' env A AB ρ d hid he ow la E H hA (S.grows k.grows) hf) λAF AZ=>?_);cases d with
 |true=>exact wpAny_allTrue_And_nil ⟨rfl,k.trans AZ⟩
 |false=>exact⟨rfl,k.trans AZ⟩
theorem eA{x y:Expr}{pos:Pos}{f g:List LV→Option Bool}(h:PT prog w AA n Sg x f)(h':PT prog w AA n Sg y g):
  PT prog w AA n Sg (.BoolOp .Or [x,y] pos) (λρ=>(f ρ).bind λb=>if b then some true else g ρ):=by
 intro env A s ρ d hid he ow la E H hA S hf;refine AK hf λa ha hf=>?_;refine wpAny_isTrue_BoolOp (wpAny_allTrue_Or_cons (ID (h env A s ρ a hid he ow la E H hA S ha) λAB k=>?_));refine Z3 hf (λhf=>DA hf ⟨rfl,k⟩) λhf=>?_;refine wpAny_allTrue_Or_cons (ID (h' env A AB ρ d hid he ow la E H hA (S.grows k.grows) hf) λAF AZ=>?_);cases d with
 |false=>exact wpAny_allTrue_Or_nil ⟨rfl,k.trans AZ⟩
 |true=>exact⟨rfl,k.trans AZ⟩
theorem R8{t a b:Expr}{pos:Pos}{ft:List LV→Option Bool}{fa fb:List LV→Option D}(ht:PT prog w AA n Sg t ft)(ha:PE prog w AA n Sg a fa)(hb:PE prog w AA n Sg b fb):
  PE prog w AA n Sg (.IfExp t a b pos) (λρ=>(ft ρ).bind λc=>if c then fa ρ else fb ρ):=by
 intro env A s ρ d hid he ow la E H hA S hf;refine AK hf λc hc hf=>?_;refine wpAny_IfExp (ID (ht env A s ρ c hid he ow la E H hA S hc) λAB k=>?_);exact Z3 hf (λhf=>wp_g (ha env A AB ρ d hid he ow la E H hA (S.grows k.grows) hf) λv AF q AZ=>⟨q,k.trans AZ⟩)
  λhf=>wp_g (hb env A AB ρ d hid he ow la E H hA (S.grows k.grows) hf) λv AF q AZ=>⟨q,k.trans AZ⟩
def GT(d:D):Option D:=(B6 d).bind λi=>some (.int (-i))
theorem KW{x:Expr}{pos:Pos}{f:List LV→Option D}(h:PE prog w AA n Sg x f):PE prog w AA n Sg (.UnaryOp .USub x pos) (λρ=>(f ρ).bind GT):=by
 intro env A s ρ d hid he ow la E H hA S hf;refine AK hf λa ha hf=>?_;refine wpAny_UnaryOp (wp_g (h env A s ρ a hid he ow la E H hA S ha) λv AB dv k=>?_);exact dv.intE hf λi t hf=>DA hf (PyProof.Rows.neg_int ⟨.int _ _,k.trans (Kp.toks _ _)⟩)
theorem A5:FM prog w AA n Sg [] (λV=>some []):=by
 intro env A s ρ ds hid he ow la pos E H hA S hf;cases hf;exact wpAny_items_nil ⟨.nil,Kp.refl _⟩
theorem AN{e:Expr}{rest:List Expr}{f:List LV→Option D}{g:List LV→Option (List D)}(h:PE prog w AA n Sg e f)(h':FM prog w AA n Sg rest g)
  (hs:∀env,starEach (e::rest) env=(false,eval e env)::starEach rest env):FM prog w AA n Sg (e::rest) (λρ=>(f ρ).bind λa=>(g ρ).bind λl=>some (a::l)):=by
 intro env A s ρ ds hid he ow la pos E H hA S hf;refine AK hf λa ha hf=>?_;refine AK hf λl hl hf=>?_;cases hf;refine wpAny_items_cons (wp_g (h env A s ρ a hid he ow la E H hA S ha) λv AB dv k=>?_) (hs env);exact wp_g (h' env A AB ρ l hid he ow la pos E H hA (S.grows k.grows) hl) λvs AF q AZ=>⟨.cons (dv.mono (DJ AZ.grows)) q,k.trans AZ⟩
end
theorem AV.fresh{AA:Heap}{Sg:AP}{env:Env}{hid:Addr→Prop}{he:Heap}{ow la:List Addr}{h:Heap}{ρ:List LV}(S:AV AA Sg env hid he ow la h ρ){a:Addr}(ha:h.get? a=none):¬AY hid ow a:=by
 rintro(q|q)
 ·obtain⟨_,o,e⟩:=S.hlt a q;rw[e]at ha;cases ha
 ·obtain⟨_,o,e⟩:=S.owr a q;rw[e]at ha;cases ha
theorem DT(h:Heap):h.get? h.objs.size=none:=by
 cases e:h.get? h.objs.size with
 |none=>rfl
 |some o=>exact absurd (Heap.lt_size e) (Nat.lt_irrefl _)
def D7(hid:Addr→Prop)(h:Heap):Prop:=∀a,hid a→∃o,h.get? a=some o
theorem D7.grows{hid:Addr→Prop}{h h':Heap}(x:D7 hid h)(k:A3 h h'):D7 hid h':= λa q=>let ⟨o,e⟩:=x a q;⟨o,k _ _ e⟩
theorem D7.fresh{hid:Addr→Prop}{h:Heap}(x:D7 hid h){a:Addr}(ha:h.get? a=none):¬hid a:= λq=>by
 obtain⟨o,e⟩:=x a q;rw[e]at ha;cases ha
theorem AV.hidOK{AA:Heap}{Sg:AP}{env:Env}{hid:Addr→Prop}{he:Heap}{ow la:List Addr}{h:Heap}{ρ:List LV}(S:AV AA Sg env hid he ow la h ρ):D7 (AY hid ow) h:=by
 rintro a (q|q)
 ·exact(S.hlt a q).2
 ·exact(S.owr a q).2
theorem bD{h:Heap}{hid:Addr→Prop}(K:D7 hid h){vs:List Value}{ds:List D}{n:Nat}(hd:AJ (AL h hid) vs ds):AQ (AL (h.push {cls:=.type "tuple",data:=.seq vs.toArray n}) hid) (.ref h.objs.size) (.tup ds):=
 .tup (o:={cls:=.type "tuple",data:=.seq vs.toArray n}) ⟨Heap.get?_push_size _ rfl,K.fresh (DT h)⟩ rfl rfl (hd.mono (DJ (A3.push _ _)))
theorem m7{h:Heap}{hid:Addr→Prop}(K:D7 hid h){vs:List Value}{ds:List D}{n:Nat}(hd:AJ (AL h hid) vs ds):AQ (AL (h.push {cls:=.type "list",data:=.seq vs.toArray n}) hid) (.ref h.objs.size) (.lst ds):=
 .lst ⟨Heap.get?_push_size _ rfl,K.fresh (DT h)⟩ (hd.mono (DJ (A3.push _ _)))
@[elab_as_elim] theorem BH.lstE{h:Heap}{hid:Addr→Prop}{v:Value}{d:D}{ds:List D}{P:Value→Prop}(x:BH h hid v d)(e:CX d=some ds)(k:∀l vs,h.IsList l (List.toArray vs)→AJ (AL h hid) vs ds→P (.ref l)):P v:=by
 rw[L3 e]at x;rcases x with x|⟨l,vs,es,rfl,e,⟨n,ho⟩,hd⟩
 ·obtain⟨a,vs,n,rfl,q,r⟩:=x.inv;exact k a vs ⟨_,q.1,rfl,_,rfl⟩ r
 ·injection e with e
  exact k l vs ⟨_,ho,rfl,n,rfl⟩ (e▸hd)
@[elab_as_elim] theorem BH.tupE{h:Heap}{hid:Addr→Prop}{v:Value}{d:D}{ds:List D}{P:Value→Prop}(x:BH h hid v d)(e:JC d=some ds)(k:∀l vs,IsTup h l (List.toArray vs)→AJ (AL h hid) vs ds→P (.ref l)):P v:=by
 rw[QZ e]at x;obtain⟨a,o,vs,n,rfl,q,q1,q2,r⟩:=(x.den rfl).inv;exact k a vs ⟨o,q.1,q1,n,q2⟩ r
theorem BH.lst{h:Heap}{hid:Addr→Prop}{v:Value}{ds:List D}(x:BH h hid v (.lst ds)):∃l vs,v=.ref l∧h.IsList l (List.toArray vs)∧AJ (AL h hid) vs ds:=
 x.lstE rfl λl vs a b=>⟨l,vs,rfl,a,b⟩
theorem BH.tup{h:Heap}{hid:Addr→Prop}{v:Value}{ds:List D}(x:BH h hid v (.tup ds)):∃l vs,v=.ref l∧IsTup h l (List.toArray vs)∧AJ (AL h hid) vs ds:=
 x.tupE rfl λl vs a b=>⟨l,vs,rfl,a,b⟩
section
variable{prog:Program}{w:World}{AA:Heap}{n:Nat}{Sg:AP}
noncomputable def BG(l:List α):Bool:=decide (l.length≤100000)
theorem OB{l:List D}(h:BG l=true):l.length≤100000:=of_decide_eq_true h
theorem eQ{l:List D}(h:BG l=true):l.length≤sizeLine:=Nat.le_trans (OB h) (by rw[sizeLine_eq];decide)
theorem EP{es:List Expr}{k:Nat}{pos:Pos}{f:List LV→Option (List D)}(h:FM prog w AA n Sg es f)(hs:decide (es.length≤1000)=true):PE prog w AA n Sg (.Tuple es k pos) (λρ=>(f ρ).bind λl=>if BG l then some (.tup l)else none):=
 λenv A s ρ d hid he ow la E H hA S hf=>AK hf λl hl hf=>CV hf λhsm=>wpAny_Tuple (wp_g (h env A s ρ l hid he ow la pos E H hA S hl) λvs AB dv k=>⟨dv.length▸eQ hsm,bD ((S.grows k.grows).hidOK) dv,k.trans (Kp.push _ _)⟩)
theorem d7{es:List Expr}{pos:Pos}{f:List LV→Option (List D)}(h:FM prog w AA n Sg es f):PE prog w AA n Sg (.List es pos) (λρ=>(f ρ).bind λl=>if BG l then some (.lst l)else none):=
 λenv A s ρ d hid he ow la E H hA S hf=>AK hf λl hl hf=>CV hf λhsm=>wpAny_List (wp_g (h env A s ρ l hid he ow la pos E H hA S hl) λvs AB dv k=>⟨dv.length▸eQ hsm,m7 ((S.grows k.grows).hidOK) dv,k.trans (Kp.push _ _)⟩)
noncomputable def LO(l:List D)(k:Int):Option D:=
 if decide (0≤k)&&decide (k.natAbs<1000000)then l[k.toNat]? else if decide (k<0)&&decide (k.natAbs≤l.length)&&decide (k.natAbs≤1000000)then l[(k+l.length).toNat]? else none
theorem rJ{l:List D}{k:Int}{d:D}{P:Prop}(h:LO l k=some d)(x:0≤k→k.natAbs<1000000→l[k.toNat]? =some d→P)(y:k<0→k.natAbs≤l.length→k.natAbs≤1000000→l[(k+l.length).toNat]? =some d→P):P:=by
 unfold LO at h;by_cases q:(decide (0≤k)&&decide (k.natAbs<1000000))=true
 ·rw[if_pos q]at h;rw[Bool.and_eq_true,decide_eq_true_eq,decide_eq_true_eq]at q;exact x q.1 q.2 h
 ·rw[if_neg q]at h;refine DM h λq h=>?_;rw[Bool.and_eq_true,Bool.and_eq_true,decide_eq_true_eq,decide_eq_true_eq,decide_eq_true_eq]at q;exact y q.1.1 q.1.2 q.2 h
def BL(a b:D):Option D:=(B6 b).bind λk=>NZ (CX a) (λl=>LO l k) (NZ (JC a) (λl=>LO l k) ((E6 a).bind λx=>if decide (k.natAbs<1000000)then((seqIndex? k x.length).bind (x.cps[·]?)).map λc=>.str ⟨#[c]⟩else none))
theorem Sc{k:Int}(h:k.natAbs≤1000000):¬(k< -(2:Int)^63)∧¬(2:Int)^63≤k:=by lia
theorem r0{k:Int}{m:Nat}(h0:0≤k)(h1:k.toNat<m):seqIndex? k m=some k.toNat:=by
 unfold seqIndex?;have a:¬k<0:=by lia
 simp only[a,if_false];rw[if_pos (by simp;lia)]
theorem C2{e i:Expr}{pos:Pos}{f g:List LV→Option D}(h:PO prog w AA n Sg e f)(h':PE prog w AA n Sg i g)
  (hsl:∀o v,subscripted i false o v=operate [o,v] (getItem o v)):PE prog w AA n Sg (.Subscript e i pos) (λρ=>(f ρ).bind λa=>(g ρ).bind λb=>BL a b):=by
 intro env A s ρ d hid he ow la E H hA S hf;refine AK hf λa ha hf=>?_;refine AK hf λb hb hf=>?_;refine Subscript_ (wp_g (h env A s ρ a hid he ow la E H hA S ha) λva AB da A6=>?_);refine wp_g (h' env A AB ρ b hid he ow la E H hA (S.grows A6.grows) hb) λvb AF db AZ=>?_;have kk:=A6.trans AZ;have da:=da.grows AZ.grows;refine db.intE hf λk t hf=>U9 hf (λds e hf=>da.lstE e λl vs hl hd=>?_) λhf=>U9 hf (λds e hf=>da.tupE e λl vs hl hd=>?_) λhf=>da.strE hf λx t hf=>DM hf λhc hf=>FV hf λc hcq=>?_
 ·refine rJ hf (λh0 h1 hf=>?_) λh0 h1 h2 hf=>?_
  ·obtain⟨v,hv,hdv⟩:=hd.get hf;exact tail_any hl.typeIs slot_list_getitem.lookup (wpAny_getItem_list hl h0 (by lia) (by simpa using hv) ⟨hdv,kk⟩) (hsl _ _)
  ·obtain⟨v,hv,hdv⟩:=hd.get hf;have hlen:=hd.length;exact tail_any hl.typeIs slot_list_getitem.lookup (wpAny_getItem_list_neg hl h0 (by simp;lia) (by lia) (by rw[←hlen]at hv;simpa using hv) ⟨hdv,kk⟩) (hsl _ _)
 ·refine rJ hf (λh0 h1 hf=>?_) λh0 h1 h2 hf=>?_
  ·obtain⟨v,hv,hdv⟩:=hd.get hf;exact item_tupleT hl (by lia) (by lia) (r0 h0 (List.getElem?_eq_some_iff.mp hv).1) hv ⟨hdv,kk⟩ (hsl _ _)
  ·obtain⟨v,hv,hdv⟩:=hd.get hf;have hlen:=hd.length;exact item_tupleT hl (by lia) (by lia) (seqIndex_neg h0 (by lia)) (by rw[←hlen]at hv;exact hv) ⟨hdv,kk⟩ (hsl _ _)
 ·have hc:=of_decide_eq_true hc;exact tail_any (typeIs_str _ _ _) slot_str_getitem.lookup (PyProof.Rows.getItem_str (by simp only[Bool.or_eq_false_iff,decide_eq_false_iff_not];lia) hcq ⟨.str _ _,kk.trans (Kp.toks _ _)⟩) (hsl _ _)
noncomputable def OD(l:List D)(k:Int):List D:=if 0≤k then l.take k.toNat else l.take (l.length-(-k).toNat)
theorem AJ.take{g:Gm}{vs:List Value}{ds:List D}(h:AJ g vs ds)(k:Nat):AJ g (vs.take k) (ds.take k):=by
 induction ds generalizing vs k with
 |nil=>rw[h.nil_inv,List.take_nil,List.take_nil];exact .nil
 |cons d ds ih=>
  obtain⟨v,us,rfl,a,r⟩:=h.cons_inv;cases k with
  |zero=>exact .nil
  |succ k=>exact .cons a (ih r k)
theorem AJ.reverse{g:Gm}{vs:List Value}{ds:List D}(h:AJ g vs ds):AJ g vs.reverse ds.reverse:=by
 induction ds generalizing vs with
 |nil=>rw[h.nil_inv];exact .nil
 |cons d ds ih=>
  obtain⟨v,us,rfl,a,r⟩:=h.cons_inv;rw[List.reverse_cons,List.reverse_cons];exact(ih r).append (.cons a .nil)
theorem Kt{vs:List Value}{ds:List D}{g:Gm}(h:AJ g vs ds)(k:Int):AJ g (slicePick vs.toArray none (some k) none).toList (OD ds k):=by
 unfold OD;have hl:=h.length;split
 ·obtain⟨m,rfl⟩:=Int.eq_ofNat_of_zero_le (by assumption);rw[slicePick_upto'];exact h.take _
 ·obtain⟨m,hm⟩:=Int.eq_ofNat_of_zero_le (a:= -k) (by lia);have:k= -(m:Int):=by lia
  subst this;rw[slicePick_butLast _ m (by lia)];have e:(- -(m:Int)).toNat=m:=by lia
  rw[e,←hl];simpa using h.take _
theorem eM{A:Around}{s:Shared}{hid:Addr→Prop}{value slice:Expr}{l:Addr}{vs:List Value}{vl vu vk:Value}{lo hi st:Option Int}{ds:List D}{CA:Shared}{E:Value→Shared→Prop}(K:D7 hid s.heap)(hl:s.heap.IsList l vs.toArray)(pl:IsPart vl lo)(pu:IsPart vu hi)(pk:IsPart vk st)(h0:st≠some 0)
  (hd:AJ (AL s.heap hid) (slicePick vs.toArray lo hi st).toList ds)(hsz:vs.length≤100000)(k:Kp CA s){ops:List Value}
  (hs:subscripted slice false (.ref l) (.ref s.heap.objs.size)=operate ops (getItem (.ref l) (.ref s.heap.objs.size))):
  wpAny (model prog w) A (subscriptTail value slice (.ref l) (.ref s.heap.objs.size)) (DP hid (.lst ds) CA) E {s with heap:=s.heap.push {cls:=.type "slice",data:=.fields #[vl,vu,vk]}}:=by
 have hl':=hl.push {cls:=.type "slice",data:=.fields #[vl,vu,vk]};refine tail_any hl'.typeIs slot_list_getitem.lookup (wpAny_getItem_list_slice hl' (Heap.IsSliceOf.new ..) pl pu pk h0 ⟨?_,?_⟩ (by rw[List.size_toArray,sizeLine_eq];lia)) hs
 ·have:=m7 (n:=0) (K.grows (A3.push s.heap {cls:=.type "slice",data:=.fields #[vl,vu,vk]})) (hd.mono (DJ (A3.push s.heap {cls:=.type "slice",data:=.fields #[vl,vu,vk]})));rw[Array.toArray_toList]at this;exact this
 ·exact k.trans ((Kp.push _ _).trans (Kp.push {s with heap:=s.heap.push {cls:=.type "slice",data:=.fields #[vl,vu,vk]}} _))
def KQ(a b:D):Option D:=(B6 b).bind λk=>(FR (CX a) (Q1 a)).bind λl=>if BG l then some (.lst (OD l k))else none
@[elab_as_elim] theorem BH.lzE{h:Heap}{hid:Addr→Prop}{v:Value}{d:D}{ds:List D}{P:Value→Prop}(x:BH h hid v d)(e:FR (CX d) (Q1 d)=some ds)(k:∀l vs,h.IsList l (List.toArray vs)→AJ (AL h hid) vs ds→P (.ref l)):P v:=by
 refine G7 e (λe=>x.lstE e k) λe=>?_;rw[xP e]at x;obtain⟨a,o,vs,n,rfl,q,q1,q2,r⟩:=(x.den rfl).inv;exact k a vs ⟨o,q.1,q1,n,q2⟩ r
theorem PR{e u:Expr}{p pos:Pos}{f g:List LV→Option D}(h:PO prog w AA n Sg e f)(h':PE prog w AA n Sg u g):
  PE prog w AA n Sg (.Subscript e (.Slice none (some u) none p) pos) (λρ=>(f ρ).bind λa=>(g ρ).bind λb=>KQ a b):=by
 intro env A s ρ d hid he ow la E H hA S hf;refine AK hf λa ha hf=>?_;refine AK hf λb hb hf=>?_;refine Subscript_ (wp_g (h env A s ρ a hid he ow la E H hA S ha) λva AB da A6=>?_);refine wpAny_Slice ?_;rw[evalPart_none];refine wpAny_pure ?_;rw[evalPart_some];refine wp_g (h' env A AB ρ b hid he ow la E H hA (S.grows A6.grows) hb) λvb AF db AZ=>?_;refine wpAny_pure ?_;have kk:=A6.trans AZ;have da:=da.grows AZ.grows
 exact db.intE hf λm t hf=>AK hf λds e hf=>da.lzE e λl vs hl hd=>CV hf λhsm=>
  eM ((S.grows kk.grows).hidOK) hl .none (.int _ _) .none (by simp) (Kt hd _) (by rw[hd.length];exact OB hsm) kk (ops:=[.ref AF.heap.objs.size,.ref l]) rfl
def aI(a:D):Option D:=(CX a).bind λl=>if BG l then some (.lst l)else none
theorem Kg{e:Expr}{p pos:Pos}{f:List LV→Option D}(h:PO prog w AA n Sg e f):
  PE prog w AA n Sg (.Subscript e (.Slice none none none p) pos) (λρ=>(f ρ).bind aI):=by
 intro env A s ρ d hid he ow la E H hA S hf;refine AK hf λa ha hf=>?_;refine Subscript_ (wp_g (h env A s ρ a hid he ow la E H hA S ha) λva AB da A6=>?_);refine wpAny_Slice ?_;rw[evalPart_none];refine wpAny_pure (wpAny_pure (wpAny_pure ?_))
 exact AK hf λds e hf=>da.lstE e λl vs hl hd=>CV hf λhsm=>
  eM ((S.grows A6.grows).hidOK) hl .none .none .none (by simp) (by rw[slicePick_all];simpa using hd) (by rw[hd.length];exact OB hsm) A6 (ops:=[.ref AB.heap.objs.size,.ref l]) rfl
def aX(a b:D):Option D:=(B6 b).bind λk=>(CX a).bind λl=>if BG l&&decide (k= -1)then some (.lst l.reverse)else none
theorem Kq{e u:Expr}{p pos:Pos}{f g:List LV→Option D}(h:PO prog w AA n Sg e f)(h':PE prog w AA n Sg u g):
  PE prog w AA n Sg (.Subscript e (.Slice none none (some u) p) pos) (λρ=>(f ρ).bind λa=>(g ρ).bind λb=>aX a b):=by
 intro env A s ρ d hid he ow la E H hA S hf;refine AK hf λa ha hf=>?_;refine AK hf λb hb hf=>?_;refine Subscript_ (wp_g (h env A s ρ a hid he ow la E H hA S ha) λva AB da A6=>?_);refine wpAny_Slice ?_;rw[evalPart_none];refine wpAny_pure (wpAny_pure ?_);rw[evalPart_some];refine wp_g (h' env A AB ρ b hid he ow la E H hA (S.grows A6.grows) hb) λvb AF db AZ=>?_;have kk:=A6.trans AZ;have da:=da.grows AZ.grows;refine db.intE hf λm t hf=>AK hf λds e hf=>da.lstE e λl vs hl hd=>CV hf λhsm=>?_;obtain⟨hs2,e⟩:=Bool.and_eq_true_iff.mp hsm;clear hsm;have e:=of_decide_eq_true e;subst e;exact eM ((S.grows kk.grows).hidOK) hl .none .none (.int _ _) (by simp) (by rw[krv_pick];simpa using hd.reverse) (by rw[hd.length];exact OB hs2) kk (ops:=[.ref l,.ref AF.heap.objs.size]) rfl
end
structure B0(AA:Heap)(mg mb:Str→Option Value):Prop where
 ng:AA.Ns mainGlobals mg
 nb:AA.Ns builtinsNs mb
 ne:mainGlobals≠builtinsNs
 lim:AA.NoLimit
def ED(h:Heap)(hid:Addr→Prop):List Value→List D→Prop
 |[],[]=>True
 |v::vs,d::ds=>BH h hid v d∧ED h hid vs ds
 |_,_=>False
theorem ED.grows{h h':Heap}{hid:Addr→Prop}(k:A3 h h'):∀{vs:List Value}{ds:List D},ED h hid vs ds→ED h' hid vs ds
 |[],[],_=>trivial
 |_::_,_::_,x=>⟨x.1.grows k,ED.grows k x.2⟩
 |[],_::_,x=>x.elim
 |_::_,[],x=>x.elim
theorem ED.cons_inv{h:Heap}{hid:Addr→Prop}{vs:List Value}{d:D}{ds:List D}(x:ED h hid vs (d::ds)):∃v us,vs=v::us∧BH h hid v d∧ED h hid us ds:=by
 cases vs with
 |nil=>exact x.elim
 |cons v us=>exact⟨v,us,rfl,x.1,x.2⟩
theorem ED.nil_inv{h:Heap}{hid:Addr→Prop}{vs:List Value}(x:ED h hid vs []):vs=[]:=by
 cases vs with
 |nil=>rfl
 |cons v us=>exact x.elim
theorem ED.one{h:Heap}{hid:Addr→Prop}{vs:List Value}{d:D}(x:ED h hid vs [d]):∃v,vs=[v]∧BH h hid v d:=
 let ⟨v,_,e,a,r⟩:=x.cons_inv;⟨v,by rw[e,r.nil_inv],a⟩
theorem ED.two{h:Heap}{hid:Addr→Prop}{vs:List Value}{d e:D}(x:ED h hid vs [d,e]):∃v u,vs=[v,u]∧BH h hid v d∧BH h hid u e:=
 let ⟨v,_,e,a,r⟩:=x.cons_inv;let ⟨u,e',b⟩:=r.one;⟨v,u,by rw[e,e'],a,b⟩
theorem ED.three{h:Heap}{hid:Addr→Prop}{vs:List Value}{d e f:D}(x:ED h hid vs [d,e,f]):∃v u t,vs=[v,u,t]∧BH h hid v d∧BH h hid u e∧BH h hid t f:=
 let ⟨v,_,e,a,r⟩:=x.cons_inv;let ⟨u,t,e',b,c⟩:=r.two;⟨v,u,t,by rw[e,e'],a,b,c⟩
section
variable{β:Type}{h:Heap}{hid:Addr→Prop}{vs:List Value}{l:List D}{b:β}{P:List Value→Prop}
@[elab_as_elim] theorem ED.oneE{f:D→Option β}(x:ED h hid vs l)(e:EO f l=some b)(k:∀v d,BH h hid v d→f d=some b→P [v]):P vs:=match l,e with
 |[d],e=>let ⟨v,q,a⟩:=x.one;q▸k v d a e
@[elab_as_elim] theorem ED.twoE{f:D→D→Option β}(x:ED h hid vs l)(e:I4 f l=some b)(k:∀v u d e,BH h hid v d→BH h hid u e→f d e=some b→P [v,u]):P vs:=match l,e with
 |[d,e'],e=>let ⟨v,u,q,a,c⟩:=x.two;q▸k v u d e' a c e
@[elab_as_elim] theorem ED.threeE{f:D→D→D→Option β}(x:ED h hid vs l)(e:P8 f l=some b)(k:∀v u t d e i,BH h hid v d→BH h hid u e→BH h hid t i→f d e i=some b→P [v,u,t]):P vs:=match l,e with
 |[d,e',i],e=>let ⟨v,u,t,q,a,c,r⟩:=x.three;q▸k v u t d e' i a c r e
end
structure w7(hid:Addr→Prop)(ds:List D)(s:Shared)(vs:List Value)(s':Shared):Prop where
 d:ED s'.heap hid vs ds
 k:Kp s s'
section
variable(prog:Program)(w:World)(AA:Heap)
def FL(n:Nat)(fv:Value)(f:List D→Option D):Prop:=
 ∀(A:Around)(s:Shared)(hid:Addr→Prop)(vs:List Value)(ds:List D)(d:D)(E:Value→Shared→Prop),B9 n A→A3 AA s.heap→D7 hid s.heap→ED s.heap hid vs ds→f ds=some d→
  wpAny (model prog w) A (call fv vs) (DP hid d s) E s
def CK(n:Nat)(fa:Addr)(f:List D→Option D):Prop:=
 ∀(A:Around)(s:Shared)(hid:Addr→Prop)(vs:List Value)(ds:List D)(d:D)(E:Value→Shared→Prop),B9 n A→A3 AA s.heap→D7 hid s.heap→AJ (AL s.heap hid) vs ds→f ds=some d→
  wpAny (model prog w) A (call (.ref fa) vs) (DP hid d s) E s
def L1(n:Nat)(Sg:AP)(es:List Expr)(f:List LV→Option (List D)):Prop:=
 ∀(env:Env)(A:Around)(s:Shared)(ρ:List LV)(ds:List D)(hid:Addr→Prop)(he:Heap)(ow la:List Addr)(pos:Pos)(E:Value→Shared→Prop),
  CN Sg env→B9 n A→AV AA Sg env hid he ow la s.heap ρ→f ρ=some ds→
  wpAny (model prog w) A (spliced (backTo pos (starEach es env))) (w7 (AY hid ow) ds s) E s
end
section
variable{prog:Program}{w:World}{AA:Heap}{n:Nat}{Sg:AP}{mg mb:Str→Option Value}
theorem BX:L1 prog w AA n Sg [] (λV=>some []):=by
 intro env A s ρ ds hid he ow la pos E H hA S hf;cases hf;exact wpAny_items_nil ⟨trivial,Kp.refl _⟩
theorem BT{e:Expr}{rest:List Expr}{f:List LV→Option D}{g:List LV→Option (List D)}(h:PO prog w AA n Sg e f)(h':L1 prog w AA n Sg rest g)
  (hs:∀env,starEach (e::rest) env=(false,eval e env)::starEach rest env):L1 prog w AA n Sg (e::rest) (λρ=>(f ρ).bind λa=>(g ρ).bind λl=>some (a::l)):=by
 intro env A s ρ ds hid he ow la pos E H hA S hf;refine AK hf λa ha hf=>?_;refine AK hf λl hl hf=>?_;cases hf;refine wpAny_items_cons (wp_g (h env A s ρ a hid he ow la E H hA S ha) λv AB dv k=>?_) (hs env);exact BD (h' env A AB ρ l hid he ow la pos E H hA (S.grows k.grows) hl) λvs AF ⟨q,AZ⟩=>⟨⟨dv.grows AZ.grows,q⟩,k.trans AZ⟩
def BK(mg mb:Str→Option Value)(x:Str)(v:Value):Prop:=mg x=some v∨(mg x=none∧mb x=some v)
theorem IE{env:Env}{A:Around}{s:Shared}{Q:Value→Shared→Prop}{E:Value→Shared→Prop}{i:Nat}{x:Str}{v:Value}{pos:Pos}(B:B0 AA mg mb)(H:CN Sg env)(hn:Sg.globs[i]? =some x)(hv:BK mg mb x v)(hb:A3 AA s.heap)(h:Q v s):
  wpAny (model prog w) A (eval (.Name x pos) env) Q E s:=by
 refine Calls.Name_function_global H.kind (H.glo i x hn) ?_ (H.dbgG i x hn);rcases hv with hv|⟨h1,h2⟩
 ·exact Calls.loadGlobal_global (by rw[H.glob];exact B.ng.keeps hb) hv h
 ·exact Calls.loadGlobal_builtin (by rw[H.glob];exact B.ng.keeps hb) h1 (by rw[H.bi];exact B.nb.keeps hb) h2 h
theorem VB(B:B0 AA mg mb)(i:Nat){x:Str}{v:Value}{pos:Pos}{d:D}(hn:Sg.globs[i]? =some x)(hv:BK mg mb x v)(hd:∀g,AQ g v d):PE prog w AA n Sg (.Name x pos) (λV=>some d):=by
 intro env A s ρ d' hid he ow la E H hA S hf;cases hf;exact IE B H hn hv (S.base.trans S.keep) ⟨hd _,Kp.refl _⟩
theorem JX{A:Around}{s:Shared}{E:Value→Shared→Prop}{pos:Pos}{f:Value}{first:List Value}{args:List (Bool×Sem Value)}{Q:Value→Shared→Prop}(hf:∀a,f≠.ref a)(hplain:args.any (·.1)=false)
  (h:wpAny (model prog w) A (evalArgs f true args []) (λa AB=>wpAny (model prog w) A (call f (first++a.pos) a.kw) Q E AB) E s):
  wpAny (model prog w) A (callWith pos f first args []) Q E s:=by
 unfold callWith;refine wpAny_bind (wpAny_holding (wpAny_mono h (λa AB CT=>wpAny_bind (wpAny_standAt ?_)) λV V x=>x));simp only[hplain,List.any_nil,Bool.or_false];have hk:keeperOf f=pure .machine:=by
  cases f<;>first|rfl|exact absurd rfl (hf _)
 rw[hk];refine wpAny_bind (wpAny_pure ?_);exact wpAny_bind (wpAny_mono CT (λr AF hr=>wpAny_bind (wpAny_holding (wpAny_point (wpAny_pure hr)))) λV V x=>x)
def DK(es:List Expr):Prop:=∀env,(starEach es env).any (·.1)=false
theorem AW:DK []:= λV=>rfl
theorem AO{e:Expr}{rest:List Expr}(hs:∀env,starEach (e::rest) env=(false,eval e env)::starEach rest env)(h:DK rest):DK (e::rest):= λenv=>by rw[hs];simpa using h env
theorem HX(pos:Pos)(l:List (Bool×Sem Value)):(backTo pos l).any (·.1)=l.any (·.1):=by
 induction l with
 |nil=>rfl
 |cons a r ih=>show(a.1||(backTo pos r).any (·.1))=(a.1||r.any (·.1));rw[ih]
theorem GC{A:Around}{s:Shared}{E:Value→Shared→Prop}{pos:Pos}{f:Value}{es:List Expr}{env:Env}{Q:Args→Shared→Prop}(hp:DK es)
  (h:wpAny (model prog w) A (spliced (backTo pos (starEach es env))) (λvs s'=>Q ⟨vs,[]⟩ s') E s):wpAny (model prog w) A (evalArgs f true (backTo pos (starEach es env)) []) Q E s:=by
 have ha:=HX pos (starEach es env);rw[hp env]at ha;generalize backTo pos (starEach es env)=l at h ha
 cases l with
 |nil=>
  unfold evalArgs;show wpAny _ A (spliced []>>=_) Q E s;refine wpAny_bind (wpAny_mono h (λvs s' h'=>?_) λV V x=>x);refine wpAny_bind (wpAny_pure ?_);refine wpAny_holding ?_;exact wpAny_bind (wpAny_pure (wpAny_bind (wpAny_pure (wpAny_pure h'))))
 |cons a r=>
  obtain⟨b,t⟩:=a;have:b=false:=by simp at ha;exact ha.1
  subst this;exact Calls.evalArgs_plain h
theorem CW(B:B0 AA mg mb)(i:Nat){x:Str}{fv:Value}{p pos:Pos}{es:List Expr}{g:List D→Option D}{f:List LV→Option (List D)}(hn:Sg.globs[i]? =some x)(hv:BK mg mb x fv)(hr:∀a,fv≠.ref a)
  (hg:FL prog w AA n fv g)(hp:DK es)(h:L1 prog w AA n Sg es f):PE prog w AA n Sg (.Call (.Name x p) es [] pos) (λρ=>(f ρ).bind g):=by
 intro env A s ρ d hid he ow la E H hA S hf;refine AK hf λds hds hf=>?_;show wpAny (model prog w) A (do callWith pos (←eval (.Name x p) env) [] (backTo pos (starEach es env)) (backToKw pos (keywordEach [] env))) _ E s;refine wpAny_bind (IE B H hn hv (S.base.trans S.keep) ?_);refine JX hr (by rw[HX];exact hp env) (GC hp (BD (h env A s ρ ds hid he ow la pos E H hA S hds) λvs AB ⟨dv,k⟩=>?_));have S':=S.grows k.grows;exact wp_g (hg A AB _ vs ds d E hA (S'.base.trans S'.keep) S'.hidOK dv hf) λv AF q AZ=>⟨q,k.trans AZ⟩
theorem Kj(B:B0 AA mg mb)(i:Nat){x:Str}{fa:Addr}{o:Obj}{fd:FuncData}{p pos:Pos}{es:List Expr}{g:List D→Option D}{f:List LV→Option (List D)}(hn:Sg.globs[i]? =some x)(hv:mg x=some (.ref fa))
  (ho:AA.get? fa=some o)(hd:o.data=.func fd)
  (hg:CK prog w AA n fa g)(hp:DK es)(h:FM prog w AA n Sg es f):PE prog w AA n Sg (.Call (.Name x p) es [] pos) (λρ=>(f ρ).bind g):=by
 intro env A s ρ d hid he ow la E H hA S hf;refine AK hf λds hds hf=>?_;show wpAny (model prog w) A (do callWith pos (←eval (.Name x p) env) [] (backTo pos (starEach es env)) (backToKw pos (keywordEach [] env))) _ E s;refine wpAny_bind (IE B H hn (.inl hv) (S.base.trans S.keep) ?_);refine Calls.callWith_function (o:=o) (fd:=fd) (GC hp (wp_g (h env A s ρ ds hid he ow la pos E H hA S hds) λvs AB dv k=>?_));have S':=S.grows k.grows;have hb:=S'.base.trans S'.keep;exact⟨⟨hb _ _ ho,hd⟩,wp_g (hg A AB _ vs ds d E hA hb S'.hidOK dv hf) λv AF q AZ=>⟨q,k.trans AZ⟩⟩
end
inductive AC where
 |next|brk|cont
 |ret (d:D)
def QQ(h:Heap)(hid:Addr→Prop)(ow:List Addr)(v:Value)(d:D):Prop:=
 AQ (AL h (AY hid ow)) v d∨∃l vs ds,l∈ow∧v=.ref l∧d=.lst ds∧h.PlainList l (List.toArray vs)∧AJ (AL h (AY hid ow)) vs ds
def JB(fl:Flow)(out:AC)(h:Heap)(hid:Addr→Prop)(ow:List Addr):Prop:=match fl,out with
 |.next,.next=>True
 |.brk,.brk=>True
 |.cont,.cont=>True
 |.ret v,.ret d=>QQ h hid ow v d
 |_,_=>False
section
variable{fl:Flow}{h:Heap}{hid:Addr→Prop}{ow:List Addr}{d:D}
theorem dY(o:JB fl .next h hid ow):fl=.next:=by cases fl<;>first|rfl|exact o.elim
theorem Sl(o:JB fl .brk h hid ow):fl=.brk:=by cases fl<;>first|rfl|exact o.elim
theorem Sn(o:JB fl .cont h hid ow):fl=.cont:=by cases fl<;>first|rfl|exact o.elim
theorem Ju(o:JB fl (.ret d) h hid ow):∃v,fl=.ret v:=by cases fl<;>first|exact⟨_,rfl⟩|exact o.elim
end
theorem E5{α:Type}{a:α}{P:α→Prop}(h:P a):∀b∈[a],P b:= λb hb=>by rw[List.mem_singleton.mp hb];exact h
theorem D4{α:Type}{a:α}{l:List α}{P:α→Prop}(h:P a)(k:∀b∈l,P b):∀b∈a::l,P b:= λb hb=>(List.mem_cons.mp hb).elim (λq=>q▸h) (k b)
theorem FE{h h':Heap}(k:A3 h h'){a:Addr}(e:h'.get? a=none):h.get? a=none:=by
 cases q:h.get? a with
 |none=>rfl
 |some o=>exact dM ((k _ _ q).symm.trans e)
abbrev Sm(s s':Shared):Prop:=∃h' tk,s'={s with heap:=h',toks:=tk}
theorem Sm.refl(s:Shared):Sm s s:=⟨s.heap,s.toks,rfl⟩
theorem Sm.trans{a b c:Shared}(x:Sm a b)(y:Sm b c):Sm a c:=let ⟨_,_,e⟩:=x;let ⟨h,t,e'⟩:=y;⟨h,t,by rw[e',e]⟩
theorem Sm.of_kp{s s':Shared}(k:Kp s s'):Sm s s':=let ⟨h,t,e,_⟩:=k;⟨h,t,e⟩
def Bk(ow:List Addr)(h h':Heap):Prop:=∀b o,b∉ow→h.get? b=some o→h'.get? b=some o
theorem Bk.back{ow:List Addr}{h h':Heap}(k:Bk ow h h'){b:Addr}(q:h'.get? b=none):b∈ow∨h.get? b=none:=by
 by_cases m:b∈ow
 ·exact .inl m
 ·refine .inr ?_;cases e:h.get? b with
  |none=>rfl
  |some o=>exact dM ((k b o m e).symm.trans q)
theorem BO{h:Heap}{b:Addr}{o:Obj}{P:Prop}(e:h.get? b=none)(f:h.get? b=some o):P:=AI (e.symm.trans f)
structure Mv(ow ow':List Addr)(s s':Shared):Prop where
 sh:Sm s s'
 kp:Bk ow s.heap s'.heap
 nw:∀b∈ow',b∈ow∨s.heap.get? b=none
theorem Mv.refl(ow:List Addr)(s:Shared):Mv ow ow s s:=⟨.refl s,λV V V e=>e,λV h=>.inl h⟩
theorem Mv.trans{o1 o2 o3:List Addr}{a b c:Shared}(x:Mv o1 o2 a b)(y:Mv o2 o3 b c):Mv o1 o3 a c:=
 ⟨x.sh.trans y.sh,λd o hb e=>y.kp d o (λq=>(x.nw d q).elim hb λq=>BO q e) (x.kp d o hb e),λd hb=>(y.nw d hb).elim (x.nw d) x.kp.back⟩
theorem Mv.of_kp{ow:List Addr}{s s':Shared}(k:Kp s s'):Mv ow ow s s':=⟨.of_kp k,λb o V e=>k.grows b o e,λV h=>.inl h⟩
inductive FN(AA:Heap)(Sg:AP)(env:Env)(hid:Addr→Prop)(he:Heap)(ow:List Addr)(s:Shared)(ρ':List LV)(out:AC)(fl:Flow)(s':Shared):Prop
 |mk (ow' la':List Addr):AV AA Sg env hid he ow' la' s'.heap ρ'→JB fl out s'.heap hid ow'→Mv ow ow' s s'→FN AA Sg env hid he ow s ρ' out fl s'
theorem FN.pre{AA:Heap}{Sg:AP}{env:Env}{hid:Addr→Prop}{he:Heap}{ow ow':List Addr}{s AB s':Shared}{ρ':List LV}{out:AC}{fl:Flow}(x:FN AA Sg env hid he ow' AB ρ' out fl s')(m:Mv ow ow' s AB):FN AA Sg env hid he ow s ρ' out fl s':=x.casesOn λo l S r k=>⟨o,l,S,r,m.trans k⟩
section
variable(prog:Program)(w:World)(AA:Heap)
def XS(n:Nat)(Sg:AP)(st:Stmt)(F:List LV→Option (AC×List LV)):Prop:=
 ∀(env:Env)(A:Around)(s:Shared)(ρ ρ':List LV)(out:AC)(hid:Addr→Prop)(he:Heap)(ow la:List Addr)(E:Value→Shared→Prop),
  CN Sg env→B9 n A→AV AA Sg env hid he ow la s.heap ρ→F ρ=some (out,ρ')→
  wpAny (model prog w) A (exec st env) (FN AA Sg env hid he ow s ρ' out) E s
def PS(n:Nat)(Sg:AP)(b:List Stmt)(F:List LV→Option (AC×List LV)):Prop:=
 ∀(env:Env)(A:Around)(s:Shared)(ρ ρ':List LV)(out:AC)(hid:Addr→Prop)(he:Heap)(ow la:List Addr)(E:Value→Shared→Prop),
  CN Sg env→B9 n A→AV AA Sg env hid he ow la s.heap ρ→F ρ=some (out,ρ')→
  wpAny (model prog w) A (execs b env) (FN AA Sg env hid he ow s ρ' out) E s
end
theorem AV.move{AA:Heap}{Sg:AP}{env:Env}{hid:Addr→Prop}{he:Heap}{ow la la':List Addr}{h h':Heap}{ρ ρ':List LV}(S:AV AA Sg env hid he ow la h ρ)
  {b:Addr}(hb:b∈ow)(hs:Heap.SameBut b h h')(hex:∃o,h'.get? b=some o)(hns:∃m,h'.Ns env.locals m)(hcel:∀x c,env.cells.lookup x=some c→∃v,h'.IsCell c v)(hlen:ρ'.length=ρ.length)(hlal:la'.length=la.length)
  (hslot:∀(i:Nat)(x:Str)(b:Bool)(l:Addr)(lv:LV),Sg.names[i]? =some (x,b)→la'[i]? =some l→ρ'[i]? =some lv→JT env hid ow h' x b l lv)
  (hlad:∀(i j:Nat)(l:Addr)(k k':BE)(ds es:List D),ρ'[i]? =some (.own k ds)→ρ'[j]? =some (.own k' es)→la'[i]? =some l→la'[j]? =some l→i=j):
  AV AA Sg env hid he ow la' h' ρ' where
 base:=S.base
 keep:= λa o e=>(hs.2 a (λq=>by rw[q]at e;rw[(S.owr b hb).1]at e;cases e)).trans (S.keep a o e)
 hlt:= λa q=>let ⟨k,o,e⟩:=S.hlt a q;⟨k,o,(hs.2 a (λp=>k (p▸hb))).trans e⟩
 owr:= λa ha=>⟨(S.owr a ha).1,by
  by_cases q:a=b
  ·subst q;exact hex
  ·obtain⟨_,o,e⟩:=S.owr a ha;exact⟨o,(hs.2 a q).trans e⟩⟩
 loc:=S.loc
 ns:=hns
 cel:=hcel
 inj:=S.inj
 sto:=S.sto
 len:=hlen.trans S.len
 lal:=hlal.trans S.lal
 slot:=hslot
 lad:=hlad
theorem JT.map{env env':Env}{hid hid':Addr→Prop}{ow ow':List Addr}{h h':Heap}{x:Str}{b:Bool}{l:Addr}{lv:LV}(hva:∀v,EG env h x b v→EG env' h' x b v)(hv:∀a o,AL h (AY hid ow) a o→AL h' (AY hid' ow') a o)
  (ho:l∈ow→l≠env.locals→l∈ow'∧l≠env'.locals∧∀o,h.get? l=some o→(∀c,o.data≠.cell c)→h'.get? l=some o)(H:JT env hid ow h x b l lv):JT env' hid' ow' h' x b l lv:=by
 cases lv with
 |unset=>trivial
 |d dd=>exact let ⟨v,a,e⟩:=H;⟨v,hva v a,e.mono hv⟩
 |own kk ds=>
  cases H with
  |mk v o a m ne e q=>exact let ⟨p1,p2,p3⟩:=ho m ne;⟨v,o,hva v a,p1,p2,p3 o e λc=>q.nocell c,q.mono hv⟩
theorem EG.at{env:Env}{h h':Heap}{x:Str}{b:Bool}{v:Value}(kl:∀o,h.get? env.locals=some o→h'.get? env.locals=some o)(kc:∀c,env.cells.lookup x=some c→∀o,h.get? c=some o→h'.get? c=some o)(H:EG env h x b v):EG env h' x b v:=by
 cases b with
 |true=>exact let ⟨m,n,e⟩:=H;⟨m,n.at' kl,e⟩
 |false=>exact let ⟨c,e,o,e1,e2⟩:=H;⟨c,e,o,kc c e o e1,e2⟩
theorem fC{h h':Heap}{hid:Addr→Prop}{ow:List Addr}{b:Addr}(hb:b∈ow)(hs:Heap.SameBut b h h'):∀a o,AL h (AY hid ow) a o→AL h' (AY hid ow) a o:=
 λa o e=>⟨(hs.2 a (λq=>e.2 (.inr (q▸hb)))).trans e.1,e.2⟩
theorem dS{h:Heap}{a c:Addr}{m:Str→Option Value}{v:Option Value}(x:h.Ns a m)(y:h.IsCell c v):a≠c:=by
 intro q;obtain⟨o,es,ep,e,d,_⟩:=x;obtain⟨o',e',d'⟩:=y;have r:=Option.some.inj ((q▸e').symm.trans e);rw[r]at d';exact nomatch d.symm.trans d'
theorem qN{Sg:AP}(hn:(Sg.names.map (·.1)).Nodup){i j:Nat}{x y:Str}{a b:Bool}(h1:Sg.names[i]? =some (x,a))(h2:Sg.names[j]? =some (y,b))(h:i≠j):x≠y:=by
 intro e;subst e;have l1:=(List.getElem?_eq_some_iff.mp h1);have l2:=(List.getElem?_eq_some_iff.mp h2);obtain⟨p1,q1⟩:=l1;obtain⟨p2,q2⟩:=l2;have e1:(Sg.names.map (·.1))[i]'(by simpa using p1)=(Sg.names.map (·.1))[j]'(by simpa using p2):=by simp[q1,q2]
 exact h ((List.getElem_inj hn).mp e1)
section
variable{prog:Program}{w:World}{AA:Heap}{n:Nat}{Sg:AP}{mg mb:Str→Option Value}
theorem H'{α:Type}{l:List α}{i j:Nat}{a b:α}{P:Prop}(e:(l.set i a)[j]? =some b)(x:j=i→a=b→P)(y:j≠i→l[j]? =some b→P):P:=by
 by_cases q:i=j
 ·subst q;have:i<l.length:=by have:=(List.getElem?_eq_some_iff.mp e).1;rwa [List.length_set]at this
  rw[List.getElem?_set_self this]at e;exact x rfl (Option.some.inj e)
 ·rw[List.getElem?_set_ne q]at e;exact y (Ne.symm q) e
theorem AV.put1{env:Env}{hid:Addr→Prop}{he:Heap}{ow la la':List Addr}{h h':Heap}{ρ:List LV}(S:AV AA Sg env hid he ow la h ρ){i:Nat}{x:Str}{b:Bool}(hn:Sg.names[i]? =some (x,b)){c:Addr}(hc:c∈ow)(hs:Heap.SameBut c h h')(hex:∃o,h'.get? c=some o)(hns:∃m,h'.Ns env.locals m)(hcel:∀y c',env.cells.lookup y=some c'→∃v,h'.IsCell c' v)
  (hpl:∀l o,h.get? l=some o→l≠env.locals→(∀c,o.data≠.cell c)→h'.get? l=some o)(hoth:∀j y b' u,j≠i→Sg.names[j]? =some (y,b')→EG env h y b' u→EG env h' y b' u)
  {lv:LV}{l:Addr}(hsl:JT env hid ow h' x b l lv)(hla:la'.length=la.length)(hoth':∀j,j≠i→la'[j]? =la[j]?)(hli:la'[i]? =some l)(hown:∀kk ds,lv=.own kk ds→∀j k' es,j≠i→ρ[j]? =some (.own k' es)→la[j]? ≠some l):AV AA Sg env hid he ow la' h' (ρ.set i lv):=
 S.move hc hs hex hns hcel List.length_set hla (λj y b' l' lv' a1 a2 a3=>H' a3
   (λq e=>by subst q e;cases(hn.symm.trans a1);exact Option.some.inj (hli.symm.trans a2)▸hsl)
   λq a3=>(S.slot j y b' l' lv' a1 (hoth' j q▸a2) a3).map (λu=>hoth j y b' u q a1) (fC hc hs) λm ne=>⟨m,ne,λo e n2=>hpl l' o e ne n2⟩)
  λj k l' kj kk ds es a1 a2 a3 a4=>H' a1
   (λq e=>H' a2 (λq' V=>q.trans q'.symm) λq' b2=>by subst q;exact absurd ((hoth' k q')▸a4) (Option.some.inj (hli.symm.trans a3)▸hown _ _ e k kk es q' b2))
   λq b1=>H' a2 (λq' e=>by subst q';exact absurd ((hoth' j q)▸a3) (Option.some.inj (hli.symm.trans a4)▸hown _ _ e j kj ds q b1))
    λq' b2=>S.lad j k l' kj kk ds es b1 b2 (hoth' j q▸a3) (hoth' k q'▸a4)
theorem dR{h:Heap}{a:Addr}{m m':Str→Option Value}(x:h.Ns a m)(y:h.Ns a m'):m=m':=by
 obtain⟨o,es,ep,e,d,_,f⟩:=x;obtain⟨o',es',ep',e',d',_,f'⟩:=y;have:=Option.some.inj (e.symm.trans e');subst this;have:=(d.symm.trans d');injection this with h1
 subst h1;exact funext λz=>(f z).symm.trans (f' z)
theorem tQ{env:Env}{A:Around}{s:Shared}{hid:Addr→Prop}{he:Heap}{ow la:List Addr}{ρ:List LV}{E:Value→Shared→Prop}{Q:Unit→Shared→Prop}(H:CN Sg env)(S:AV AA Sg env hid he ow la s.heap ρ){i:Nat}{x:Str}{b:Bool}(hn:Sg.names[i]? =some (x,b))(hst:b=true∨x∈Sg.stor)(v:Value)
  (h:∀h' tk,(∃c,c∈ow∧Heap.SameBut c s.heap h')→A3 he h'→(∀a o,AL s.heap (AY hid ow) a o→AL h' (AY hid ow) a o)→(∀l o,s.heap.get? l=some o→l≠env.locals→(∀c,o.data≠.cell c)→h'.get? l=some o)→
   EG env h' x b v→(∀lv l,JT env hid ow h' x b l lv→∀la',la'.length=la.length→(∀j,j≠i→la'[j]? =la[j]?)→la'[i]? =some l→(∀kk ds,lv=.own kk ds→∀j k' es,j≠i→ρ[j]? =some (.own k' es)→la[j]? ≠some l)→AV AA Sg env hid he ow la' h' (ρ.set i lv))→
   Q () {s with heap:=h',toks:=tk}):
  wpAny (model prog w) A (storeName env x v) Q E s:=by
 have gr:∀{c h'},c∈ow→Heap.SameBut c s.heap h'→A3 he h':= λhc hs a o e=>(hs.2 a λq=>BO (S.owr _ hc).1 (q▸e)).trans (S.keep a o e);obtain⟨m,hm⟩:=S.ns;cases b with
 |true=>
  refine wpAny_storeName_local (H.loc i x hn) hm (λh' hn' hs=>?_) (by rw[H.kind];rfl);have cl:∀{c v},s.heap.IsCell c v→h'.IsCell c v:= λhv=>hv.sameBut hs (Ne.symm (dS hm hv));have pl:∀l o,s.heap.get? l=some o→l≠env.locals→(∀c,o.data≠.cell c)→h'.get? l=some o:= λl o e n1 V=>(hs.2 l n1).trans e;have va:EG env h' x true v:=⟨_,hn',if_pos rfl⟩;refine h h' (s.toks+1) ⟨_,S.loc,hs⟩ (gr S.loc hs) (fC S.loc hs) pl va λlv l hsl la'=>S.put1 hn S.loc hs (let ⟨o,_,_,e,_⟩:=hn';⟨o,e⟩) ⟨_,hn'⟩ (λy c e=>let ⟨v,hv⟩:=S.cel y c e;⟨v,cl hv⟩) pl (λj y b' u q hj hu=>?_) hsl;cases b' with
  |true=>exact let ⟨m',hm',e⟩:=hu;⟨_,hn',(if_neg (qN H.nod hj hn q)).trans (dR hm' hm▸e)⟩
  |false=>exact let ⟨c,e,hc⟩:=hu;⟨c,e,cl hc⟩
 |false=>
  obtain⟨c,e,hc⟩:=S.sto x (hst.resolve_left nofun);obtain⟨Ta,cC⟩:=S.cel x c e;refine wpAny_storeName_cell H.kind (H.sto x (hst.resolve_left nofun)) e cC λh' hv hs=>?_;have ns:∀{m},s.heap.Ns env.locals m→h'.Ns env.locals m:= λhm=>hm.sameBut hs (dS hm cC);have pl:∀l o,s.heap.get? l=some o→l≠env.locals→(∀c,o.data≠.cell c)→h'.get? l=some o:= λl o e' V n2=>(hs.2 l (λq=>by
   obtain⟨oc,e1,e2⟩:=cC;exact n2 _ (Option.some.inj ((q▸e').symm.trans e1)▸e2))).trans e'
  refine h h' s.toks ⟨c,hc,hs⟩ (gr hc hs) (fC hc hs) pl ⟨c,e,hv⟩ λlv l hsl la'=>S.put1 hn hc hs (let ⟨o,e,_⟩:=hv;⟨o,e⟩) ⟨m,ns hm⟩ (λy c' e'=>?_) pl (λj y b' u q hj hu=>?_) hsl
  ·by_cases q:c'=c
   ·exact⟨_,q▸hv⟩
   ·exact let ⟨v',hv'⟩:=S.cel y c' e';⟨v',hv'.sameBut hs q⟩
  ·cases b' with
   |true=>exact let ⟨m',hm',e'⟩:=hu;⟨m',ns hm',e'⟩
   |false=>exact let ⟨c',e',hc'⟩:=hu;⟨c',e',hc'.sameBut hs λq'=>qN H.nod hj hn q (S.inj y x c' e' (q'▸e))⟩
theorem QF{env:Env}{A:Around}{s:Shared}{hid:Addr→Prop}{he:Heap}{ow la:List Addr}{ρ:List LV}{E:Value→Shared→Prop}{Q:Unit→Shared→Prop}(H:CN Sg env)(S:AV AA Sg env hid he ow la s.heap ρ){i:Nat}{x:Str}{b:Bool}(hn:Sg.names[i]? =some (x,b))(hst:b=true∨x∈Sg.stor){v:Value}{d:D}(hd:AQ (AL s.heap (AY hid ow)) v d)
  (h:∀s',Mv ow ow s s'→(∀a o,AL s.heap (AY hid ow) a o→AL s'.heap (AY hid ow) a o)→AV AA Sg env hid he ow la s'.heap (ρ.set i (.d d))→Q () s'):
  wpAny (model prog w) A (storeName env x v) Q E s:=by
 refine tQ H S hn hst v λh' tk hc V hvis V hva k=>?_;have hi:i<la.length:=S.lal▸(List.getElem?_eq_some_iff.mp hn).1;exact h {s with heap:=h',toks:=tk} ⟨⟨h',tk,rfl⟩,λb o hb e=>hc.elim λc q=>(q.2.2 b (λr=>hb (r▸q.1))).trans e,λV h=>.inl h⟩ hvis
  (k (.d d) la[i] ⟨v,hva,hd.mono hvis⟩ la rfl (λV V=>rfl) (List.getElem?_eq_getElem hi) nofun)
theorem A2:PS prog w AA n Sg [] (λρ=>some (.next,ρ)):=by
 intro env A s ρ ρ' out hid he ow la E H hA S hf;cases hf;exact wpAny_execs_nil ⟨ow,la,S,trivial,Mv.refl _ _⟩
noncomputable def AG(F G:List LV→Option (AC×List LV))(ρ:List LV):Option (AC×List LV):=match F ρ with
 |some (.next,ρ')=>G ρ'
 |r=>r
theorem Mp{F G:List LV→Option (AC×List LV)}{ρ ρ':List LV}{out:AC}{P:Prop}(h:AG F G ρ=some (out,ρ'))(k:∀CE,F ρ=some (.next,CE)→G CE=some (out,ρ')→P)(l:out≠.next→F ρ=some (out,ρ')→P):P:=by
 unfold AG at h;cases e:F ρ with
 |none=>rw[e]at h;exact AI h
 |some p=>
  rw[e]at h;obtain⟨o,r⟩:=p;cases o with
  |next=>exact k r e h
  |brk=>exact l (by rw[←(GW h).1];exact nofun) (e.trans h)
  |cont=>exact l (by rw[←(GW h).1];exact nofun) (e.trans h)
  |ret d=>exact l (by rw[←(GW h).1];exact nofun) (e.trans h)
theorem dL{out:AC}{h:Heap}{hid:Addr→Prop}{ow:List Addr}(o:JB .next out h hid ow):out=.next:=by cases out<;>first|rfl|exact o.elim
theorem mH{out:AC}{h:Heap}{hid:Addr→Prop}{ow:List Addr}(o:JB .cont out h hid ow):out=.cont:=by cases out<;>first|rfl|exact o.elim
theorem lW{out:AC}{h:Heap}{hid:Addr→Prop}{ow:List Addr}(o:JB .brk out h hid ow):out=.brk:=by cases out<;>first|rfl|exact o.elim
theorem rT{out:AC}{h:Heap}{hid:Addr→Prop}{ow:List Addr}{v:Value}(o:JB (.ret v) out h hid ow):∃d,out=.ret d:=by cases out<;>first|exact⟨_,rfl⟩|exact o.elim
theorem AH{st:Stmt}{rest:List Stmt}{F G:List LV→Option (AC×List LV)}(h:XS prog w AA n Sg st F)(h':PS prog w AA n Sg rest G):PS prog w AA n Sg (st::rest) (AG F G):=by
 intro env A s ρ ρ' out hid he ow la E H hA S hf;refine wpAny_execs_cons (Mp hf (λCE h1 hf=>?_) λhne hf=>?_)
 ·exact BD (h env A s ρ CE .next hid he ow la E H hA S h1) λfl AB x=>x.casesOn λMM US BS d3 RT=>dY d3▸BD (h' env A AB CE ρ' out hid he MM US E H hA BS hf) λfl AF y=>y.pre RT
 ·refine BD (h env A s ρ ρ' out hid he ow la E H hA S hf) λfl AB x=>?_;cases fl with
  |next=>exact x.casesOn λV V V d3 V=>absurd (dL d3) hne
  |brk=>exact x
  |cont=>exact x
  |ret v=>exact x
end
noncomputable abbrev PF:=List LV→Option (AC×List LV)
noncomputable abbrev DF:=List D→Option D
noncomputable abbrev EF:=List LV→Option D
noncomputable abbrev TF:=List LV→Option Bool
noncomputable abbrev GF:=List D→List D→List D→Option (List D)
noncomputable abbrev KF:=List D→D→Option D
theorem AV.adopt{AA:Heap}{Sg:AP}{env:Env}{hid:Addr→Prop}{he:Heap}{ow la:List Addr}{h h':Heap}{ρ:List LV}(S:AV AA Sg env hid he ow la h ρ)(k:A3 h h'){a:Addr}(ha:h.get? a=none)(ha':∃o,h'.get? a=some o):AV AA Sg env hid he (a::ow) la h' ρ:=
 have S':=S.grows k;have nh:∀{b o},h.get? b=some o→b≠a:= λe q=>BO ha (q▸e)
 {S' with
  hlt:= λb q=>⟨λm=>(List.mem_cons.mp m).elim (λr=>(S.hlt b q).2.elim λV e=>nh e r) (S.hlt b q).1,(S'.hlt b q).2⟩
  owr:=D4 ⟨FE S.keep ha,ha'⟩ S'.owr
  loc:=List.mem_cons_of_mem _ S.loc
  sto:= λx hx=>(S.sto x hx).elim λc q=>⟨c,q.1,List.mem_cons_of_mem _ q.2⟩
  slot:= λi x b l lv a1 a2 a3=>(S.slot i x b l lv a1 a2 a3).map (λV e=>e.grows k) (λb o e=>⟨k _ _ e.1,λq=>q.elim (λq=>e.2 (.inl q)) λq=>(List.mem_cons.mp q).elim (nh e.1) λq=>e.2 (.inr q)⟩) λm ne=>⟨.tail _ m,ne,λo e V=>k _ _ e⟩}
noncomputable def UG:BE→List D→D
 |.list _,ds=>.lst ds
 |.hdr _ C,ds=>.obj C ["_headers"] [.lst ds]
 |.ins _ C names,ds=>.obj C names ds
 |.tab _ _ _,ds=>ds.headD .none
theorem DC.frz{g g':Gm}(hg:∀a o,g a o→g' a o){k:BE}{v:Value}{l:Addr}{o:Obj}{ds:List D}(H:DC g k v l o ds)(hl:g' l o):AQ g' v (UG k ds):=
 DC.casesOn (motive:= λk v l o ds V=>g' l o→AQ g' v (UG k ds)) H (λV a q=>.lst q (a.mono hg)) (λ{_ _ _ _ _ _ _ _ _ e} V a b c d f q=>.obj (es:=[e]) (vs:=[e.val]) (hg _ _ a) (hg _ _ b) rfl ⟨c,trivial⟩ (.cons (d▸ .lst q (f.mono hg)) .nil)) (λV a b c d q=>.obj (hg _ _ a) q b c (d.mono hg)) (λV V V V d V=>d.mono hg) hl
theorem AV.freeze{AA:Heap}{Sg:AP}{env:Env}{hid:Addr→Prop}{he:Heap}{ow la:List Addr}{h:Heap}{ρ:List LV}(S:AV AA Sg env hid he ow la h ρ){i:Nat}{kd:BE}{ds:List D}(hi:ρ[i]? =some (.own kd ds)):
  ∃ow',AV AA Sg env hid he ow' la h (ρ.set i (.d (UG kd ds)))∧(∀b∈ow',b∈ow):=by
 have hin:i<Sg.names.length:=S.len▸(List.getElem?_eq_some_iff.mp hi).1;obtain⟨l,hl,v0,o0,hva,hlo,hlL,hol,hown⟩:=IA S (List.getElem?_eq_getElem hin) hi;have mf:∀a,a∈ow.filter (· !=l)→a∈ow:= λa m=>(List.mem_filter.mp m).1;have memf:∀a,a∈ow→a≠l→a∈ow.filter (· !=l):= λa ha q=>List.mem_filter.mpr ⟨ha,bne_iff_ne.mpr q⟩;have hv:∀a o,AL h (AY hid ow) a o→AL h (AY hid (ow.filter (· !=l))) a o:=GN λa q=>q.imp_right (mf a);exact⟨ow.filter (· !=l),{S with
  hlt:= λb q=>⟨λm=>(S.hlt b q).1 (mf b m),(S.hlt b q).2⟩
  owr:= λa ha=>S.owr a (mf a ha)
  loc:=memf _ S.loc (Ne.symm hlL)
  sto:= λy hy=>(S.sto y hy).elim λc q=>⟨c,q.1,memf _ q.2 λr=>(S.cel y c q.1).elim λv t=>t.elim λoc e=>hown.nocell _ (Option.some.inj ((r▸e.1).symm.trans hol)▸e.2)⟩
  len:=List.length_set.trans S.len
  slot:= λj y b' l' lv a1 a2 a3=>H' a3
   (λq e=>by
    subst q e;have r:(y,b')=Sg.names.get ⟨j,hin⟩:=Option.some.inj (a1.symm.trans (List.getElem?_eq_getElem hin));rw[←r]at hva;exact⟨_,hva,hown.frz hv ⟨hol,λq=>q.elim (λq=>(S.hlt l q).1 hlo) λq=>bne_iff_ne.mp (List.mem_filter.mp q).2 rfl⟩⟩)
   λq a3=>by
    cases lv with
    |unset=>trivial
    |d dd=>exact(S.slot j y b' l' _ a1 a2 a3).elim λv e=>⟨v,e.1,e.2.mono hv⟩
    |own kk es=>exact(S.slot j y b' l' _ a1 a2 a3).casesOn λv o e1 e2 e3 e4 e5=>⟨v,o,e1,memf _ e2 (λq'=>q (S.lad j i _ kk kd es ds a3 hi (q'▸a2) hl)),e3,e4,e5.mono hv⟩
  lad:= λj k l' kj kk ds' es a1 a2=>H' a1 (λV q=>nomatch q) λV a1=>H' a2 (λV q=>nomatch q) λV a2=>S.lad j k l' kj kk ds' es a1 a2},mf⟩
section
variable{prog:Program}{w:World}{AA:Heap}{n:Nat}{Sg:AP}{mg mb:Str→Option Value}
inductive YT(hid:Addr→Prop)(ow:List Addr)(ds:List D)(s:Shared)(v:Value)(s':Shared):Prop
 |mk (l:Addr) (vs:List Value):v=.ref l→s.heap.get? l=none→s'.heap.PlainList l (List.toArray vs)→AJ (AL s'.heap (AY hid (l::ow))) vs ds→Kp s s'→YT hid ow ds s v s'
def PN(prog:Program)(w:World)(AA:Heap)(n:Nat)(Sg:AP)(e:Expr)(f:List LV→Option (List D)):Prop:=
 ∀(env:Env)(A:Around)(s:Shared)(ρ:List LV)(ds:List D)(hid:Addr→Prop)(he:Heap)(ow la:List Addr)(E:Value→Shared→Prop),
  CN Sg env→B9 n A→AV AA Sg env hid he ow la s.heap ρ→f ρ=some ds→
  wpAny (model prog w) A (eval e env) (YT hid ow ds s) E s
theorem EK{e:Expr}{f:List LV→Option (List D)}(h:PN prog w AA n Sg e f):PE prog w AA n Sg e (λρ=>(f ρ).map .lst):=
 λenv A s ρ d hid he ow la E H hA S hf=>FV hf λds hds=>BD (h env A s ρ ds hid he ow la E H hA S hds) λv s' x=>x.casesOn λl vs e1 e2 e3 e4 e5=>⟨e1▸e3.elim λk e3=>.lst ⟨e3,S.fresh e2⟩ (e4.mono (GN λa q=>q.imp_right (.tail _))),e5⟩
theorem J'{es:List Expr}{pos:Pos}{f:List LV→Option (List D)}(h:FM prog w AA n Sg es f):PN prog w AA n Sg (.List es pos) (λρ=>(f ρ).bind λl=>if BG l then some l else none):=
 λenv A s ρ d hid he ow la E H hA S hf=>AK hf λl hl hf=>CV hf λhsm=>wpAny_List (GL.wp_g (h env A s ρ l hid he ow la pos E H hA S hl) λvs AB dv k=>⟨dv.length▸eQ hsm,AB.heap.objs.size,vs,rfl,FE k.grows (DT _),⟨0,Heap.get?_push_size _ rfl⟩,
  dv.mono λa o e=>⟨A3.push _ _ _ _ e.1,λq=>q.elim (λq=>e.2 (.inl q)) λq=>(List.mem_cons.mp q).elim (λq=>BO (DT _) (q▸e.1)) λq=>e.2 (.inr q)⟩,k.trans (Kp.push _ _)⟩)
theorem BZ(i:Nat){x:Str}{b:Bool}{p pos:Pos}{e:Expr}{f:EF}(hn:Sg.names[i]? =some (x,b))(hst:b=true∨x∈Sg.stor)(h:PE prog w AA n Sg e f)
  (hs:∀env,CN Sg env→swapsWith e (some (.Name x p)) pos.line env=pure false):XS prog w AA n Sg (.Assign [.Name x p] e pos) (λρ=>(f ρ).map λd=>(.next,ρ.set i (.d d))):=
 λenv A s ρ ρ' out hid he ow la E H hA S hf=>KT hf λd hd=>wpAny_Assign_Name (GD.wp_g (h env A s ρ d hid he ow la E H hA S hd) λv AB dv k=>QF H (S.grows k.grows) hn hst dv λAF m V B4=>⟨ow,la,B4,trivial,(Mv.of_kp k).trans m⟩) (hs env H)
theorem SQ{env:Env}{A:Around}{s:Shared}{hid:Addr→Prop}{he:Heap}{ow la:List Addr}{ρ:List LV}{E:Value→Shared→Prop}{Q:Unit→Shared→Prop}(H:CN Sg env)(S:AV AA Sg env hid he ow la s.heap ρ){i:Nat}{x:Str}{b:Bool}(hn:Sg.names[i]? =some (x,b))(hst:b=true∨x∈Sg.stor){l:Addr}{v:Value}{o:Obj}{kd:BE}{ds:List D}(hl:l∈ow)(hlL:l≠env.locals)(hol:s.heap.get? l=some o)(hown:DC (AL s.heap (AY hid ow)) kd v l o ds)
  (hnew:∀j k' es,j≠i→ρ[j]? =some (.own k' es)→la[j]? ≠some l)
  (h:∀s',Mv ow ow s s'→(∀a o,AL s.heap (AY hid ow) a o→AL s'.heap (AY hid ow) a o)→(∀l o,s.heap.get? l=some o→l≠env.locals→(∀c,o.data≠.cell c)→s'.heap.get? l=some o)→AV AA Sg env hid he ow (la.set i l) s'.heap (ρ.set i (.own kd ds))→Q () s'):
  wpAny (model prog w) A (storeName env x v) Q E s:=by
 refine tQ H S hn hst _ λh' tk hc V hvis hpl' hva k=>?_;have hi:i<la.length:=S.lal▸(List.getElem?_eq_some_iff.mp hn).1;exact h {s with heap:=h',toks:=tk} ⟨⟨h',tk,rfl⟩,λb o hb e=>hc.elim λc q=>(q.2.2 b (λr=>hb (r▸q.1))).trans e,λV h=>.inl h⟩ hvis hpl'
  (k (.own kd ds) l ⟨v,o,hva,hl,hlL,hpl' _ _ hol hlL (λc=>hown.nocell c),hown.mono hvis⟩ (la.set i l) List.length_set (λj q=>List.getElem?_set_ne (Ne.symm q)) (List.getElem?_set_self hi) λV V V j k' es q he=>hnew j k' es q he)
theorem q9{env:Env}{hid:Addr→Prop}{he:Heap}{ow la:List Addr}{h:Heap}{ρ:List LV}(S:AV AA Sg env hid he ow la h ρ){j:Nat}{kk:BE}{es:List D}{l:Addr}(hj:ρ[j]? =some (.own kk es))(hl:la[j]? =some l):l∈ow:=
 (S.slot j _ _ l _ (List.getElem?_eq_getElem (S.len▸(List.getElem?_eq_some_iff.mp hj).1)) hl hj).casesOn λV V V r V V V=>r
theorem AV.nloc{env:Env}{hid:Addr→Prop}{he:Heap}{ow la:List Addr}{h:Heap}{ρ:List LV}(S:AV AA Sg env hid he ow la h ρ){l:Addr}(e:h.get? l=none):l≠env.locals:= λq=>(S.owr _ S.loc).2.elim λV r=>BO e (q▸r)
theorem AV.now{env:Env}{hid:Addr→Prop}{he:Heap}{ow la:List Addr}{h:Heap}{ρ:List LV}(S:AV AA Sg env hid he ow la h ρ){l:Addr}(e:h.get? l=none){j:Nat}{k:BE}{es:List D}(hj:ρ[j]? =some (.own k es)):la[j]? ≠some l:= λhl=>(S.owr l (q9 S hj hl)).2.elim λV r=>BO e r
theorem Mv.new{ow:List Addr}{l:Addr}{s s':Shared}(k:Kp s s')(e:s.heap.get? l=none):Mv ow (l::ow) s s':=⟨.of_kp k,λb o V e=>k.grows b o e,D4 (.inr e) λV h=>.inl h⟩
theorem MX(i:Nat){x:Str}{b:Bool}{p pos:Pos}{e:Expr}{f:List LV→Option (List D)}(hn:Sg.names[i]? =some (x,b))(hst:b=true∨x∈Sg.stor)(h:PN prog w AA n Sg e f)
  (hs:∀env,CN Sg env→swapsWith e (some (.Name x p)) pos.line env=pure false):XS prog w AA n Sg (.Assign [.Name x p] e pos) (λρ=>(f ρ).map λds=>(.next,ρ.set i (.own (.list none) ds))):=
 λenv A s ρ ρ' out hid he ow la E H hA S hf=>KT hf λds hd=>wpAny_Assign_Name (BD (h env A s ρ ds hid he ow la E H hA S hd) λv AB x=>x.casesOn λl vs e1 e2 e3 e4 k=>e3.elim λkk e3'=>by
  rw[e1];exact SQ H (S.adopt k.grows e2 ⟨_,e3'⟩) hn hst (.head _) (S.nloc e2) e3' (.list (.inl rfl) e4) (λj V es q he=>S.now e2 he) λAF m V V B4=>⟨l::ow,_,B4,trivial,(Mv.new k e2).trans m⟩) (hs env H)
noncomputable def NG{β:Type}(o:Option LV)(f:BE→List D→Option β):Option β:=o.bind λv=>LV.casesOn v none (λV=>none) f
theorem RI{β:Type}{o:Option LV}{f:BE→List D→Option β}{b:β}{P:Prop}(h:NG o f=some b)(k:∀k ds,o=some (.own k ds)→f k ds=some b→P):P:=
 AK h λv e=>LV.casesOn (motive:= λv=>o=some v→LV.casesOn v none (λV=>none) f=some b→P) v (λV=>AI) (λV V=>AI) (λkd ds e h=>k kd ds e h) e
def D9{β:Type}(o:Option LV)(f:Option Addr→List D→Option β):Option β:=NG o λk ds=>BE.casesOn k (λp=>f p ds) (λV V=>none) (λV V V=>none) (λV V V=>none)
theorem MC{β:Type}{o:Option LV}{f:Option Addr→List D→Option β}{b:β}{P:Prop}(h:D9 o f=some b)(k:∀p ds,o=some (.own (.list p) ds)→f p ds=some b→P):P:=
 RI h λkd ds e=>BE.casesOn (motive:= λkd=>o=some (.own kd ds)→BE.casesOn kd (λp=>f p ds) (λV V=>none) (λV V V=>none) (λV V V=>none)=some b→P) kd (λp e h=>k p ds e h) (λV V V=>AI) (λV V V V=>AI) (λV V V V=>AI) e
def GE{β:Type}(o:Option LV)(f:Option Addr→Addr→List D→Option β):Option β:=NG o λk ds=>BE.casesOn k (λV=>none) (λp C=>f p C ds) (λV V V=>none) (λV V V=>none)
theorem NE{β:Type}{o:Option LV}{f:Option Addr→Addr→List D→Option β}{b:β}{P:Prop}(h:GE o f=some b)(k:∀p C ds,o=some (.own (.hdr p C) ds)→f p C ds=some b→P):P:=
 RI h λkd ds e=>BE.casesOn (motive:= λkd=>o=some (.own kd ds)→BE.casesOn kd (λV=>none) (λp C=>f p C ds) (λV V V=>none) (λV V V=>none)=some b→P) kd (λV V=>AI) (λp C e h=>k p C ds e h) (λV V V V=>AI) (λV V V V=>AI) e
def J2{β:Type}(o:Option LV)(f:Option Addr→Addr→List Str→List D→Option β):Option β:=NG o λk ds=>BE.casesOn k (λV=>none) (λV V=>none) (λp C ns=>f p C ns ds) (λV V V=>none)
theorem oE{β:Type}{o:Option LV}{f:Option Addr→Addr→List Str→List D→Option β}{b:β}{P:Prop}(h:J2 o f=some b)(k:∀p C ns ds,o=some (.own (.ins p C ns) ds)→f p C ns ds=some b→P):P:=
 RI h λkd ds e=>BE.casesOn (motive:= λkd=>o=some (.own kd ds)→BE.casesOn kd (λV=>none) (λV V=>none) (λp C ns=>f p C ns ds) (λV V V=>none)=some b→P) kd (λV V=>AI) (λV V V=>AI) (λp C ns e h=>k p C ns ds e h) (λV V V V=>AI) e
def NH{β:Type}(o:Option LV)(f:Option Addr→Addr→Str→List D→Option β):Option β:=NG o λk ds=>BE.casesOn k (λV=>none) (λV V=>none) (λV V V=>none) (λp c q=>f p c q ds)
theorem bV{β:Type}{o:Option LV}{f:Option Addr→Addr→Str→List D→Option β}{b:β}{P:Prop}(h:NH o f=some b)(k:∀p c q ds,o=some (.own (.tab p c q) ds)→f p c q ds=some b→P):P:=
 RI h λkd ds e=>BE.casesOn (motive:= λkd=>o=some (.own kd ds)→BE.casesOn kd (λV=>none) (λV V=>none) (λV V V=>none) (λp c q=>f p c q ds)=some b→P) kd (λV V=>AI) (λV V V=>AI) (λV V V V=>AI) (λp c q e h=>k p c q ds e h) e
def NI(i:Nat)(F:PF)(ρ:List LV):Option (AC×List LV):=NG ρ[i]? λk ds=>F (ρ.set i (.d (UG k ds)))
theorem Mv.sub{ow ow' MM:List Addr}{s s':Shared}(m:Mv ow' MM s s')(h:∀b∈ow',b∈ow):Mv ow MM s s':=⟨m.sh,λb o hb e=>m.kp b o (λq=>hb (h b q)) e,λb hb=>(m.nw b hb).imp_left (h b)⟩
theorem FN.sub{env:Env}{hid:Addr→Prop}{he:Heap}{ow ow':List Addr}{s s':Shared}{ρ':List LV}{out:AC}{fl:Flow}(x:FN AA Sg env hid he ow' s ρ' out fl s')(h:∀b∈ow',b∈ow):FN AA Sg env hid he ow s ρ' out fl s':=x.casesOn λo l S r k=>⟨o,l,S,r,k.sub h⟩
theorem VE(i:Nat){b:List Stmt}{F:PF}(h:PS prog w AA n Sg b F):PS prog w AA n Sg b (NI i F):=
 λenv A s ρ ρ' out hid he ow la E H hA S hf=>RI hf λk ds hi hf=>(S.freeze hi).elim λow' q=>BD (h env A s _ ρ' out hid he ow' la E H hA q.1 hf) λV V x=>x.sub q.2
theorem C5{t:Expr}{b o:List Stmt}{pos:Pos}{ft:TF}{F G:PF}(ht:PT prog w AA n Sg t ft)(hb:PS prog w AA n Sg b F)(ho:PS prog w AA n Sg o G):
  XS prog w AA n Sg (.If t b o pos) (λρ=>(ft ρ).bind λc=>if c then F ρ else G ρ):=
 λenv A s ρ ρ' out hid he ow la E H hA S hf=>AK hf λc hc hf=>wpAny_If (ID (ht env A s ρ c hid he ow la E H hA S hc) λAB k=>by
  cases c with
  |true=>exact BD (hb env A AB ρ ρ' out hid he ow la E H hA (S.grows k.grows) hf) λV V x=>x.pre (.of_kp k)
  |false=>exact BD (ho env A AB ρ ρ' out hid he ow la E H hA (S.grows k.grows) hf) λV V x=>x.pre (.of_kp k))
theorem DZ{e:Expr}{pos:Pos}{f:EF}(h:PE prog w AA n Sg e f):XS prog w AA n Sg (.Return (some e) pos) (λρ=>(f ρ).map λd=>(.ret d,ρ)):=
 λenv A s ρ ρ' out hid he ow la E H hA S hf=>KT hf λd hd=>wpAny_Return_some (GD.wp_g (h env A s ρ d hid he ow la E H hA S hd) λv AB dv k=>⟨ow,la,S.grows k.grows,.inl dv,Mv.of_kp k⟩)
theorem VT(i:Nat){x:Str}{b:Bool}{p pos:Pos}(hn:Sg.names[i]? =some (x,b)):XS prog w AA n Sg (.Return (some (.Name x p)) pos) (λρ=>D9 ρ[i]? λV ds=>some (.ret (.lst ds),ρ)):=
 λenv A s ρ ρ' out hid he ow la E H hA S hf=>MC hf λV ds hv hf=>(I3 S hn hv).casesOn λl V hx hl V vs r1 r2=>LR hf (wpAny_Return_some (FG H hn hx ⟨ow,la,S,.inr ⟨l,vs,ds,hl,rfl,rfl,r1,r2⟩,Mv.refl _ _⟩))
theorem tX{pos:Pos}:XS prog w AA n Sg (.Break pos) (λρ=>some (.brk,ρ)):=by
 intro env A s ρ ρ' out hid he ow la E H hA S hf;cases hf;exact wpAny_Break ⟨ow,la,S,trivial,Mv.refl _ _⟩
end
noncomputable def A4:List LV→List Nat→List D→List LV
 |ρ,i::is,d::ds=>A4 (ρ.set i (.d d)) is ds
 |ρ,_,_=>ρ
theorem Sp(ρ:List LV)(is:List Nat):A4 ρ is []=ρ:=by cases is<;>rfl
theorem Mx{is:List Nat}{ds:List D}{ρ:List LV}{i:Nat}{d:D}(h:is.length=ds.length):A4 ρ (is++[i]) (ds++[d])=(A4 ρ is ds).set i (.d d):=by
 induction is generalizing ds ρ with
 |nil=>rw[List.eq_nil_of_length_eq_zero h.symm];rfl
 |cons i' is ih=>
  cases ds with
  |nil=>exact nomatch h
  |cons d' ds=>exact ih (Nat.succ.inj h)
theorem Mt{is:List Nat}{ds:List D}{ρ:List LV}{i:Nat}{d:D}(h:i∉is):A4 (ρ.set i (.d d)) is ds=(A4 ρ is ds).set i (.d d):=by
 induction is generalizing ds ρ with
 |nil=>rfl
 |cons i' is ih=>
  cases ds with
  |nil=>rfl
  |cons d' ds=>exact(congrArg (A4 · is ds) (List.set_comm _ _ λ(q:i=i')=>h (q▸List.mem_cons_self))).trans (ih λq=>h (.tail _ q))
theorem Mw{is:List Nat}{ds:List D}{ρ:List LV}(h:is.length=ds.length)(hn:is.Nodup):A4 ρ is.reverse ds.reverse=A4 ρ is ds:=by
 induction is generalizing ds ρ with
 |nil=>rw[List.eq_nil_of_length_eq_zero h.symm];rfl
 |cons i is ih=>
  cases ds with
  |nil=>exact nomatch h
  |cons d ds=>
   rw[List.reverse_cons,List.reverse_cons,Mx (by rw[List.length_reverse,List.length_reverse];exact Nat.succ.inj h),ih (Nat.succ.inj h) (List.nodup_cons.mp hn).2];exact(Mt (List.nodup_cons.mp hn).1).symm
inductive F3(Sg:AP):List Expr→List Str→List Nat→Prop where
 |nil:F3 Sg [] [] []
 |cons (i:Nat) {x:Str} {b:Bool} {p:Pos} {es xs is}:Sg.names[i]? =some (x,b)→(b=true∨x∈Sg.stor)→F3 Sg es xs is→F3 Sg (.Name x p::es) (x::xs) (i::is)
theorem F3.each{Sg:AP}{es:List Expr}{xs:List Str}{is:List Nat}(h:F3 Sg es xs is)(env:Env):(assignEach es env).length=es.length∧(assignEach es env).findIdx? (·.1)=none:=by
 induction h with
 |nil=>exact⟨rfl,rfl⟩
 | @cons i x b p es xs is a1 a2 c ih=>
  have e:assignEach (Expr.Name x p::es) env=(false,assign (.Name x p) env)::assignEach es env:=rfl;rw[e];exact⟨congrArg (· +1) ih.1,by rw[List.findIdx?_cons,ih.2];rfl⟩
theorem F3.len{Sg:AP}{es:List Expr}{xs:List Str}{is:List Nat}(h:F3 Sg es xs is):es.length=is.length∧xs.length=is.length:=by
 induction h with
 |nil=>exact⟨rfl,rfl⟩
 |cons i a b c ih=>exact⟨congrArg (· +1) ih.1,congrArg (· +1) ih.2⟩
noncomputable def e9:Expr→Bool
 |.Tuple vs _ _=> !(vs.all (constantsAlone 8))||vs.all (foldedForSure 8)
 |_=>true
theorem Je{α β:Type}{f:α→Option β}{es:List α}{xs:List β}(h:∀(j:Nat)(e:α)(x:β),es[j]? =some e→xs[j]? =some x→f e=some x∨f e=none)(hl:es.length=xs.length)(k:(es.filterMap f).length=es.length):es.filterMap f=xs:=by
 induction es generalizing xs with
 |nil=>exact(List.eq_nil_of_length_eq_zero hl.symm).symm
 |cons e es ih=>
  cases xs with
  |nil=>exact nomatch hl
  |cons x xs=>
   rw[List.filterMap_cons]at k⊢;rcases h 0 e x rfl rfl with q|q
   ·rw[q]at k⊢;exact congrArg (x::·) (ih (λj=>h (j+1)) (Nat.succ.inj hl) (Nat.succ.inj k))
   ·rw[q]at k;exact absurd (k▸List.length_filterMap_le f es) (Nat.not_succ_le_self _)
theorem F3.name{Sg:AP}{es:List Expr}{xs:List Str}{is:List Nat}(T:F3 Sg es xs is):∀(j:Nat)(e:Expr)(x:Str),es[j]? =some e→xs[j]? =some x→∃p,e=.Name x p:=by
 induction T with
 |nil=>exact λV V V h=>nomatch h
 |cons i a b c ih=>
  intro j e x h1 h2;cases j with
  |zero=>exact⟨_,(Option.some.inj h2)▸(Option.some.inj h1).symm⟩
  |succ j=>exact ih j e x h1 h2
theorem sU{Sg:AP}{es:List Expr}{xs:List Str}{is:List Nat}(h:F3 Sg es xs is)(env:Env)(k:Nat)(tp:Pos)(value:Expr)(hv:e9 value=true):
  swappedStores [.Tuple es k tp] value env=pure none∨swappedStores [.Tuple es k tp] value env=pure (some xs):=by
 cases value with
 |Tuple vs kk p=>
  unfold swappedStores;dsimp only;split
  ·exact .inl rfl
  ·split
   ·exact .inl rfl
   ·split
    ·exact .inl rfl
    ·rename_i hne;split
     ·exact .inl rfl
     ·split
      ·rename_i hq;rename_i hf;have hv':(!(vs.all (constantsAlone 8))||vs.all (foldedForSure 8))=true:=hv;rw[hq]at hv';exact absurd hv' hf
      ·refine .inr (congrArg (λl=>(pure (some l):Sem (Option (List Str)))) (Je (λj e x h1 h2=>?_) (h.len.1.trans h.len.2.symm) (bne_eq_false_iff_eq.mp (Bool.or_eq_false_iff.mp (Bool.eq_false_iff.mpr hne)).1)));obtain⟨p,q⟩:=h.name j e x h1 h2;rw[q];exact(Classical.em _).elim (λc=>.inl (if_pos c)) λc=>.inr (if_neg c)
 |_=>exact .inl rfl
section
variable{prog:Program}{w:World}{AA:Heap}{n:Nat}{Sg:AP}{mg mb:Str→Option Value}
def TS(prog:Program)(w:World)(AA:Heap)(Sg:AP)(env:Env)(f:Value→Sem Unit)(i:Nat):Prop:=∀{A:Around}{E:Value→Shared→Prop}{s:Shared}{hid:Addr→Prop}{he:Heap}{ow la:List Addr}{ρ:List LV}{v:Value}{d:D}{Q:Unit→Shared→Prop},AV AA Sg env hid he ow la s.heap ρ→AQ (AL s.heap (AY hid ow)) v d→
 (∀s',Mv ow ow s s'→(∀a o,AL s.heap (AY hid ow) a o→AL s'.heap (AY hid ow) a o)→AV AA Sg env hid he ow la s'.heap (ρ.set i (.d d))→Q () s')→wpAny (model prog w) A (f v) Q E s
inductive IM(R:(Value→Sem Unit)→Nat→Prop):List (Value→Sem Unit)→List Nat→Prop
 |nil:IM R [] []
 |cons {f i fs is}:R f i→IM R fs is→IM R (f::fs) (i::is)
theorem IM.snoc{R:(Value→Sem Unit)→Nat→Prop}{f:Value→Sem Unit}{i:Nat}{fs:List (Value→Sem Unit)}{is:List Nat}(h:IM R fs is)(r:R f i):IM R (fs++[f]) (is++[i]):=by
 induction h with
 |nil=>exact .cons r .nil
 |cons a _ ih=>exact .cons a ih
theorem IM.rev{R:(Value→Sem Unit)→Nat→Prop}{fs:List (Value→Sem Unit)}{is:List Nat}(h:IM R fs is):IM R fs.reverse is.reverse:=by
 induction h with
 |nil=>exact .nil
 |cons a _ ih=>rw[List.reverse_cons,List.reverse_cons];exact ih.snoc a
theorem fH{env:Env}{A:Around}{hid:Addr→Prop}{he:Heap}{E:Value→Shared→Prop}{fs:List (Value→Sem Unit)}{is:List Nat}(T:IM (TS prog w AA Sg env) fs is){s:Shared}{ow la:List Addr}{ρ:List LV}{vs:List Value}{ds:List D}
  (S:AV AA Sg env hid he ow la s.heap ρ)(hd:AJ (AL s.heap (AY hid ow)) vs ds)(hl:ds.length=is.length):wpAny (model prog w) A (assignInOrder fs vs) (λV s'=>AV AA Sg env hid he ow la s'.heap (A4 ρ is ds)∧Mv ow ow s s') E s:=by
 induction T generalizing s ρ vs ds with
 |nil=>
  rw[List.eq_nil_of_length_eq_zero hl]at hd⊢;rw[hd.nil_inv];exact wpAny_pure (And.intro S (Mv.refl ow s))
 | @cons f i fs is r _ ih=>
  cases ds with
  |nil=>exact nomatch hl
  |cons d ds=>
   obtain⟨v,us,e,a,b⟩:=hd.cons_inv;rw[e];exact(wpAny_bind (wpAny_holding (r S a λAB m hv BS=>BD (ih BS (b.mono hv) (Nat.succ.inj hl)) λV AF y=>And.intro y.1 (m.trans y.2))):wpAny (model prog w) A (do holding us (f v);assignInOrder fs us) _ E s)
theorem F3.sts{env:Env}(H:CN Sg env){es:List Expr}{xs:List Str}{is:List Nat}(T:F3 Sg es xs is):IM (TS prog w AA Sg env) ((assignEach es env).map (·.2)) is∧IM (TS prog w AA Sg env) (xs.map λn=>bindName env n) is:=by
 induction T with
 |nil=>exact⟨.nil,.nil⟩
 |cons i hn hst _ ih=>exact⟨.cons (λS d k=>wpAny_assign_Name (QF H S hn hst d k)) ih.1,.cons (λS d k=>wpAny_bindName (QF H S hn hst d k)) ih.2⟩
def D5(m:Nat)(d:D):Option (List D):=(JC d).bind λl=>if l.length=m then some l else none
theorem sZ{m:Nat}{d:D}{l:List D}(h:D5 m d=some l):JC d=some l∧l.length=m:=AK h λx e h=>DM h λq r=>⟨Option.some.inj r▸e,Option.some.inj r▸q⟩
theorem LE{h h':Heap}(hx:∀b o,b≠h.objs.size→h.get? b=some o→h'.get? b=some o):A3 h h':= λb o e=>hx b o (λq=>BO (DT h) (q▸e)) e
theorem LU{es:List Expr}{xs:List Str}{is:List Nat}{k:Nat}{tp pos:Pos}{value:Expr}{f:EF}(T:F3 Sg es xs is)(hnd:is.Nodup)(hv:e9 value=true)(h:PE prog w AA n Sg value f)
  (hs:∀env,swapsWithSole [.Tuple es k tp] value pos.line env=pure false):
  XS prog w AA n Sg (.Assign [.Tuple es k tp] value pos) (λρ=>((f ρ).bind (D5 is.length)).map λds=>(.next,A4 ρ is ds)):=by
 intro env A s ρ ρ' out hid he ow la E H hA S hf;refine KT hf λds hds=>AK hds λd hd hds=>?_;have q:=sZ hds;have T2:=T.sts (prog:=prog) (w:=w) (AA:=AA) H;rcases sU T env k tp value hv with hw|hw
 ·refine PyProof.Rows.Assign_Tuple (GD.wp_g (h env A s ρ _ hid he ow la E H hA S hd) λv AB dv A6=>(BH.of dv).tupE q.1 λt vs ht hdl=>?_) (hs env) hw;refine(?_:wpAny (model prog w) A (do standAt tp;unpack (.ref t) (assignEach es env)) _ E AB)
  exact wpAny_bind (wpAny_standAt (PyProof.Rows.unpack_tuple hA.1 ht ((T.each env).1.trans (T.len.1.trans (q.2.symm.trans hdl.length.symm))) (T.each env).2 λh' hx=>BD (fH T2.1 (s:={AB with heap:=h'}) (S.grows (A6.grows.trans (LE hx))) (hdl.mono (DJ (LE hx))) q.2) λV AF y=>
   FN.mk ow la y.1 trivial ((Mv.of_kp (A6.trans ⟨h',AB.toks,rfl,LE hx⟩)).trans y.2)))
 ·refine PyProof.Rows.Assign_Tuple_swapped (GD.wp_g (h env A s ρ _ hid he ow la E H hA S hd) λv AB dv A6=>(BH.of dv).tupE q.1 λt vs ht hdl=>?_) (hs env) hw;rw[show xs.length=(List.toArray vs).size from T.len.2.trans (q.2.symm.trans hdl.length.symm)];refine wpAny_unpackItems_tuple hA.1 ht λh' hx=>?_;rw[←Mw q.2.symm hnd,List.map_reverse];exact BD (fH T2.2.rev (s:={AB with heap:=h'}) (S.grows (A6.grows.trans (LE hx))) (hdl.mono (DJ (LE hx))).reverse (by rw[List.length_reverse,List.length_reverse];exact q.2)) λV AF y=>⟨ow,la,y.1,trivial,(Mv.of_kp (A6.trans ⟨h',AB.toks,rfl,LE hx⟩)).trans y.2⟩
def K9(prog:Program)(w:World)(AA:Heap)(Sg:AP)(e:Expr)(is:List Nat)(upd:List LV→D→Option (List LV)):Prop:=
 (∀(env:Env)(A:Around)(s:Shared)(v:Value)(d:D)(ρ ρ':List LV)(hid:Addr→Prop)(he:Heap)(ow la:List Addr)(E:Value→Shared→Prop),A.handled=none→CN Sg env→AV AA Sg env hid he ow la s.heap ρ→AQ (AL s.heap (AY hid ow)) v d→upd ρ d=some ρ'→
  wpAny (model prog w) A (assign e env v) (λV s'=>AV AA Sg env hid he ow la s'.heap ρ'∧Mv ow ow s s') E s)∧
 (∀ρ d ρ',upd ρ d=some ρ'→ρ'.length=ρ.length∧∀k,k∉is→ρ'[k]? =ρ[k]?)
theorem sD{ρ:List LV}{i:Nat}{v:LV}{is:List Nat}:(ρ.set i v).length=ρ.length∧∀k,k∉i::is→(ρ.set i v)[k]? =ρ[k]? :=⟨List.length_set,λV hk=>List.getElem?_set_ne λ(q:i=_)=>hk (q▸List.mem_cons_self)⟩
theorem Mu{is:List Nat}{ds:List D}{ρ:List LV}:(A4 ρ is ds).length=ρ.length∧∀k,k∉is→(A4 ρ is ds)[k]? =ρ[k]? :=by
 induction is generalizing ds ρ with
 |nil=>exact⟨rfl,λV V=>rfl⟩
 |cons i is ih=>
  cases ds with
  |nil=>exact⟨rfl,λV V=>rfl⟩
  |cons d ds=>exact⟨ih.1.trans List.length_set,λk hk=>(ih.2 k λq=>hk (.tail _ q)).trans (sD.2 k hk)⟩
theorem DX(i:Nat){x:Str}{b:Bool}{p:Pos}(hn:Sg.names[i]? =some (x,b))(hst:b=true∨x∈Sg.stor):K9 prog w AA Sg (.Name x p) [i] (λρ d=>some (ρ.set i (.d d))):=
 ⟨λenv A s v d ρ ρ' hid he ow la E hh H S hd hu=>DA hu (wpAny_assign_Name (QF H S hn hst hd λs' m V S'=>⟨S',m⟩)),λρ d ρ' h=>DA h sD⟩
theorem SL{es:List Expr}{xs:List Str}{is:List Nat}{k:Nat}{tp:Pos}(T:F3 Sg es xs is):K9 prog w AA Sg (.Tuple es k tp) is (λρ d=>(D5 is.length d).map λds=>A4 ρ is ds):=
 ⟨λenv A s v d ρ ρ' hid he ow la E hh H S dv hu=>FV hu λds hds=>have q:=sZ hds
  (BH.of dv).tupE q.1 λt vs ht hdl=>wpAny_assign_Tuple hh ht ((T.each env).1.trans (T.len.1.trans (q.2.symm.trans hdl.length.symm))) (T.each env).2 λh' hx=>
   BD (fH (T.sts H).1 (s:={s with heap:=h'}) (S.grows (LE hx)) (hdl.mono (DJ (LE hx))) q.2) λV AF y=>⟨y.1,(Mv.of_kp ⟨h',s.toks,rfl,LE hx⟩).trans y.2⟩,
  λρ d ρ' h=>FV h λV V=>Mu⟩
end
abbrev DU(hid:Addr→Prop)(wr:List Addr):Addr→Prop:= λa=>hid a∨a∈wr
theorem b8{hid:Addr→Prop}{wr ow:List Addr}{a:Addr}(q:AY hid ow a):AY (DU hid wr) ow a:=q.elim (λq=>.inl (.inl q)) .inr
theorem UL{hid:Addr→Prop}{wr ow:List Addr}{a:Addr}(h:¬AY hid ow a)(k:a∉wr):¬AY (DU hid wr) ow a:= λq=>q.elim (λq=>q.elim (λq=>h (.inl q)) k) λq=>h (.inr q)
theorem AV.hide{AA:Heap}{Sg:AP}{env:Env}{hid:Addr→Prop}{he:Heap}{ow la:List Addr}{h h':Heap}{ρ:List LV}(S:AV AA Sg env hid he ow la h ρ)(k:A3 h h'){wr:List Addr}(hw:∀b∈wr,h.get? b=none∧∃o,h'.get? b=some o):
  AV AA Sg env (DU hid wr) he ow la h' ρ:=
 {S.grows k with
  hlt:= λb q=>q.elim ((S.grows k).hlt b) λq=>⟨λm=>let ⟨_,o,e⟩:=S.owr b m;BO (hw b q).1 e,(hw b q).2⟩
  slot:= λi x b l lv a1 a2 a3=>(S.slot i x b l lv a1 a2 a3).map (λV e=>e.grows k) (λb o e=>⟨k _ _ e.1,UL e.2 λq=>BO (hw b q).1 e.1⟩) λm ne=>⟨m,ne,λo e V=>k _ _ e⟩}
theorem AV.unhide{AA:Heap}{Sg:AP}{env:Env}{hid:Addr→Prop}{he:Heap}{ow la:List Addr}{h:Heap}{ρ:List LV}{wr:List Addr}(S:AV AA Sg env (DU hid wr) he ow la h ρ):AV AA Sg env hid he ow la h ρ:=
 {S with
  hlt:= λb q=>S.hlt b (.inl q)
  slot:= λi x b l lv a1 a2 a3=>(S.slot i x b l lv a1 a2 a3).map (λV e=>e) (GN λa q=>b8 q) λm ne=>⟨m,ne,λo e V=>e⟩}
theorem AV.chg{AA:Heap}{Sg:AP}{env:Env}{hid:Addr→Prop}{he:Heap}{ow la:List Addr}{h h':Heap}{ρ:List LV}{wr:List Addr}(S:AV AA Sg env hid he ow la h ρ)(hw:∀b∈wr,hid b)(hc:∀x c,env.cells.lookup x=some c→c∉wr)(hb:∀b∈wr,he.get? b=none)
  (k:∀b o,b∉wr→h.get? b=some o→h'.get? b=some o)(hl:∀b∈wr,∃o,h'.get? b=some o):AV AA Sg env hid he ow la h' ρ:=
 have how:∀b∈ow,b∉wr:= λb m q=>(S.hlt b (hw b q)).1 m
 {S with
  keep:= λb o e=>k b o (λq=>BO (hb b q) e) (S.keep b o e)
  hlt:= λb q=>⟨(S.hlt b q).1,if p:b∈wr then hl b p else let ⟨_,o,e⟩:=S.hlt b q;⟨o,k b o p e⟩⟩
  owr:= λb m=>⟨(S.owr b m).1,let ⟨_,o,e⟩:=S.owr b m;⟨o,k b o (how b m) e⟩⟩
  ns:=let ⟨m,e⟩:=S.ns;⟨m,e.at' λo=>k _ o (how _ S.loc)⟩
  cel:= λx c e=>let ⟨v,o,e1,e2⟩:=S.cel x c e;⟨v,o,k _ _ (hc x c e) e1,e2⟩
  slot:= λi x b l lv a1 a2 a3=>(S.slot i x b l lv a1 a2 a3).map (λV e=>e.at (λo=>k _ o (how _ S.loc)) λc e o=>k c o (hc x c e)) (λb o e=>⟨k _ _ (λq=>e.2 (.inl (hw b q))) e.1,e.2⟩) λm ne=>⟨m,ne,λo e V=>k _ _ (how l m) e⟩}
theorem AV.over{AA:Heap}{Sg:AP}{env:Env}{hid:Addr→Prop}{he:Heap}{ow la:List Addr}{h h':Heap}{ρ:List LV}{wr:List Addr}(S:AV AA Sg env (DU hid wr) he ow la h ρ)(hh:∀b∈wr,¬hid b)(hc:∀x c,env.cells.lookup x=some c→c∉wr)(hb:∀b∈wr,he.get? b=none)
  (k:∀b o,b∉wr→h.get? b=some o→h'.get? b=some o):AV AA Sg env hid he ow la h' ρ:=
 have how:∀b∈ow,b∉wr:= λb m q=>(S.hlt b (.inr q)).1 m
 {S with
  keep:= λb o e=>k b o (λq=>BO (hb b q) e) (S.keep b o e)
  hlt:= λb q=>⟨(S.hlt b (.inl q)).1,let ⟨_,o,e⟩:=S.hlt b (.inl q);⟨o,k b o (λp=>hh b p q) e⟩⟩
  owr:= λb m=>⟨(S.owr b m).1,let ⟨_,o,e⟩:=S.owr b m;⟨o,k b o (how b m) e⟩⟩
  ns:=let ⟨m,e⟩:=S.ns;⟨m,e.at' λo=>k _ o (how _ S.loc)⟩
  cel:= λx c e=>let ⟨v,o,e1,e2⟩:=S.cel x c e;⟨v,o,k _ _ (hc x c e) e1,e2⟩
  slot:= λi x b l lv a1 a2 a3=>(S.slot i x b l lv a1 a2 a3).map (λV e=>e.at (λo=>k _ o (how _ S.loc)) λc e o=>k c o (hc x c e)) (λb o e=>⟨k _ _ (λq=>e.2 (.inl (.inr q))) e.1,λq=>e.2 (b8 q)⟩) λm ne=>⟨m,ne,λo e V=>k _ _ (how l m) e⟩}
inductive WB(prog:Program)(w:World)(A:Around)(hid:Addr→Prop)(ow:List Addr)(s AF:Shared)(it:Value)(ds:List D)(own:Bool):Prop
 |mk (I:Addr) (fp wr:List Addr) (P:Nat→Value→Prop) (St:Nat→Heap→Prop):it=.ref I→Walks prog w A I fp wr ds.length P St→(∀i h,St i h→∀b∈wr,∃o,h.get? b=some o)→St 0 AF.heap→
  (own=true∨∀b∈fp,b∈wr∨b∉ow)→(∀b∈wr,s.heap.get? b=none)→(∀b∈fp,∃o,AF.heap.get? b=some o)→
  (∀i v,P i v→∃d,ds[i]? =some d∧AQ (AL AF.heap (AY (DU hid wr) ow)) v d)→ds.length≤100000→
  (∀(i:Nat)(v:Value)(s:Shared)(tg:Expr)(Q:Unit→Shared→Prop)(E:Value→Shared→Prop),P i v→St (i+1) s.heap→Q () s→wpAny (model prog w) A (letOwnedTupleGo tg it v) Q E s)→WB prog w A hid ow s AF it ds own
theorem UV{M:Model}{A:Around}{s:Shared}{I:Addr}{v:Value}{tg:Expr}{Q:Unit→Shared→Prop}{E:Value→Shared→Prop}(hv:∀a,v=.ref a→∃(o:Obj)(n:String)(vs:Array Value),s.heap.get? I=some o∧o.cls=.type n∧o.data=.fields vs∧(["enumerate","zip","dict_itemiterator","dict_reverseitemiterator","odict_iterator","itertools.zip_longest","itertools.pairwise"].contains n)=false)(h:Q () s):
  wpAny M A (letOwnedTupleGo tg (.ref I) v) Q E s:=by
 have k:∀es k p,wpAny M A (letOwnedTupleGo (.Tuple es k p) (.ref I) v) Q E s:= λV V V=>by
  cases v with
  |ref a=>
   obtain⟨o,n,vs,ho,hc,hd,hn⟩:=hv a rfl;refine wpAny_bind (wpAny_load ho ?_);rw[hc,hd];refine(?_:wpAny M A (if(["enumerate","zip","dict_itemiterator","dict_reverseitemiterator","odict_iterator","itertools.zip_longest","itertools.pairwise"].contains n&&vs[0]? ==some (rawInt a))=true then _ else _) Q E s);rw[hn,Bool.false_and,if_neg nofun];exact wpAny_pure h
  |_=>exact wpAny_pure h
 cases tg with
 |Tuple es n p=>exact k es n p
 |List es p=>exact k es 0 p
 |_=>exact wpAny_pure h
section
variable{prog:Program}{w:World}{AA:Heap}{n:Nat}{Sg:AP}{mg mb:Str→Option Value}
def PI(prog:Program)(w:World)(AA:Heap)(n:Nat)(Sg:AP)(own:Bool)(e:Expr)(f:List LV→Option (List D)):Prop:=
 ∀(env:Env)(A:Around)(s:Shared)(ρ:List LV)(ds:List D)(hid:Addr→Prop)(he:Heap)(ow la:List Addr)(E:Value→Shared→Prop),
  CN Sg env→B9 n A→AV AA Sg env hid he ow la s.heap ρ→f ρ=some ds→
  wpAny (model prog w) A (eval e env) (λxv AB=>wpAny (model prog w) A (pyIter xv) (λit AF=>WB prog w A hid ow s AF it ds own∧Kp s AF) E AB) E s
def DQ(d:D):Option (List D):=(CX d).bind λl=>if BG l then some l else none
theorem dC{d:D}{ds:List D}(h:DQ d=some ds):d=.lst ds∧ds.length≤100000:=AK h λl e h=>CV h λq=>⟨L3 e,OB q⟩
theorem tE{A:Around}{hid:Addr→Prop}{ow:List Addr}{s AB:Shared}{l:Addr}{vs:List Value}{ds:List D}{own:Bool}{E:Value→Shared→Prop}(hA:B9 n A)(K:D7 (AY hid ow) AB.heap)(kp:Kp s AB)(hl:AB.heap.IsList l vs.toArray)(hd:AJ (AL AB.heap (AY hid ow)) vs ds)(hs:ds.length≤100000)(ho:own=true∨l∉ow):
  wpAny (model prog w) A (pyIter (.ref l)) (λit AF=>WB prog w A hid ow s AF it ds own∧Kp s AF) E AB:=by
 have W:=Walks.list (prog:=prog) (w:=w) hA.1 AB.heap.objs.size l (λq=>hl.elim λV e=>BO (DT AB.heap) (q▸e.1)) vs.toArray;rw[show vs.toArray.size=ds.length from hd.length]at W;have g:=A3.push AB.heap {cls:=.type "list_iterator",data:=.fields #[.ref l,.int 0 0]};exact wpAny_pyIter_list hl ⟨⟨_,_,_,_,_,rfl,W,λi h hst=>E5 (hst.1.elim λo e=>⟨o,e.1⟩),⟨⟨_,Heap.get?_push_size _ rfl,rfl,rfl⟩,hl.push _⟩,ho.imp_right λh=>D4 (.inl (.head _)) (E5 (.inr h)),E5 (FE kp.grows (DT _)),
  D4 ⟨_,Heap.get?_push_size _ rfl⟩ (E5 (hl.elim λo e=>⟨o,g _ _ e.1⟩)),λi v hv=>(hd.get' (i:=i) (v:=v) (by simpa using hv)).elim λd q=>⟨d,q.1,q.2.mono λa o e=>⟨g _ _ e.1,UL e.2 λq=>BO (DT _) (List.mem_singleton.mp q▸e.1)⟩⟩,hs,
  λi v s tg Q E V hst h=>UV (λa V=>hst.1.elim λo e=>⟨o,_,_,e.1,e.2.1,e.2.2,by decide⟩) h⟩,kp.trans (Kp.push _ _)⟩
theorem LN{e:Expr}{f:EF}(h:PE prog w AA n Sg e f):PI prog w AA n Sg false e (λρ=>(f ρ).bind DQ):=
 λenv A s ρ ds hid he ow la E H hA S hf=>AK hf λd hd hf=>wp_g (h env A s ρ d hid he ow la E H hA S hd) λv AB dv k=>have q:=dC hf
  dv.lstE q.1 λa vs m g r=>tE hA (S.grows k.grows).hidOK k ⟨_,g.1,rfl,_,rfl⟩ r q.2 (.inr λq=>g.2 (.inr q))
theorem PU{e:Expr}{f:EF}(h:PO prog w AA n Sg e f):PI prog w AA n Sg true e (λρ=>(f ρ).bind DQ):=
 λenv A s ρ ds hid he ow la E H hA S hf=>AK hf λd hd hf=>wp_g (h env A s ρ d hid he ow la E H hA S hd) λv AB dv k=>have q:=dC hf
  dv.lstE (ds:=ds) (by rw[q.1];rfl) λa vs hl r=>tE hA (S.grows k.grows).hidOK k hl r q.2 (.inl rfl)
noncomputable def EQ(a b:Int):List D:=(List.range (b-a).toNat).map λ(i:Nat)=>D.int (a+(i:Int))
theorem P1(a b:Int):(EQ a b).length=(b-a).toNat:=by rw[EQ,List.length_map,List.length_range]
noncomputable def HN(a b:Int):Bool:=decide (a.natAbs≤100000)&&decide (b.natAbs≤100000)&&decide ((b-a).toNat≤100000)
theorem eE{a b:Int}(h:HN a b=true):(a.natAbs≤100000∧b.natAbs≤100000)∧(b-a).toNat≤100000:=by
 rwa [HN,Bool.and_eq_true,Bool.and_eq_true,decide_eq_true_eq,decide_eq_true_eq,decide_eq_true_eq]at h
theorem U4{a:Int}{k:Nat}(h:a.natAbs≤k): -(k:Int)≤a∧a≤k:=by lia
theorem eH(a b:Int):Builtin.Range.rangeSize a b 1=((b-a).toNat:Int):=by rw[rangeSize_one];split<;>lia
theorem tF{A:Around}{hid:Addr→Prop}{ow:List Addr}{s AB:Shared}{r:Addr}{a b:Int}{t u v:Tok}{own:Bool}{E:Value→Shared→Prop}(hA:B9 n A)(kp:Kp s AB)(hr:IsRange AB.heap r a b 1 t u v)(hk:HN a b=true):
  wpAny (model prog w) A (pyIter (.ref r)) (λit AF=>WB prog w A hid ow s AF it (EQ a b) own∧Kp s AF) E AB:=by
 have hk:=eE hk;have h1:=U4 hk.1.1;have h2:=U4 hk.1.2;have W:=Walks.range (prog:=prog) (w:=w) hA.1 AB.heap.objs.size a 1 (EQ a b).length;refine wpAny_pyIter_range hr (small_one (by lia) (by lia) (by lia) (by lia)) ⟨⟨_,_,_,(λi v=>i<(EQ a b).length∧∃t,v=.int (a+i*1) t),(λi h=>IsRangeIter h AB.heap.objs.size (a+(i:Nat)*1) (((EQ a b).length:Int)-(i:Nat)) 1),rfl,
   ⟨W.sub,W.frame,λi s Q E hi st hQ=>W.item i s Q E hi st λv h' tk p=>hQ v h' tk ⟨hi,p⟩,W.done,W.self⟩,λi h hst=>E5 ⟨_,hst⟩,?_,.inr λb hb=>.inl hb,E5 (FE kp.grows (DT _)),E5 ⟨_,Heap.get?_push_size _ rfl⟩,
   λi v hv=>⟨.int (a+i),?_,hv.2.elim λt e=>by rw[e,Int.mul_one];exact .int _ _⟩,P1 a b▸hk.2,λi v s tg Q E hp V h=>UV (λa e=>hp.2.elim λt q=>nomatch q.symm.trans e) h⟩,kp.trans (Kp.push _ _)⟩
 ·refine(?_:Heap.get? _ _=_);rw[Heap.get?_push_size _ rfl,eH,P1];simp
 ·have hi:=hv.1;rw[P1]at hi;simp[EQ,hi]
def GU:List D→Option (List D):=EO λb=>(B6 b).bind λb=>if HN 0 b then some (EQ 0 b)else none
def IQ:List D→Option (List D):=I4 λa b=>(B6 a).bind λa=>(B6 b).bind λb=>if HN a b then some (EQ a b)else none
theorem Z7{env:Env}{A:Around}{s:Shared}{hid:Addr→Prop}{he:Heap}{ow la:List Addr}{ρ:List LV}{E:Value→Shared→Prop}{Q:Value→Shared→Prop}(B:B0 AA mg mb)(H:CN Sg env)(hA:B9 n A)(S:AV AA Sg env hid he ow la s.heap ρ){i:Nat}{x:Str}{c:Value}{p pos:Pos}{es:List Expr}{f:List LV→Option (List D)}(hn:Sg.globs[i]? =some x)(hv:BK mg mb x c)(hc:∀a,c≠.ref a)(hp:DK es)(h:FM prog w AA n Sg es f){l:List D}(hl:f ρ=some l)
  (k:∀vs AB,AJ (AL AB.heap (AY hid ow)) vs l→Kp s AB→wpAny (model prog w) A (call c vs) Q E AB):wpAny (model prog w) A (eval (.Call (.Name x p) es [] pos) env) Q E s:=by
 refine(wpAny_bind (IE B H hn hv (S.base.trans S.keep) ?_):wpAny (model prog w) A (do callWith pos (←eval (.Name x p) env) [] (backTo pos (starEach es env)) (backToKw pos (keywordEach [] env))) _ E s);exact JX (by intro a q;exact absurd q (hc a)) (by rw[HX];exact hp env) (GC hp (GL.wp_g (h env A s ρ l hid he ow la pos E H hA S hl) k))
theorem JL(B:B0 AA mg mb)(i:Nat){x:Str}{p pos:Pos}{es:List Expr}{f:List LV→Option (List D)}(hn:Sg.globs[i]? =some x)(hv:BK mg mb x (.type "range"))(hp:DK es)(h:FM prog w AA n Sg es f)(own:Bool):
  PI prog w AA n Sg own (.Call (.Name x p) es [] pos) (λρ=>(f ρ).bind GU):=
 λenv A s ρ ds hid he ow la E H hA S hf=>AK hf λl hl hf=>Z7 B H hA S hn hv nofun hp h hl λvs AB dv k=>dv.oneE hf λv d d1 hf=>d1.intE hf λb t hf=>CV hf λhk=>
  call_range_1 (tF hA ((k.trans (Kp.push _ _)).trans (Kp.toks {AB with heap:=AB.heap.push _} _)) (IsRange.new ..) hk)
theorem R9(B:B0 AA mg mb)(i:Nat){x:Str}{p pos:Pos}{es:List Expr}{f:List LV→Option (List D)}(hn:Sg.globs[i]? =some x)(hv:BK mg mb x (.type "range"))(hp:DK es)(h:FM prog w AA n Sg es f)(own:Bool):
  PI prog w AA n Sg own (.Call (.Name x p) es [] pos) (λρ=>(f ρ).bind IQ):=
 λenv A s ρ ds hid he ow la E H hA S hf=>AK hf λl hl hf=>Z7 B H hA S hn hv nofun hp h hl λvs AB dv k=>dv.twoE hf λv u d e d1 d2 hf=>d1.intE hf λa t hf=>d2.intE hf λb t hf=>CV hf λhk=>
  call_range_2 (tF hA ((k.trans (Kp.push _ _)).trans (Kp.toks {AB with heap:=AB.heap.push _} _)) (IsRange.new ..) hk)
noncomputable def B7(upd:List LV→D→Option (List LV))(F:PF):List D→List LV→Option (AC×List LV)
 |[],ρ=>some (.next,ρ)
 |d::ds,ρ=>match(upd ρ d).bind F with
  |some (.next,ρ')=>B7 upd F ds ρ'
  |some (.cont,ρ')=>B7 upd F ds ρ'
  |some (.brk,ρ')=>some (.next,ρ')
  |some (.ret v,ρ')=>some (.ret v,ρ')
  |none=>none
theorem Dx{upd:List LV→D→Option (List LV)}{F:PF}{d:D}{ds:List D}{ρ ρ':List LV}{out:AC}{P:Prop}(h:B7 upd F (d::ds) ρ=some (out,ρ'))(k:∀ρa o CE,upd ρ d=some ρa→F ρa=some (o,CE)→(o=.next∨o=.cont→B7 upd F ds CE=some (out,ρ'))→(o=.brk→CE=ρ'∧out=.next)→(∀v,o=.ret v→CE=ρ'∧out=.ret v)→P):P:=by
 unfold B7 at h;cases e:upd ρ d with
 |none=>rw[e]at h;exact AI h
 |some ρa=>
  rw[e]at h;cases e':F ρa with
  |none=>rw[Option.bind_some,e']at h;exact AI h
  |some p=>
   rw[Option.bind_some,e']at h;obtain⟨o,CE⟩:=p;refine k ρa o CE e e' (λq=>?_) (λq=>?_) λv q=>?_
   ·rcases q with q|q<;>rw[q]at h<;>exact h
   ·rw[q]at h;exact⟨(GW h).2,(GW h).1.symm⟩
   ·rw[q]at h;exact⟨(GW h).2,(GW h).1.symm⟩
theorem Jt{hid:Addr→Prop}{wr ow:List Addr}{fl:Flow}{o:AC}{h:Heap}(x:JB fl o h (DU hid wr) ow):JB fl o h hid ow:=by
 cases fl<;>cases o<;>first|exact x|skip
 have v:∀a o,AL h (AY (DU hid wr) ow) a o→AL h (AY hid ow) a o:=GN λa q=>b8 q;exact x.elim (λq=>.inl (q.mono v)) λ⟨l,vs,ds,e0,e1,e2,e3,e4⟩=>.inr ⟨l,vs,ds,e0,e1,e2,e3,e4.mono v⟩
structure LC(env:Env)(hid:Addr→Prop)(he:Heap)(wr fp ow:List Addr)(St:Nat→Heap→Prop)(CA AF:Shared):Prop where
 cw:∀x c,env.cells.lookup x=some c→c∉wr
 nh:∀b∈wr,¬hid b
 nw:∀b∈wr,CA.heap.get? b=none
 kh:A3 he CA.heap
 k:Kp CA AF
 live:∀i h,St i h→∀b∈wr,∃o,h.get? b=some o
 sub:∀b∈fp,b∈wr∨b∉ow
 old:∀b∈fp,∃o,AF.heap.get? b=some o
 fr:∀i h h',St i h→(∀b∈fp,∀o,h.get? b=some o→h'.get? b=some o)→St i h'
theorem LC.of{env:Env}{hid:Addr→Prop}{he:Heap}{wr fp ow la:List Addr}{St:Nat→Heap→Prop}{CA AF:Shared}{ρ:List LV}{AA:Heap}{Sg:AP}(S:AV AA Sg env hid he ow la CA.heap ρ)(nw:∀b∈wr,CA.heap.get? b=none)(k:Kp CA AF)(live:∀i h,St i h→∀b∈wr,∃o,h.get? b=some o)(sub:∀b∈fp,b∈wr∨b∉ow)(old:∀b∈fp,∃o,AF.heap.get? b=some o)
  (fr:∀i h h',St i h→(∀b∈fp,∀o,h.get? b=some o→h'.get? b=some o)→St i h'):LC env hid he wr fp ow St CA AF:=
 ⟨λx c e q=>let ⟨_,_,e1,_⟩:=S.cel x c e;BO (nw c q) e1,λb hb q=>let ⟨_,_,e⟩:=S.hlt b q;BO (nw b hb) e,nw,S.keep,k,live,sub,old,fr⟩
structure LI(AA:Heap)(Sg:AP)(env:Env)(hid:Addr→Prop)(he:Heap)(wr ow:List Addr)(St:Nat→Heap→Prop)(AF:Shared)(j:Nat)(ρ:List LV)(owj laj:List Addr)(s':Shared):Prop where
 sh:Sm AF s'
 st:St j s'.heap
 S:AV AA Sg env (DU hid wr) he owj laj s'.heap ρ
 kp:∀b o,b∉ow→b∉wr→AF.heap.get? b=some o→s'.heap.get? b=some o
 nw:∀b∈owj,b∈ow∨AF.heap.get? b=none
section
variable{AA:Heap}{Sg:AP}{env:Env}{hid:Addr→Prop}{he:Heap}{wr fp ow:List Addr}{St:Nat→Heap→Prop}{CA AF:Shared}{j:Nat}{ρ CE:List LV}{owj laj MM US:List Addr}{s AB:Shared}
theorem LI.nj(I:LI AA Sg env hid he wr ow St AF j ρ owj laj s){b:Addr}{o:Obj}(n:b∉ow)(e:AF.heap.get? b=some o):b∉owj:= λq=>(I.nw b q).elim n λq=>BO q e
theorem LI.mv(C:LC env hid he wr fp ow St CA AF)(I:LI AA Sg env hid he wr ow St AF j ρ owj laj s)(S:AV AA Sg env (DU hid wr) he MM US AB.heap CE)(m:Mv owj MM s AB):LI AA Sg env hid he wr ow St AF j CE MM US AB where
 sh:=I.sh.trans m.sh
 st:=C.fr _ _ _ I.st λb hb o e=>m.kp b o ((C.sub b hb).elim (λq=>(I.S.hlt b (.inr q)).1) λq=>let ⟨_,e⟩:=C.old b hb;I.nj q e) e
 S:=S
 kp:= λb o n1 n2 e=>m.kp b o (I.nj n1 e) (I.kp b o n1 n2 e)
 nw:= λb hb=>(m.nw b hb).elim (I.nw b) λq=>(Bk.back (ow:=ow++wr) (λb o n e=>I.kp b o (λq=>n (List.mem_append.mpr (.inl q))) (λq=>n (List.mem_append.mpr (.inr q))) e) q).imp_left λq=>(List.mem_append.mp q).elim id λm=>let ⟨_,e⟩:=C.live _ _ I.st b m;BO ‹_› e
theorem LI.item(C:LC env hid he wr fp ow St CA AF)(I:LI AA Sg env hid he wr ow St AF j ρ owj laj s){i:Nat}{h:Heap}{t:Nat}(k:∀b o,b∉wr→s.heap.get? b=some o→h.get? b=some o)(st:St i h):LI AA Sg env hid he wr ow St AF i ρ owj laj {s with heap:=h,toks:=t} where
 sh:=I.sh.trans ⟨h,t,rfl⟩
 st:=st
 S:=I.S.chg (λV=>.inr) C.cw (λb hb=>FE C.kh (C.nw b hb)) k (C.live _ _ st)
 kp:= λb o n1 n2 e=>k b o n2 (I.kp b o n1 n2 e)
 nw:=I.nw
theorem LI.den(I:LI AA Sg env hid he wr ow St AF j ρ owj laj s){v:Value}{d:D}(x:AQ (AL AF.heap (AY (DU hid wr) ow)) v d):AQ (AL s.heap (AY (DU hid wr) owj)) v d:=
 x.mono λa o e=>⟨I.kp a o (λq=>e.2 (.inr q)) (λq=>e.2 (.inl (.inr q))) e.1,λq=>q.elim (λq=>e.2 (.inl q)) (I.nj (λq=>e.2 (.inr q)) e.1)⟩
theorem LI.mvd(C:LC env hid he wr fp ow St CA AF)(I:LI AA Sg env hid he wr ow St AF j ρ owj laj s):Mv ow owj CA s:=
 ⟨(Sm.of_kp C.k).trans I.sh,λb o n e=>I.kp b o n (λq=>BO (C.nw b q) e) (C.k.grows b o e),λb m=>(I.nw b m).imp_right (FE C.k.grows)⟩
theorem LI.out(C:LC env hid he wr fp ow St CA AF)(I:LI AA Sg env hid he wr ow St AF j ρ owj laj s){fl:Flow}{o:AC}(x:JB fl o s.heap (DU hid wr) owj):FN AA Sg env hid he ow CA ρ o fl s:=⟨owj,laj,I.S.unhide,Jt x,I.mvd C⟩
theorem LI.done(C:LC env hid he wr fp ow St CA AF)(I:LI AA Sg env hid he wr ow St AF j ρ owj laj s){h:Heap}{t:Nat}(k:∀b o,b∉wr→s.heap.get? b=some o→h.get? b=some o):FN AA Sg env hid he ow CA ρ .next .next {s with heap:=h,toks:=t}:=
 ⟨owj,laj,I.S.over C.nh C.cw (λb hb=>FE C.kh (C.nw b hb)) k,trivial,I.sh.elim λV q=>q.elim λV q=>((Sm.of_kp C.k).trans I.sh).trans ⟨h,t,rfl⟩,λb o n e=>k b o (λq=>BO (C.nw b q) e) ((I.mvd C).kp b o n e),(I.mvd C).nw⟩
theorem LI.turn{A:Around}{target:Expr}{is:List Nat}{upd:List LV→D→Option (List LV)}{body:List Stmt}{F:PF}{v:Value}{d:D}{ds:List D}{out:AC}{Q:Flow→Shared→Prop}{E:Value→Shared→Prop}(htg:K9 prog w AA Sg target is upd)(hb:PS prog w AA n Sg body F)(H:CN Sg env)(hA:B9 n A)
  (C:LC env hid he wr fp ow St CA AF)(I:LI AA Sg env hid he wr ow St AF j ρ owj laj s)(x:AQ (AL s.heap (AY (DU hid wr) owj)) v d)(hf:B7 upd F (d::ds) ρ=some (out,CE))
  (go:∀ρa owa laa s',LI AA Sg env hid he wr ow St AF j ρa owa laa s'→B7 upd F ds ρa=some (out,CE)→Q .next s'∧Q .cont s')(br:∀s',FN AA Sg env hid he ow CA CE out .next s'→Q .brk s')(re:∀v s',FN AA Sg env hid he ow CA CE out (.ret v) s'→Q (.ret v) s'):
  wpAny (model prog w) A (assign target env v) (λV s'=>wpAny (model prog w) A (execs body env) Q E s') E s:=
 Dx hf λρa o ρb e1 e2 e3 e4 e5=>BD (htg.1 env A s v d ρ ρa (DU hid wr) he owj laj _ hA.1 H I.S x e1) λV BI y=>have I:=I.mv C y.1 y.2
  BD (hb env A BI ρa ρb o (DU hid wr) he owj laj _ H hA I.S e2) λfl CS z=>z.casesOn λN1 MD E4 J9 HL=>by
   have I:=I.mv C E4 HL;cases fl with
   |next=>exact(go _ _ _ _ I (e3 (.inl (dL J9)))).1
   |cont=>exact(go _ _ _ _ I (e3 (.inr (mH J9)))).2
   |brk=>obtain⟨q,r⟩:=e4 (lW J9);exact br _ (r▸q▸I.out C trivial)
   |ret v=>obtain⟨u,r⟩:=rT J9;rw[r]at J9;obtain⟨q,r⟩:=e5 u r;exact re _ _ (r▸q▸I.out C J9)
end
inductive YR(AA:Heap)(Sg:AP)(env:Env)(hid:Addr→Prop)(he:Heap)(wr ow:List Addr)(St:Nat→Heap→Prop)(len:Nat)(G:Nat→List LV→Prop)(AF:Shared)(k:Nat)(s':Shared):Prop
 |mk (j:Nat) (ρj:List LV) (owj laj:List Addr):k=len+1-j→j≤len→G j ρj→LI AA Sg env hid he wr ow St AF j ρj owj laj s'→YR AA Sg env hid he wr ow St len G AF k s'
theorem bE{α:Type}{l:List α}{j:Nat}{d:α}(e:l[j]? =some d):l.drop j=d::l.drop (j+1):=by
 obtain⟨h,e⟩:=List.getElem?_eq_some_iff.mp e;rw[←e];exact List.drop_eq_getElem_cons h
theorem IG{target:Expr}{is:List Nat}{upd:List LV→D→Option (List LV)}{pos:Pos}{iter:Expr}{body:List Stmt}{f:List LV→Option (List D)}{F:PF}(htg:K9 prog w AA Sg target is upd)(hi:PI prog w AA n Sg false iter f)(hb:PS prog w AA n Sg body F)
  (hs:∀env x,foldedSetIterable iter env x=pure x):
  XS prog w AA n Sg (.For target iter body [] pos) (λρ=>(f ρ).bind λds=>B7 upd F ds ρ):=by
 intro env A s ρ ρ' out hid he ow la E H hA S hf;refine AK hf λds hds hf=>wpAny_For (BD (hi env A s ρ ds hid he ow la E H hA S hds) λxv AB CT=>BD CT λit AF q=>?_) (hs env);obtain⟨I,fp,wr,P,St,hI,W,hlive,hst0,hfp,hwr,hfpx,hP,hlen,hlets⟩:=q.1;have C:=LC.of S hwr q.2 hlive (λb hb=>hfp.resolve_left nofun b hb) hfpx W.frame;rw[hI]at hlets⊢;refine codeAny_forLoop_any (YR AA Sg env hid he wr ow St ds.length (λj ρ=>B7 upd F (ds.drop j) ρ=some (out,ρ')) AF) ?_ (ds.length+1)
  ⟨0,ρ,ow,la,rfl,Nat.zero_le _,hf,.refl _,hst0,S.hide q.2.grows λb hb=>⟨hwr b hb,hlive 0 _ hst0 b hb⟩,λV V V V e=>e,λV h=>.inl h⟩
 rintro k s' ⟨j,ρj,owj,laj,hk,hj,hfj,Ij⟩;by_cases hlt:j<ds.length
 ·refine W.item j _ _ _ hlt Ij.st λv h t hPv st k=>?_;obtain⟨d,hdj,hdv⟩:=hP j v hPv;exact hlets j v _ target _ _ hPv st ((Ij.item C k st).turn htg hb H hA C ((Ij.item C (t:=t) k st).den hdv) (bE hdj▸hfj)
   (λρa owa laa s' I hf=>have r:=⟨ds.length+1-(j+1),by lia,j+1,ρa,owa,laa,rfl,hlt,hf,I⟩;⟨r,r⟩) (λV=>id) λV V=>id)
 ·have hjl:j=ds.length:=by lia
  rw[hjl]at Ij hfj;refine W.done _ _ _ Ij.st λh t k=>wpAny_execs_nil ?_;rw[List.drop_length]at hfj;obtain⟨q1,q2⟩:=GW hfj;exact q1▸q2▸Ij.done C k
end
theorem T4(names:List (Str×NameKind))(n:Nat)(acc:List (Str×Addr)):cellsFrom n names acc=cellsFrom n names []++acc:=by
 induction names generalizing n acc with
 |nil=>rfl
 |cons p r ih=>
  unfold cellsFrom;by_cases q:(p.2==NameKind.cell)=true
  ·rw[if_pos q,if_pos q,ih _ (_::acc),ih _ [_],List.append_assoc];rfl
  ·rw[if_neg q,if_neg q,ih]
theorem l5(p:Str×NameKind)(r:List (Str×NameKind))(n:Nat):cellsFrom n (p::r) []=if p.2==NameKind.cell then cellsFrom (n+1) r []++[(p.1,n)]else cellsFrom n r []:=by
 rw[←T4];rfl
theorem yR{names:List (Str×NameKind)}{n:Nat}{x:Str}(h:(x,NameKind.cell)∈names):∃c,(x,c)∈cellsFrom n names []:=by
 induction names generalizing n with
 |nil=>exact nomatch h
 |cons p r ih=>
  rw[l5];by_cases q:(p.2==NameKind.cell)=true
  ·rw[if_pos q];exact(List.mem_cons.mp h).elim (λe=>⟨n,List.mem_append_right _ (e▸ .head _)⟩) λh=>(ih h).elim λc hc=>⟨c,List.mem_append_left _ hc⟩
  ·rw[if_neg q];exact(List.mem_cons.mp h).elim (λe=>absurd (e▸rfl) q) ih
theorem Z8{names:List (Str×NameKind)}{n:Nat}{x:Str}{c:Addr}(h:(x,c)∈cellsFrom n names []):(x,NameKind.cell)∈names:=by
 induction names generalizing n with
 |nil=>exact nomatch h
 |cons p r ih=>
  rw[l5]at h;by_cases q:(p.2==NameKind.cell)=true
  ·rw[if_pos q]at h;exact(List.mem_append.mp h).elim (λh=>.tail _ (ih h)) λh=>(Prod.mk.inj (List.mem_singleton.mp h)).1▸(eq_of_beq q:p.2=.cell)▸ .head _
  ·rw[if_neg q]at h;exact .tail _ (ih h)
theorem p8{l r:List (Str×Addr)}{x:Str}{c:Addr}(h:l.lookup x=some c):(l++r).lookup x=some c:=by
 induction l with
 |nil=>simp at h
 |cons p l ih=>
  rw[List.cons_append,List.lookup_cons];rw[List.lookup_cons]at h;cases hb:x==p.1 with
  |true=>rw[hb]at h;exact h
  |false=>rw[hb]at h;exact ih h
theorem dB{l r:List (Str×Addr)}{x:Str}(h:l.lookup x=none):(l++r).lookup x=r.lookup x:=by
 induction l with
 |nil=>rfl
 |cons p l ih=>
  rw[List.cons_append,List.lookup_cons];rw[List.lookup_cons]at h;cases hb:x==p.1 with
  |true=>rw[hb]at h;cases h
  |false=>rw[hb]at h;exact ih h
theorem Ii{l:List (Str×Addr)}{x:Str}{c:Addr}(h:(x,c)∈l):∃c',l.lookup x=some c':=by
 induction l with
 |nil=>cases h
 |cons p l ih=>
  rw[List.lookup_cons];cases hb:x==p.1 with
  |true=>exact⟨p.2,rfl⟩
  |false=>
   rcases List.mem_cons.mp h with e|h
   ·subst e;simp at hb
   ·exact ih h
abbrev M3(Sg:AP)(is:List Nat)(j:Nat)(x:Str):Prop:=∃(i:Nat)(b:Bool),is[j]? =some i∧Sg.names[i]? =some (x,b)∧(b=true∨x∈Sg.stor)
structure IH(h:Heap)(cl:List (Str×Addr)):Prop where
 cel:∀x c,cl.lookup x=some c→∃v,h.IsCell c v
 inj:∀x y c,cl.lookup x=some c→cl.lookup y=some c→x=y
theorem IH.nil(h:Heap):IH h []:=⟨λV V e=>by simp at e,λV V V e=>by simp at e⟩
noncomputable def AX(k:Nat):List LV:=List.replicate k .unset
theorem QA{k i:Nat}{lv:LV}(e:(AX k)[i]? =some lv):lv=.unset:=List.eq_of_mem_replicate (List.mem_of_getElem? e)
section
variable{prog:Program}{w:World}{AA:Heap}{n:Nat}{Sg:AP}{mg mb:Str→Option Value}
theorem B0.nolim{env:Env}{hid:Addr→Prop}{he h:Heap}{ow la:List Addr}{ρ:List LV}(B:B0 AA mg mb)(S:AV AA Sg env hid he ow la h ρ):h.NoLimit:=B.lim.elim λmc q=>⟨mc,(q.1.keeps S.base).keeps S.keep,q.2⟩
inductive kK(AA:Heap)(Sg:AP)(env:Env)(hid:Addr→Prop)(h h':Heap)(names:List (Str×NameKind))(cl:List (Str×Addr)):Prop
 |mk (ow:List Addr):AV AA Sg env hid h ow (List.replicate Sg.names.length 0) h' (AX Sg.names.length)→(∀b∈ow,h.get? b=none)→A3 h h'→(∀x c,env.cells.lookup x=some c→(h.get? c=none∧(x,NameKind.cell)∈names)∨cl.lookup x=some c)→kK AA Sg env hid h h' names cl
theorem bT{s:Shared}{hid:Addr→Prop}{scope:Scope}{cl:List (Str×Addr)}{cls:Value}{env:Env}(hb:A3 AA s.heap)(K:D7 hid s.heap)(C:IH s.heap cl)
  (hL:env.locals=s.heap.objs.size)(hc:env.cells=cellsFrom (s.heap.objs.size+1) scope.names cl)(hsto:∀x∈Sg.stor,(x,NameKind.cell)∈scope.names):
  kK AA Sg env hid s.heap (pushCells (s.heap.push {cls:=cls,data:=.dict #[]}) scope.names) scope.names cl:=by
 have g:A3 s.heap (pushCells (s.heap.push {cls:=cls,data:=.dict #[]}) scope.names):=(A3.push _ _).trans λb o e=>pushCells_keeps _ _ b o e;have hsz:(s.heap.push {cls:=cls,data:=.dict #[]}).objs.size=s.heap.objs.size+1:=Heap.size_push ..;have ok:=cellsFrom_ok scope.names (s.heap.push {cls:=cls,data:=.dict #[]}) (s.heap.objs.size+1) [] ⟨λV V hm=>(nomatch hm),.nil⟩ (Nat.le_of_eq hsz.symm);have hL':(pushCells (s.heap.push {cls:=cls,data:=.dict #[]}) scope.names).get? env.locals=some {cls:=cls,data:=.dict #[]}:=hL▸pushCells_keeps _ _ _ _ (Heap.get?_push_size _ rfl);rw[hsz]at ok;generalize pushCells (s.heap.push {cls:=cls,data:=.dict #[]}) scope.names=h' at g ok hL'⊢
 rw[T4]at hc;have own_new:∀x c,(x,c)∈cellsFrom (s.heap.objs.size+1) scope.names []→s.heap.get? c=none:= λx c h=>Heap.get?_none_of_le (Nat.le_of_succ_le (ok.empty x c h).2);have look:∀x c,env.cells.lookup x=some c→(x,c)∈cellsFrom (s.heap.objs.size+1) scope.names []∨cl.lookup x=some c:= λx c e=>by
  rw[hc]at e;cases q:(cellsFrom (s.heap.objs.size+1) scope.names []).lookup x with
  |some c'=>exact .inl (Option.some.inj ((p8 q).symm.trans e)▸mem_of_lookup q)
  |none=>exact .inr ((dB q).symm.trans e)
 have new:∀b∈env.locals::(cellsFrom (s.heap.objs.size+1) scope.names []).map (·.2),s.heap.get? b=none:=D4 (hL▸DT _) λb m=>(List.mem_map.mp m).elim λp q=>q.2▸own_new p.1 p.2 q.1;have nocl:∀{x y c},(x,c)∈cellsFrom (s.heap.objs.size+1) scope.names []→cl.lookup y=some c→x=y:= λh1 h2=>(C.cel _ _ h2).elim λv t=>t.elim λo e=>BO (own_new _ _ h1) e.1;exact⟨env.locals::(cellsFrom (s.heap.objs.size+1) scope.names []).map (·.2),{
  base:=hb
  keep:=g
  hlt:= λb q=>(K b q).elim λo e=>⟨λm=>BO (new b m) e,o,g _ _ e⟩
  owr:= λb m=>⟨new b m,D4 (P:= λb=>∃o,h'.get? b=some o) ⟨_,hL'⟩ (λb m=>(List.mem_map.mp m).elim λp q=>q.2▸(ok.empty p.1 p.2 q.1).1.elim λo e=>⟨o,e.1⟩) b m⟩
  loc:=.head _
  ns:=⟨λV=>none,_,#[],0,hL',rfl,λV he=>(nomatch he),λV=>rfl⟩
  cel:= λx c e=>(look x c e).elim (λh=>⟨none,(ok.empty x c h).1⟩) λh=>(C.cel x c h).elim λv hv=>⟨v,hv.keeps g⟩
  inj:= λx y c e1 e2=>(look x c e1).elim (λh1=>(look y c e2).elim (λh2=>name_of_addr ok.apart h1 h2) (nocl h1)) λh1=>(look y c e2).elim (λh2=>(nocl h2 h1).symm) (C.inj x y c h1)
  sto:= λx hx=>(yR (hsto x hx)).elim λc hm=>(Ii hm).elim λc' hl=>⟨c',by rw[hc];exact p8 hl,.tail _ (List.mem_map.mpr ⟨(x,c'),mem_of_lookup hl,rfl⟩)⟩
  len:=List.length_replicate
  lal:=List.length_replicate
  slot:= λi x b l lv V V a3=>by rw[QA a3];trivial
  lad:= λi j l k k' ds es a1=>nomatch QA a1},new,g,λx c e=>(look x c e).imp_left λq=>⟨own_new x c q,Z8 q⟩⟩
theorem fE{env:Env}{A:Around}{hid:Addr→Prop}{he:Heap}{E:Value→Shared→Prop}(H:CN Sg env){f:Str×Value→PUnit→Sem (ForInStep PUnit)}(hf:∀n v u,f (n,v) u=(do storeName env n v;pure (.yield ⟨⟩)))
  {binds:List (Str×Value)}{is:List Nat}{ds:List D}{s:Shared}{ow la:List Addr}{ρ:List LV}{Q:PUnit→Shared→Prop}(ht:∀(j:Nat)(x:Str)(v:Value),binds[j]? =some (x,v)→M3 Sg is j x)(hl:binds.length=is.length)
  (S:AV AA Sg env hid he ow la s.heap ρ)(hd:AJ (AL s.heap (AY hid ow)) (binds.map (·.2)) ds)(h:∀s',Mv ow ow s s'→AV AA Sg env hid he ow la s'.heap (A4 ρ is ds)→Q ⟨⟩ s'):
  wpAny (model prog w) A (forIn binds ⟨⟩ f) Q E s:=by
 induction binds generalizing is ds s ρ with
 |nil=>
  have e1:is=[]:=List.length_eq_zero_iff.mp hl.symm;subst e1;exact wpAny_pure (h s (Mv.refl _ _) (by cases ds<;>exact S))
 |cons p binds ih=>
  cases ds with
  |nil=>exact nomatch hd.nil_inv
  |cons d ds=>
   obtain⟨v,vs,q,hv,hd⟩:=hd.cons_inv;have q1:p.2=v:=(List.cons.inj q).1;have q2:binds.map (·.2)=vs:=(List.cons.inj q).2;refine(ht 0 p.1 p.2 rfl).elim λi r=>r.elim λb r=>?_;cases is with
   |nil=>exact nomatch r.1
   |cons i' is=>
    have e:=Option.some.inj r.1;subst e;rw[List.forIn_cons,hf];exact wpAny_bind (wpAny_bind (QF H S r.2.1 r.2.2 (by rw[q1];exact hv) λAB m hvis BS=>wpAny_pure (ih (λj y u e=>ht (j+1) y u e) (Nat.succ.inj hl) BS (by rw[q2];exact hd.mono hvis) λs' m' S'=>h s' (m.trans m') S')))
theorem tJ{A:Around}{s:Shared}{E:Value→Shared→Prop}{Q:Env→Shared→Prop}{hid:Addr→Prop}{scope:Scope}{cl:List (Str×Addr)}{qual:Str}{func:Option Addr}{code:Value}{binds:List (Str×Value)}(hb:A3 AA s.heap)(K:D7 hid s.heap)(C:IH s.heap cl)
  (hsto:∀x∈Sg.stor,(x,NameKind.cell)∈scope.names)(hE:∀env:Env,env.scope=scope→env.globals=mainGlobals→env.builtins=builtinsNs→CN Sg env)
  (h:∀env h' ow,CN Sg env→env.locals=s.heap.objs.size→AV AA Sg env hid s.heap ow (List.replicate Sg.names.length 0) h' (AX Sg.names.length)→(∀b∈ow,s.heap.get? b=none)→A3 s.heap h'→(∀a o,AL s.heap hid a o→AL h' (AY hid ow) a o)→(∀x c,(x,NameKind.cell)∉scope.names→cl.lookup x=some c→env.cells.lookup x=some c)→
   wpAny (model prog w) A (forIn binds PUnit.unit λp V=>do storeName env p.1 p.2;pure (.yield ⟨⟩)) (λV s'=>Q env s') E {s with heap:=h'}):
  wpAny (model prog w) A (newFunctionEnv scope mainGlobals cl binds qual func code none builtinsNs) Q E s:=by
 unfold newFunctionEnv;refine wpAny_bind (wpAny_alloc (wpAny_bind (wpAny_layCells _ (λV V V=>rfl) _ _ _ _ ?_)));dsimp only[Option.isSome];rw[show(s.heap.push {cls:=.type (if false=true then "dict" else "frame"),data:=.dict #[]}).objs.size=s.heap.objs.size+1 from Heap.size_push ..];have hlk:∀x c,(x,NameKind.cell)∉scope.names→cl.lookup x=some c→(cellsFrom (s.heap.objs.size+1) scope.names cl).lookup x=some c:= λx c h1 h2=>by
  rw[T4,dB (Option.eq_none_iff_forall_ne_some.mpr λc' q=>h1 (Z8 (mem_of_lookup q))),h2]
 exact(bT (Sg:=Sg) (scope:=scope) (cls:=.type "frame") (env:={scope,locals:=s.heap.objs.size,globals:=mainGlobals,cells:=cellsFrom (s.heap.objs.size+1) scope.names cl,qual,func,code,frame:=some s.heap.objs.size,builtins:=builtinsNs}) hb K C rfl rfl hsto).casesOn
  λow S hown gr V=>wpAny_bind (BD (h _ _ ow (hE _ rfl rfl rfl) rfl S hown gr (λa o e=>⟨gr _ _ e.1,λq=>q.elim e.2 λq=>BO (hown a q) e.1⟩) hlk) λV V q=>wpAny_pure q)
theorem tN{A:Around}{s:Shared}{E:Value→Shared→Prop}{Q:Env→Shared→Prop}{hid:Addr→Prop}{scope:Scope}{cl:List (Str×Addr)}{qual:Str}{func:Option Addr}{code:Value}{binds:List (Str×Value)}{is:List Nat}{ds:List D}(hb:A3 AA s.heap)(K:D7 hid s.heap)(C:IH s.heap cl)
  (hsto:∀x∈Sg.stor,(x,NameKind.cell)∈scope.names)(hE:∀env:Env,env.scope=scope→env.globals=mainGlobals→env.builtins=builtinsNs→CN Sg env)
  (ht:∀(j:Nat)(x:Str)(v:Value),binds[j]? =some (x,v)→M3 Sg is j x)(hl:binds.length=is.length)(hd:AJ (AL s.heap hid) (binds.map (·.2)) ds)
  (h:∀env s' ow la,CN Sg env→AV AA Sg env hid s.heap ow la s'.heap (A4 (AX Sg.names.length) is ds)→Sm s s'→(∀a o,AL s.heap hid a o→AL s'.heap (AY hid ow) a o)→(∀x c,(x,NameKind.cell)∉scope.names→cl.lookup x=some c→env.cells.lookup x=some c)→Q env s'):
  wpAny (model prog w) A (newFunctionEnv scope mainGlobals cl binds qual func code none builtinsNs) Q E s:=
 tJ hb K C hsto hE λenv h' ow HE V S hown V gv hlk=>fE HE (λV V V=>rfl) ht hl (s:={s with heap:=h'}) S (hd.mono gv) λs' m S'=>h env s' ow _ HE S' (m.sh.elim λh q=>q.elim λt q=>⟨h,t,q⟩) (λa o e=>⟨m.kp a o (λq=>BO (hown a q) e.1) (gv a o e).1,(gv a o e).2⟩) hlk
theorem B9.room{A:Around}(h:B9 (n+1) A):A.depth<recursionLimit:=by
 have:=h.2.1;show A.depth<1000;lia
theorem B9.deeper{A:Around}{env:Env}(h:B9 (n+1) A):B9 n (A.deeper env):=by
 obtain⟨a,b,c⟩:=h;refine⟨a,?_,?_⟩
 ·show A.depth+1+n≤900;lia
 ·show A.units+3+40*n≤9000;lia
theorem QQ.den{env:Env}{hid:Addr→Prop}{he h:Heap}{ow la:List Addr}{ρ:List LV}{v:Value}{d:D}(S:AV AA Sg env hid he ow la h ρ)(r:QQ h hid ow v d):AQ (AL h hid) v d:=by
 rcases r with r|⟨l,vs,ds,e0,rfl,rfl,⟨k,e3⟩,e4⟩
 ·exact r.mono (GN λa q=>.inl q)
 ·exact .lst ⟨e3,λq=>(S.hlt l q).1 e0⟩ (e4.mono (GN λa q=>.inl q))
noncomputable def Js(o:AC):Option D:=AC.casesOn o (some .none) none none some
def DB(F:PF)(ρ:List LV):Option D:=(F ρ).bind λr=>Js r.1
theorem Sm.kp{a b c:Shared}(x:Sm a b)(y:Sm b c)(g:A3 a.heap c.heap):Kp a c:=(x.trans y).elim λh q=>q.elim λt q=>⟨h,t,q,by rw[q]at g;exact g⟩
theorem Ai{A:Around}{s:Shared}{hid:Addr→Prop}{fa:Addr}{o:Obj}{fd:FuncData}{body:List Stmt}{args:Args}{binds:List (Str×Value)}{is:List Nat}{ds:List D}{d:D}{F:PF}(B:B0 AA mg mb)(hA:B9 (n+1) A)(hb:A3 AA s.heap)(K:D7 hid s.heap)
  (ho:s.heap.get? fa=some o)(hdt:o.data=.func fd)(hco:fd.scope.isCoroutine=false)(hgen:fd.scope.isGenerator=false)(hbody:fd.body=.stmts body)(hcd:s.heap.CodeRec fd.code fd.qualname)(hgl:fd.globals=mainGlobals)(hbi:fd.builtins=builtinsNs)(hcl:fd.closure=[])
  (hsto:∀x∈Sg.stor,(x,NameKind.cell)∈fd.scope.names)(hE:∀env:Env,env.scope=fd.scope→env.globals=mainGlobals→env.builtins=builtinsNs→CN Sg env)
  (hbind:BindsTo s fd args binds)
  (ht:∀(j:Nat)(x:Str)(v:Value),binds[j]? =some (x,v)→M3 Sg is j x)(hl:binds.length=is.length)(hd:AJ (AL s.heap hid) (binds.map (·.2)) ds)
  (hP:PS prog w AA n Sg body F)(hF:DB F (A4 (AX Sg.names.length) is ds)=some d){R:Result→Shared→Prop}
  (hR:∀v s',AQ (AL s'.heap hid) v d→Kp s s'→R (.ok (.ret v)) s'):
  codeAny (model prog w) A (.call (.ref fa) args) R s:=by
 refine codeAny_call_function (hA.room) ho hdt hco hgen hbody hcd (hbind _ _ _ _ ?_);rw[hgl,hbi,hcl];exact tN (Sg:=Sg) hb K (IH.nil _) hsto hE ht hl hd λenv AB ow la HE S sh V V=>⟨B.nolim S,codeAny_func (AK hF λr hr ho=>BD (hP env (A.deeper env) AB _ r.2 r.1 hid s.heap ow la _ HE hA.deeper S hr) λfl AF x=>x.casesOn λSo Sd B4 VA J7=>by
  have kp:=sh.kp J7.sh B4.keep;generalize r.1=out at ho VA
  cases out with
  |ret d'=>
   obtain⟨v,e⟩:=Ju VA;subst e;exact hR v AF (Option.some.inj ho▸QQ.den B4 VA) kp
  |next=>rw[dY VA];exact hR _ _ (Option.some.inj ho▸ .none) kp
  |brk=>exact nomatch ho
  |cont=>exact nomatch ho)⟩
end
structure HD(Sg:AP)(scope:Scope):Prop where
 kind:scope.kind=.function
 loc:∀(i:Nat)(x:Str),Sg.names[i]? =some (x,true)→scope.names.lookup x=some .local
 cel:∀(i:Nat)(x:Str),Sg.names[i]? =some (x,false)→scope.names.lookup x=some .cell∨scope.names.lookup x=some .free
 glo:∀(i:Nat)(x:Str),Sg.globs[i]? =some x→scope.names.lookup x=some .globalImplicit
 sto:∀x∈Sg.stor,scope.names.lookup x=some .cell
 nod:(Sg.names.map (·.1)).Nodup
 dbg:∀(i:Nat)(x:Str)(b:Bool),Sg.names[i]? =some (x,b)→(x==("__debug__":Str))=false∧(x==("__classdict__":Str))=false
 dbgG:∀(i:Nat)(x:Str),Sg.globs[i]? =some x→(x==("__debug__":Str))=false
 loclook:∀x∈scope.names,x.2=.local→scope.names.lookup x.1=some .local
 freelook:∀x∈scope.names,x.2=.cell→scope.names.lookup x.1=some .cell
 nocode:Sg.code=none
noncomputable def rZ(Sg:AP)(scope:Scope):Bool:=
 scope.kind== .function&&Sg.names.all (λp=>if p.2 then scope.names.lookup p.1==some .local else(scope.names.lookup p.1==some .cell||scope.names.lookup p.1==some .free))&&
 Sg.globs.all (λx=>scope.names.lookup x==some .globalImplicit)&&Sg.stor.all (λx=>scope.names.lookup x==some .cell)&&decide ((Sg.names.map (·.1)).Nodup)&&
 Sg.names.all (λp=> !(p.1==("__debug__":Str))&& !(p.1==("__classdict__":Str)))&&Sg.globs.all (λx=> !(x==("__debug__":Str)))&&
 scope.names.all (λp=>p.2!= .local||scope.names.lookup p.1==some .local)&&scope.names.all (λp=>p.2!= .cell||scope.names.lookup p.1==some .cell)&&Sg.code==none
theorem xD{a b c d e f g h i j:Bool}{P:Prop}(q:(a&&b&&c&&d&&e&&f&&g&&h&&i&&j)=true)(k:a=true→b=true→c=true→d=true→e=true→f=true→g=true→h=true→i=true→j=true→P):P:=
 HF q λq j=>HF q λq i=>HF q λq h=>HF q λq g=>HF q λq f=>HF q λq e=>HF q λq d=>HF q λq c=>HF q λa b=>k a b c d e f g h i j
theorem QV{α:Type}{p:α→Bool}{l:List α}{i:Nat}{a:α}(h:l.all p=true)(e:l[i]? =some a):p a=true:=List.all_eq_true.mp h a (List.mem_of_getElem? e)
theorem dN{b:Bool}(h:(!b)=true):b=false:=by cases b<;>first|rfl|exact nomatch h
theorem pB{k:NameKind}{b:Bool}(h:(k !=k||b)=true):b=true:=by rw[bne_self_eq_false]at h;exact h
theorem E2{Sg:AP}{scope:Scope}(h:rZ Sg scope=true):HD Sg scope:=
 xD h λh1 h2 h3 h4 h5 h6 h7 h8 h9 h10=>⟨eq_of_beq h1,λi x e=>(have q:=QV h2 e;eq_of_beq q),λi x e=>(have q:=QV h2 e;(Bool.or_eq_true_iff.mp q).imp eq_of_beq eq_of_beq),λi x e=>(have q:=QV h3 e;eq_of_beq q),λx hx=>eq_of_beq (List.all_eq_true.mp h4 x hx),of_decide_eq_true h5,
  λi x b e=>(have q:=QV h6 e;HF q λa b=>⟨dN a,dN b⟩),λi x e=>(have q:=QV h7 e;dN q),λx hx hl=>eq_of_beq (pB (hl▸List.all_eq_true.mp h8 x hx)),λx hx hl=>eq_of_beq (pB (hl▸List.all_eq_true.mp h9 x hx)),eq_of_beq h10⟩
theorem HD.env{Sg:AP}{scope:Scope}(h:HD Sg scope)(env:Env)(h1:env.scope=scope)(h2:env.globals=mainGlobals)(h3:env.builtins=builtinsNs):CN Sg env:=by
 subst h1;exact⟨h.kind,h2,h3,h.loc,h.cel,h.glo,h.sto,h.nod,h.dbg,h.dbgG,λc q e=>by rw[h.nocode]at e;cases e⟩
noncomputable def SE(env:Env)(n:Str)(k:NameKind):NameKind:=if(k==NameKind.free&&env.scope.kind== .function&&env.kindOf n==some .cell)then NameKind.cell else k
theorem Ik{env:Env}{names:List (Str×NameKind)}{x:Str}{k:NameKind}(h:names.lookup x=some k):
  (names.map λ(n,k)=>if(k==NameKind.free&&env.scope.kind== .function&&env.kindOf n==some .cell)then(n,NameKind.cell)else(n,k)).lookup x=some k∨
  (k=.free∧(names.map λ(n,k)=>if(k==NameKind.free&&env.scope.kind== .function&&env.kindOf n==some .cell)then(n,NameKind.cell)else(n,k)).lookup x=some .cell):=by
 have e:(λp:Str×NameKind=>if(p.2==NameKind.free&&env.scope.kind== .function&&env.kindOf p.1==some .cell)then(p.1,NameKind.cell)else p)= λp=>(p.1,SE env p.1 p.2):=funext λp=>by
  unfold SE;by_cases q:(p.2==NameKind.free&&env.scope.kind== .function&&env.kindOf p.1==some .cell)=true
  ·rw[if_pos q,if_pos q]
  ·rw[if_neg q,if_neg q]
 refine(?_:(names.map λp=>if(p.2==NameKind.free&&env.scope.kind== .function&&env.kindOf p.1==some .cell)then(p.1,NameKind.cell)else p).lookup x=_∨_∧(names.map λp=>if(p.2==NameKind.free&&env.scope.kind== .function&&env.kindOf p.1==some .cell)then(p.1,NameKind.cell)else p).lookup x=_);rw[e];clear e
 induction names with
 |nil=>exact nomatch h
 |cons p r ih=>
  rw[List.map_cons,List.lookup_cons];rw[List.lookup_cons]at h;cases hx:x==p.1 with
  |false=>rw[hx]at h;exact ih h
  |true=>
   rw[hx]at h;have h:=Option.some.inj h;subst h;refine(?_:some (SE env p.1 p.2)=_∨_∧some (SE env p.1 p.2)=_);unfold SE;by_cases q:(p.2==NameKind.free&&env.scope.kind== .function&&env.kindOf p.1==some .cell)=true
   ·rw[if_pos q];exact .inr ⟨eq_of_beq (Bool.and_eq_true_iff.mp (Bool.and_eq_true_iff.mp q).1).1,rfl⟩
   ·rw[if_neg q];exact .inl rfl
theorem HD.relab{Sg:AP}{scope:Scope}(h:HD Sg scope)(outer env:Env)(h1:env.scope=relabel scope outer)(h2:env.globals=mainGlobals)(h3:env.builtins=builtinsNs):CN Sg env:=by
 have lk:∀{x k},scope.names.lookup x=some k→env.kindOf x=some k∨(k=.free∧env.kindOf x=some .cell):= λ{x k} e=>by
  show env.scope.names.lookup x=_∨_∧env.scope.names.lookup x=_;rw[h1];exact Ik e
 exact⟨by rw[h1];exact h.kind,h2,h3,λi x e=>(lk (h.loc i x e)).elim id λq=>(nomatch q.1),λi x e=>(h.cel i x e).elim (λq=>.inl ((lk q).elim id λq=>(nomatch q.1))) λq=>(lk q).elim .inr λq=>.inl q.2,λi x e=>(lk (h.glo i x e)).elim id λq=>(nomatch q.1),λx e=>(lk (h.sto x e)).elim id λq=>(nomatch q.1),h.nod,h.dbg,h.dbgG,λc q e=>AI (h.nocode.symm.trans e)⟩
structure t8(env:Env)(names:List (Str×NameKind))(acc cl:List (Str×Addr)):Prop where
 old:∀x c,cl.lookup x=some c→acc.lookup x=some c∨env.cells.lookup x=some c
 free:∀x,(x,NameKind.free)∈names→cl.lookup x=env.cells.lookup x
 rest:∀x,(x,NameKind.free)∉names→cl.lookup x=acc.lookup x
theorem Ae(env:Env)(f:Str×NameKind→List (Str×Addr)→Sem (ForInStep (List (Str×Addr))))(hf:∀y k cs,f (y,k) cs=if(k==NameKind.free)=true then(do let a ←cellOf env y;pure (ForInStep.yield ((y,a)::cs)))else pure (ForInStep.yield cs))(names:List (Str×NameKind))(acc:List (Str×Addr))(h:∀x,(x,NameKind.free)∈names→∃c,env.cells.lookup x=some c):
  ∃cl,(forIn names acc f:Sem _)=pure cl∧t8 env names acc cl:=by
 induction names generalizing acc with
 |nil=>exact⟨acc,rfl,λV V e=>.inl e,λV h=>(nomatch h),λV V=>rfl⟩
 |cons p r ih=>
  have ht:∀x,(x,NameKind.free)∈r→∃c,env.cells.lookup x=some c:= λx hx=>h x (.tail _ hx);rw[List.forIn_cons,hf];by_cases hk:(p.2==NameKind.free)=true
  ·have hp:p=(p.1,NameKind.free):=Prod.ext rfl (eq_of_beq hk);rw[if_pos hk];refine(h p.1 (hp▸ .head _)).elim λc hc=>(ih ((p.1,c)::acc) ht).elim λcl q=>⟨cl,?_,λx c' e=>(q.2.old x c' e).elim (λz=>?_) .inr,λx hx=>?_,λx hx=>?_⟩
   ·rw[show cellOf env p.1=pure c by unfold cellOf;rw[hc]];exact q.1
   ·rw[List.lookup_cons]at z;cases hb:x==p.1 with
    |true=>rw[hb]at z;rw[eq_of_beq hb,hc,←Option.some.inj z];exact .inr rfl
    |false=>rw[hb]at z;exact .inl z
   ·by_cases hx':(x,NameKind.free)∈r
    ·exact q.2.free x hx'
    ·have e:x=p.1:=(Prod.mk.inj ((List.mem_cons.mp hx).resolve_right hx')).1;subst e;rw[q.2.rest _ hx',List.lookup_cons_self,hc]
   ·rw[q.2.rest x λq=>hx (.tail _ q),List.lookup_cons];cases hb:x==p.1 with
    |true=>exact absurd (hp▸eq_of_beq hb▸ .head _) hx
    |false=>rfl
  ·rw[if_neg hk];exact(ih acc ht).elim λcl q=>⟨cl,q.1,q.2.old,λx hx=>(List.mem_cons.mp hx).elim (λq=>absurd (q▸rfl) hk) (q.2.free x),λx hx=>q.2.rest x λq=>hx (.tail _ q)⟩
theorem l8(scope:Scope)(env:Env)(h:∀x,(x,NameKind.free)∈scope.names→∃c,env.cells.lookup x=some c):
  ∃cl,closureFor scope env=pure cl∧(∀x c,cl.lookup x=some c→env.cells.lookup x=some c)∧(∀x,(x,NameKind.free)∈scope.names→cl.lookup x=env.cells.lookup x):=by
 unfold closureFor;refine(Ae env (λp cs=>if(p.2==NameKind.free)=true then(do let a ←cellOf env p.1;pure (ForInStep.yield ((p.1,a)::cs)))else pure (ForInStep.yield cs)) (λV V V=>rfl) scope.names [] h).elim λcl q=>⟨cl,?_,λx c e=>(q.2.old x c e).resolve_left nofun,q.2.free⟩;show(forIn scope.names [] _>>=_)=pure cl;rw[q.1];rfl
theorem IH.sub{AA:Heap}{Sg:AP}{env:Env}{hid:Addr→Prop}{he:Heap}{ow la:List Addr}{h:Heap}{ρ:List LV}(S:AV AA Sg env hid he ow la h ρ){cl:List (Str×Addr)}(hc:∀x c,cl.lookup x=some c→env.cells.lookup x=some c):IH h cl:=
 ⟨λx c e=>S.cel x c (hc x c e),λx y c e1 e2=>S.inj x y c (hc x c e1) (hc y c e2)⟩
def C0(ρ:List LV):List (Nat×Nat)→List LV→Option (List LV)
 |[],ρi=>some ρi
 |p::r,ρi=>(AD p.2 ρ).bind λd=>C0 ρ r (ρi.set p.1 (.d d))
theorem pK{ρ:List LV}{kn:List (Nat×Nat)}{ρi ρk:List LV}(h:C0 ρ kn ρi=some ρk):ρk.length=ρi.length∧(∀k,(∀p∈kn,p.1≠k)→ρk[k]? =ρi[k]?)∧(∀p∈kn,∃d,ρ[p.2]? =some (.d d)):=by
 induction kn generalizing ρi with
 |nil=>exact Option.some.inj h▸⟨rfl,λV V=>rfl,λV h=>nomatch h⟩
 |cons p r ih=>exact AK h λd hd h=>(ih h).elim λa q=>⟨a.trans List.length_set,λk hk=>(q.1 k λp hp=>hk p (.tail _ hp)).trans (List.getElem?_set_ne (hk p (.head _))),D4 ⟨d,O9 hd⟩ q.2⟩
theorem AV.learn{AA:Heap}{Sg:AP}{env:Env}{hid:Addr→Prop}{he:Heap}{ow la:List Addr}{h:Heap}{ρ:List LV}(S:AV AA Sg env hid he ow la h ρ){i:Nat}{x:Str}{b:Bool}(hn:Sg.names[i]? =some (x,b))(hnod:(Sg.names.map (·.1)).Nodup){d:D}{v:Value}(hv:EG env h x b v)(hd:AQ (AL h (AY hid ow)) v d):
  AV AA Sg env hid he ow la h (ρ.set i (.d d)):=by
 exact{S with
  len:=List.length_set.trans S.len
  slot:= λj y b' l lv a1 a2 a3=>H' a3 (λq e=>by
    subst q e;have r:=Prod.mk.inj (Option.some.inj (a1.symm.trans hn));rw[r.1,r.2];exact⟨v,hv,hd⟩) λV a3=>S.slot j y b' l lv a1 a2 a3
  lad:= λj k l kj kk ds es a1 a2=>H' a1 (λV q=>nomatch q) λV a1=>H' a2 (λV q=>nomatch q) λV a2=>S.lad j k l kj kk ds es a1 a2}
theorem AV.forget{AA:Heap}{Sg:AP}{env:Env}{hid:Addr→Prop}{he:Heap}{ow la:List Addr}{h:Heap}{ρ ρ':List LV}(S:AV AA Sg env hid he ow la h ρ)(hl:ρ'.length=ρ.length)(hk:∀k:Nat,ρ'[k]? =ρ[k]? ∨ρ'[k]? =some .unset):AV AA Sg env hid he ow la h ρ':=
 have own:∀{j:Nat}{kk:BE}{ds:List D},ρ'[j]? =some (LV.own kk ds)→ρ[j]? =some (LV.own kk ds):= λ{j kk ds} e=>(hk j).elim (λq=>q.symm.trans e) λq=>nomatch q.symm.trans e
 {S with
  len:=hl.trans S.len
  slot:= λj y b' l lv a1 a2 a3=>(hk j).elim (λq=>S.slot j y b' l lv a1 a2 (q.symm.trans a3)) λq=>Option.some.inj (q.symm.trans a3)▸trivial
  lad:= λj k l kj kk ds es a1 a2=>S.lad j k l kj kk ds es (own a1) (own a2)}
noncomputable def B2(g:D→Option (Option D)):List D→Option (List D)
 |[]=>some []
 |d::ds=>(g d).bind λo=>(B2 g ds).map λr=>match o with|some y=>y::r|none=>r
section
variable{prog:Program}{w:World}{AA:Heap}{n:Nat}{Sg:AP}{mg mb:Str→Option Value}
def M2(prog:Program)(w:World)(AA:Heap)(n:Nat)(Sg:AP)(ifs:List Expr)(f:TF):Prop:=
 ∀(env:Env)(A:Around)(s:Shared)(ρ:List LV)(b:Bool)(hid:Addr→Prop)(he:Heap)(ow la:List Addr)(E:Value→Shared→Prop),
  CN Sg env→B9 n A→AV AA Sg env hid he ow la s.heap ρ→f ρ=some b→
  wpAny (model prog w) A (forIn ifs true λc r=>if r=true then do let ok ←isTrue c env (eval c env);pure (ForInStep.yield ok)else pure (ForInStep.yield r)) (BP b s) E s
theorem HA:M2 prog w AA n Sg [] (λV=>some true):=by
 intro env A s ρ b hid he ow la E H hA S hf;cases hf;exact wpAny_tests_nil ⟨rfl,Kp.refl _⟩
theorem SA{c:Expr}{f:TF}(h:PT prog w AA n Sg c f):M2 prog w AA n Sg [c] f:=by
 intro env A s ρ b hid he ow la E H hA S hf;exact wpAny_tests_one (h env A s ρ b hid he ow la E H hA S hf)
theorem An{A:Around}{R:Result→Shared→Prop}{s:Shared}{elt target iter:Expr}{ifs:List Expr}{scope:Scope}{pos:Pos}{it acc:Value}{env:Env}(I:Nat→Shared→Prop)
  (turn:∀n s,I n s→wpAny (model prog w) A (pyNext it) (λr AB=>match r with
   |none=>R (.ok .next) AB
   |some v=>wpAny (model prog w) A (letOwnedTupleGo target it v) (λV CA=>wpAny (model prog w) A (assign target env v) (λV AF=>
     wpAny (model prog w) A (forIn ifs true λc r=>if r=true then do let ok ←isTrue c env (eval c env);pure (ForInStep.yield ok)else pure (ForInStep.yield r)) (λok BI=>
      if ok=true then wpAny (model prog w) A (eval elt env) (λx CS=>
       wpAny (model prog w) A (call (.builtin "list.append") [acc,x]) (λV KC=>∃m,m<n∧I m KC) (notedBy (model prog w) A env λe s'=>R (.error e) s') CS) (notedBy (model prog w) A env λe s'=>R (.error e) s') BI
      else∃m,m<n∧I m BI) (notedBy (model prog w) A env λe s'=>R (.error e) s') AF) (notedBy (model prog w) A env λe s'=>R (.error e) s') CA) (notedBy (model prog w) A env λe s'=>R (.error e) s') AB) (notedBy (model prog w) A env λe s'=>R (.error e) s') s)
  (n:Nat)(h:I n s):
  codeAny (model prog w) A (.compLoop (.ListComp elt [⟨target,iter,ifs,0⟩] scope pos) 0 it acc env) R s:=by
 refine codeAny_loop rfl I (λn s hI=>?_) n h;show wpAny _ A ((compTurn (.ListComp elt [⟨target,iter,ifs,0⟩] scope pos) 0 it acc env).onRaise (λx=>do noteFrame x env;theTreesLotGoes x)) _ _ s;refine wpAny_noted ?_;rw[compTurn_list];refine wpAny_bind (wpAny_standAt (wpAny_bind (BD (turn n s hI) λr AB CT=>?_)));cases r with
 |none=>exact wpAny_pure CT
 |some v=>
  refine wpAny_bind (BD CT λV CA h₀=>wpAny_bind (BD h₀ λV AF GG=>wpAny_bind (BD GG λok BI J3=>?_)));cases ok with
  |false=>exact wpAny_pure ⟨rfl,J3⟩
  |true=>exact wpAny_bind (wpAny_bind (BD J3 λx CS PB=>wpAny_bind (BD PB λV KC RJ=>wpAny_pure (wpAny_pure ⟨rfl,RJ⟩))))
theorem dJ{l:List (Str×NameKind)}{x:Str}{k:NameKind}(h:l.lookup x=some k):(x,k)∈l:=by
 induction l with
 |nil=>exact nomatch h
 |cons p l ih=>
  rw[List.lookup_cons]at h;cases hb:x==p.1 with
  |true=>rw[hb]at h;rw[eq_of_beq hb,←Option.some.inj h];exact .head _
  |false=>rw[hb]at h;exact .tail _ (ih h)
theorem Pz{A:Around}{s:Shared}{E:Value→Shared→Prop}{Q:Env→Shared→Prop}{outer:Env}{hid:Addr→Prop}{Sgi:AP}{scope:Scope}{cl:List (Str×Addr)}(hb:A3 AA s.heap)(K:D7 hid s.heap)(C:IH s.heap cl)(ok:HD Sgi scope)
  (h:∀(env:Env)(s':Shared)(ow:List Addr),env.scope=scope→env.globals=outer.globals→env.builtins=outer.builtins→env.cells=cellsFrom (s.heap.objs.size+1) scope.names cl→
   (∀env':Env,env'.locals=env.locals→env'.cells=env.cells→AV AA Sgi env' hid s.heap ow (List.replicate Sgi.names.length 0) s'.heap (AX Sgi.names.length))→(∀b∈ow,s.heap.get? b=none)→(∃h t,s'={s with heap:=h,toks:=t})→A3 s.heap s'.heap→(∀x c,env.cells.lookup x=some c→(s.heap.get? c=none∧(x,NameKind.cell)∈scope.names)∨cl.lookup x=some c)→Q env s'):
  wpAny (model prog w) A (newFunctionEnv scope outer.globals cl [] outer.qual none .none (some outer)) Q E s:=by
 unfold newFunctionEnv;refine wpAny_bind (wpAny_alloc (wpAny_bind (wpAny_layCells _ (λV V V=>rfl) _ _ _ _ ?_)));dsimp only[Option.isSome];rw[show(s.heap.push {cls:=.type (if true=true then "dict" else "frame"),data:=.dict #[]}).objs.size=s.heap.objs.size+1 from Heap.size_push ..];exact(bT (Sg:=Sgi) (scope:=scope) (cls:=.type "dict") (env:={scope,locals:=s.heap.objs.size,globals:=outer.globals,cells:=cellsFrom (s.heap.objs.size+1) scope.names cl,qual:=outer.qual,func:=none,code:=outer.code,frame:=outer.frame,builtins:=outer.builtins}) hb K C rfl rfl λx hx=>dJ (ok.sto x hx)).casesOn
  λow S hown gr hlk=>wpAny_bind (wpAny_pure (wpAny_pure (h _ _ ow rfl rfl rfl rfl (λenv' e1 e2=>{S with
   loc:=e1▸S.loc
   ns:=e1▸S.ns
   cel:=e2▸S.cel
   inj:=e2▸S.inj
   sto:=e2▸S.sto
   slot:= λi x b l lv a1 a2 a3=>QA a3▸trivial}) hown ⟨_,s.toks,rfl⟩ gr hlk)))
end
theorem Sz{h h':Heap}{hid:Addr→Prop}{wr:List Addr}(hw:∀b∈wr,hid b)(k:∀b o,b∉wr→h.get? b=some o→h'.get? b=some o):∀a o,AL h hid a o→AL h' hid a o:=
 λa o e=>⟨k a o (λq=>e.2 (hw a q)) e.1,e.2⟩
theorem AV.shrink{AA:Heap}{Sg:AP}{env:Env}{hid:Addr→Prop}{he he':Heap}{ow la:List Addr}{h:Heap}{ρ:List LV}(S:AV AA Sg env hid he ow la h ρ)(hb:A3 AA he')(k:A3 he' he):AV AA Sg env hid he' ow la h ρ:=
 {S with
  base:=hb
  keep:=k.trans S.keep
  owr:= λb m=>⟨FE k (S.owr b m).1,(S.owr b m).2⟩}
section
variable{prog:Program}{w:World}{AA:Heap}{n:Nat}{Sg:AP}{mg mb:Str→Option Value}
noncomputable def UQ(Sg Sgi:AP)(scope:Scope)(kn:List (Nat×Nat)):Bool:=
 kn.all (λp=>Sgi.names[p.1]?.any λq=>Sg.names[p.2]?.any λr=>q.1==r.1&& !q.2&& !r.2&&scope.names.contains (q.1,.free))&&
 scope.names.all (λq=>q.2!= .free||kn.any (λp=>Sgi.names[p.1]?.any λr=>r.1==q.1))&&
 scope.names.all (λq=>q.2!= .cell|| !scope.names.contains (q.1,.free))
structure YS(Sg Sgi:AP)(scope:Scope)(kn:List (Nat×Nat)):Prop where
 at_:∀p∈kn,∃x,Sgi.names[p.1]? =some (x,false)∧Sg.names[p.2]? =some (x,false)∧(x,NameKind.free)∈scope.names
 ex:∀x,(x,NameKind.free)∈scope.names→∃p∈kn,∃b,Sgi.names[p.1]? =some (x,b)
 no:∀x,(x,NameKind.free)∈scope.names→(x,NameKind.cell)∉scope.names
theorem UR{Sg Sgi:AP}{scope:Scope}{kn:List (Nat×Nat)}(h:UQ Sg Sgi scope kn=true):YS Sg Sgi scope kn:=by
 rw[UQ,Bool.and_eq_true,Bool.and_eq_true,List.all_eq_true,List.all_eq_true,List.all_eq_true]at h;refine⟨λp hp=>?_,λx hx=>?_,λx h1 h2=>?_⟩
 ·obtain⟨⟨x,b⟩,e1,q⟩:=(Option.any_eq_true ..).mp (h.1.1 p hp);obtain⟨⟨y,c⟩,e2,q⟩:=(Option.any_eq_true ..).mp q;simp only[Bool.and_eq_true,beq_iff_eq,Bool.not_eq_true',List.contains_iff_mem]at q;obtain⟨⟨⟨q1,q2⟩,q3⟩,q4⟩:=q;exact⟨x,q2▸e1,q1▸q3▸e2,q4⟩
 ·obtain⟨p,hp,q⟩:=List.any_eq_true.mp ((Bool.or_eq_true_iff.mp (h.1.2 _ hx)).resolve_left nofun);obtain⟨⟨y,c⟩,e,q⟩:=(Option.any_eq_true ..).mp q;exact⟨p,hp,c,(show y=x from beq_iff_eq.mp q)▸e⟩
 ·have:=(Bool.or_eq_true_iff.mp (h.2 _ h2)).resolve_left nofun;rw[List.contains_iff_mem.mpr h1]at this;exact nomatch this
theorem Gb{ρ ρi ρk:List LV}{p:Nat×Nat}{r:List (Nat×Nat)}{P:Prop}(h:C0 ρ (p::r) ρi=some ρk)(k:∀d,ρ[p.2]? =some (.d d)→C0 ρ r (ρi.set p.1 (.d d))=some ρk→P):P:=
 AK h λd hd h=>k d (O9 hd) h
theorem Gc{env cenv:Env}{Sgi:AP}{hid hid':Addr→Prop}{he he':Heap}{ow owc la lac:List Addr}{h h':Heap}{ρ:List LV}(S:AV AA Sg env hid he ow la h ρ)(hnod:(Sgi.names.map (·.1)).Nodup)(hg:A3 h h')
  (hv:∀a o,AL h (AY hid ow) a o→AL h' (AY hid' owc) a o){kn:List (Nat×Nat)}{ρi ρk:List LV}(hkn:∀p∈kn,∃x,Sgi.names[p.1]? =some (x,false)∧Sg.names[p.2]? =some (x,false)∧(∀c,env.cells.lookup x=some c→cenv.cells.lookup x=some c))(C:AV AA Sgi cenv hid' he' owc lac h' ρi)(e:C0 ρ kn ρi=some ρk):
  AV AA Sgi cenv hid' he' owc lac h' ρk:=by
 induction kn generalizing ρi with
 |nil=>exact Option.some.inj e▸C
 |cons p r ih=>
  obtain⟨x,h1,h2,hlook⟩:=hkn p (.head _);refine Gb e λd hd e=>(IA S h2 hd).elim λl q=>q.2.elim λv q=>q.1.elim λc t=>?_;exact ih (λp hp=>hkn p (.tail _ hp)) (C.learn h1 hnod (v:=v) ⟨c,hlook c t.1,t.2.keeps hg⟩ (q.2.mono hv)) e
noncomputable abbrev BN(upd:List LV→D→Option (List LV))(ft:TF)(fe:EF)(ρi:List LV)(d:D):Option (Option D):=
 (upd ρi d).bind λρ1=>(ft ρ1).bind λb=>if b then(fe ρ1).map some else some none
theorem s9{h h':Heap}{hid:Addr→Prop}{wr ow:List Addr}(k:∀b o,b∉ow→b∉wr→h.get? b=some o→h'.get? b=some o):∀a o,AL h (AY (DU hid wr) ow) a o→AL h' (AY (DU hid wr) ow) a o:=
 λa o e=>⟨k a o (λq=>e.2 (.inr q)) (λq=>e.2 (.inl (.inr q))) e.1,e.2⟩
structure LW(hid:Addr→Prop)(wr ow:List Addr)(Dd:Addr)(vs:List Value)(ds:List D)(h:Heap):Prop where
 p:h.PlainList Dd (List.toArray vs)
 d:AJ (AL h (AY (DU hid wr) ow)) vs ds
theorem LW.kp{hid:Addr→Prop}{wr ow:List Addr}{Dd:Addr}{vs:List Value}{ds:List D}{h h':Heap}(a:LW hid wr ow Dd vs ds h)(k:∀b o,b∉ow→b∉wr→h.get? b=some o→h'.get? b=some o)(kd:∀o,h.get? Dd=some o→h'.get? Dd=some o):LW hid wr ow Dd vs ds h':=⟨a.p.at kd,a.d.mono (s9 k)⟩
section
variable{Sgi:AP}{ce:Env}{hid:Addr→Prop}{he:Heap}{wr fp owc la:List Addr}{St:Nat→Heap→Prop}{CA AF s:Shared}{j:Nat}{ρi:List LV}{A:Around}{Dd:Addr}{vs:List Value}{ds:List D}{target elt iter:Expr}{ifs:List Expr}{is:List Nat}{upd:List LV→D→Option (List LV)}{ft:TF}{fe:EF}
def KG(St:Nat→Heap→Prop)(Dd:Addr)(i:Nat)(h:Heap):Prop:=St i h∧∃o,h.get? Dd=some o
theorem Ap{v:Value}{d:D}{oo:Option D}{E:Value→Shared→Prop}{N:Shared→Prop}(hA:B9 n A)(HC:CN Sgi ce)(his:∀i∈is,ρi[i]? =some .unset)(htg:K9 prog w AA Sgi target is upd)(hts:M2 prog w AA n Sgi ifs ft)(hel:PE prog w AA n Sgi elt fe)
  (C:LC ce hid he (Dd::wr) (Dd::fp) owc (KG St Dd) CA AF)(hDo:Dd∉owc)(hDf:Dd∉fp)(fr:∀i h h',St i h→(∀b∈fp,∀o,h.get? b=some o→h'.get? b=some o)→St i h')(I:LI AA Sgi ce hid he (Dd::wr) owc (KG St Dd) AF j ρi owc la s)(a:LW hid (Dd::wr) owc Dd vs ds s.heap)(hl:ds.length≤100000)
  (x:AQ (AL s.heap (AY (DU hid (Dd::wr)) owc)) v d)(hf:BN upd ft fe ρi d=some oo)
  (go:∀s' vs',LI AA Sgi ce hid he (Dd::wr) owc (KG St Dd) AF j ρi owc la s'→LW hid (Dd::wr) owc Dd vs' (ds++oo.toList) s'.heap→N s'):
  wpAny (model prog w) A (assign target ce v) (λV AF=>wpAny (model prog w) A (forIn ifs true λc r=>if r=true then do let ok ←isTrue c ce (eval c ce);pure (ForInStep.yield ok)else pure (ForInStep.yield r)) (λok BI=>
   if ok=true then wpAny (model prog w) A (eval elt ce) (λx CS=>wpAny (model prog w) A (call (.builtin "list.append") [.ref Dd,x]) (λV KC=>N KC) E CS) E BI else N BI) E AF) E s:=
 AK hf λρa e1 hf=>AK hf λb e2 hf=>BD (htg.1 ce A s v d ρi ρa (DU hid (Dd::wr)) he owc la _ hA.1 HC I.S x e1) λV BI y=>by
  have kP:=I.mv C y.1 y.2;have xS:=a.kp (λb o n1 V=>y.2.kp b o n1) λo=>y.2.kp Dd o hDo;have back:∀{s'},LI AA Sgi ce hid he (Dd::wr) owc (KG St Dd) AF j ρa owc la s'→LI AA Sgi ce hid he (Dd::wr) owc (KG St Dd) AF j ρi owc la s':= λI=>{I with
   S:=I.S.forget (htg.2 ρi d ρa e1).1.symm λk=>if q:k∈is then .inr (his k q)else .inl ((htg.2 ρi d ρa e1).2 k q).symm}
  refine ID (hts ce A BI ρa b _ he owc la _ HC hA y.1 e2) λsV k6=>?_;have TM:=kP.mv C (kP.S.grows k6.grows) (.of_kp k6);have lJ:=xS.kp (λb o V V=>k6.grows b o) λo=>k6.grows Dd o;cases b with
  |false=>exact go sV vs (back TM) (Option.some.inj hf▸(List.append_nil ds).symm▸lJ)
  |true=>
   obtain⟨z,hz,e⟩:=Option.map_eq_some_iff.mp (show(fe ρa).map some=some oo from hf);rw[←e]at go;refine GD.wp_g (hel ce A sV ρa z _ he owc la _ HC hA TM.S hz) λyv e7 dy k7=>?_;have kQ:=TM.mv C (TM.S.grows k7.grows) (.of_kp k7);have ZT:=lJ.kp (λb o V V=>k7.grows b o) λo=>k7.grows Dd o;refine wpAny_list_append_plain (s:=e7) ZT.p (λh8 hD8 hs8=>?_) (by rw[sizeLine_eq,List.size_toArray,ZT.d.length];lia);have k8:∀b o,b∉Dd::wr→e7.heap.get? b=some o→h8.get? b=some o:= λb o nb e=>(hs8.2 b (λq=>nb (q▸ .head _))).trans e;exact go _ (vs++[yv]) (back (kQ.item C (t:=e7.toks) k8 ⟨fr _ _ _ kQ.st.1 λb hb o e=>(hs8.2 b λq=>hDf (q▸hb)).trans e,hD8.elim λV e=>⟨_,e⟩⟩))
    ⟨by rw[←List.push_toArray];exact hD8,(ZT.d.append (.cons dy .nil)).mono (s9 λb o V n2=>k8 b o n2)⟩
inductive fQ(AA:Heap)(Sgi:AP)(ce:Env)(hid:Addr→Prop)(he:Heap)(wr owc la:List Addr)(St:Nat→Heap→Prop)(AF:Shared)(ρi:List LV)(Dd:Addr)(len:Nat)(cf:Nat→Option (List D))(out:List D)(k:Nat)(s':Shared):Prop
 |mk (j:Nat) (vs:List Value) (sofar rest:List D):k=len+1-j→j≤len→LI AA Sgi ce hid he (Dd::wr) owc (KG St Dd) AF j ρi owc la s'→LW hid (Dd::wr) owc Dd vs sofar s'.heap→cf j=some rest→out=sofar++rest→sofar.length≤j→fQ AA Sgi ce hid he wr owc la St AF ρi Dd len cf out k s'
theorem Ao{scope:Scope}{pos:Pos}{RR:Result→Shared→Prop}{I:Addr}{P:Nat→Value→Prop}{out:List D}(hA:B9 n A)(HC:CN Sgi ce)(his:∀i∈is,ρi[i]? =some .unset)(htg:K9 prog w AA Sgi target is upd)(hts:M2 prog w AA n Sgi ifs ft)(hel:PE prog w AA n Sgi elt fe)
  (W:Walks prog w A I fp wr ds.length P St)(C:LC ce hid he (Dd::wr) (Dd::fp) owc (KG St Dd) CA AF)(hDo:Dd∉owc)(hDf:Dd∉fp)(hDw:Dd∉wr)(hlen:ds.length≤100000)
  (hP:∀i v,P i v→∃d,ds[i]? =some d∧AQ (AL AF.heap (AY (DU hid (Dd::wr)) owc)) v d)(hlets:∀(i:Nat)(v:Value)(s:Shared)(tg:Expr)(Q:Unit→Shared→Prop)(E:Value→Shared→Prop),P i v→St (i+1) s.heap→Q () s→wpAny (model prog w) A (letOwnedTupleGo tg (.ref I) v) Q E s)
  (w6:LI AA Sgi ce hid he (Dd::wr) owc (KG St Dd) AF 0 ρi owc la AF)(xR:LW hid (Dd::wr) owc Dd [] [] AF.heap)(hF:B2 (BN upd ft fe ρi) ds=some out)
  (fin:∀s' vs h t,LI AA Sgi ce hid he (Dd::wr) owc (KG St Dd) AF ds.length ρi owc la s'→LW hid (Dd::wr) owc Dd vs out s'.heap→(∀b o,b∉wr→s'.heap.get? b=some o→h.get? b=some o)→RR (.ok .next) {s' with heap:=h,toks:=t}):
  codeAny (model prog w) A (.compLoop (.ListComp elt [⟨target,iter,ifs,0⟩] scope pos) 0 (.ref I) (.ref Dd) ce) RR AF:=by
 refine An (fQ AA Sgi ce hid he wr owc la St AF ρi Dd ds.length (λj=>B2 (BN upd ft fe ρi) (ds.drop j)) out) ?_ (ds.length+1) ⟨0,[],[],out,rfl,Nat.zero_le _,w6,xR,hF,rfl,Nat.le_refl _⟩;rintro k s' ⟨j,vs,sofar,rest,hk,hj,Ij,aj,hFj,hout,hsl⟩;by_cases hlt:j<ds.length
 ·refine W.item j _ _ _ hlt Ij.st.1 λv h t hPv st k1=>?_;have k1':∀b o,b∉Dd::wr→s'.heap.get? b=some o→h.get? b=some o:= λb o nb=>k1 b o λq=>nb (.tail _ q);have I1:=Ij.item C (t:=t) k1' ⟨st,Ij.st.2.elim λo e=>⟨o,k1 _ _ hDw e⟩⟩;obtain⟨d,hdj,hdv⟩:=hP j v hPv;rw[bE hdj]at hFj;refine AK hFj λoo hoo hFj=>?_;obtain⟨r,hr,hFj⟩:=Option.map_eq_some_iff.mp hFj;exact hlets j v _ target _ _ hPv st (Ap hA HC his htg hts hel C hDo hDf W.frame I1 (aj.kp (λb o V n2=>k1' b o n2) λo=>k1 Dd o hDw) (Nat.le_trans hsl (Nat.le_trans hj hlen)) (I1.den hdv) hoo
   λAF vs' I2 a2=>⟨ds.length+1-(j+1),by lia,j+1,vs',sofar++oo.toList,r,rfl,hlt,I2,a2,hr,by rw[hout,←hFj,List.append_assoc];cases oo<;>rfl,by rw[List.length_append];exact Nat.add_le_add hsl (by cases oo with|none=>exact Nat.zero_le _|some _=>exact Nat.le_refl _)⟩)
 ·have hjl:j=ds.length:=by lia
  rw[hjl]at Ij hFj;rw[List.drop_length]at hFj;rw[←Option.some.inj hFj,List.append_nil]at hout;exact W.done _ _ _ Ij.st.1 λh t k=>fin s' vs h t Ij (hout▸aj) k
end
theorem mG{env:Env}{A:Around}{s AF:Shared}{hid:Addr→Prop}{he:Heap}{ow la:List Addr}{ρ ρi:List LV}{it:Value}{ds out:List D}{own:Bool}{E:Value→Shared→Prop}{elt target iter:Expr}{ifs:List Expr}{scope:Scope}{pos:Pos}{Sgi:AP}{is:List Nat}{kn:List (Nat×Nat)}{upd:List LV→D→Option (List LV)}{ft:TF}{fe:EF}{cl:List (Str×Addr)}{RR:Value→Addr→Result→Shared→Prop}
  (hA:B9 n A)(H:CN Sg env)(S:AV AA Sg env hid he ow la s.heap ρ)(AZ:Kp s AF)(wb:WB prog w A hid ow s AF it ds own)
  (okS:HD Sgi scope)(hkn:YS Sg Sgi scope kn)(hk:C0 ρ kn (AX Sgi.names.length)=some ρi)(his:∀i∈is,i<Sgi.names.length∧∀p∈kn,p.1≠i)
  (htg:K9 prog w AA Sgi target is upd)(hts:M2 prog w AA n Sgi ifs ft)(hel:PE prog w AA n Sgi elt fe)
  (hcl1:∀x c,cl.lookup x=some c→env.cells.lookup x=some c)(hcl2:∀x,(x,NameKind.free)∈scope.names→cl.lookup x=env.cells.lookup x)
  (hF:B2 (BN upd ft fe ρi) ds=some out)
  (hRR:∀l C vs h' tk m',s.heap.get? l=none→s.heap.get? C=none→l≠C→h'.Ns C m'→h'.PlainList l (List.toArray vs)→AJ (AL h' (AY hid (l::C::ow))) vs out→A3 s.heap h'→RR (.ref l) C (.ok .next) {s with heap:=h',toks:=tk}):
  wpAny (model prog w) A (newList []) (λacc BI=>wpAny (model prog w) A (newFunctionEnv scope env.globals cl [] env.qual none .none (some env)) (λcenv CS=>
   codeAny (model prog w) A (.compStart (.ListComp elt [⟨target,iter,ifs,0⟩] scope pos) 0 it acc {cenv with scope:=relabel scope env}) (RR acc cenv.locals) CS) E BI) E AF:=by
 cases wb with
 |mk I fp wr P St hI W hlive hst0 _ hwr hfpx hP hlen hlets=>
 rw[hI]at hlets⊢;refine wpAny_newObj_type ?_;have hg3:A3 AF.heap (AF.heap.push {cls:=.type "list",dict:=none,data:=.seq ([]:List Value).toArray}):=A3.push _ _;have hDn:AF.heap.get? AF.heap.objs.size=none:=DT _;have hDo:(AF.heap.push {cls:=.type "list",dict:=none,data:=.seq ([]:List Value).toArray}).PlainList AF.heap.objs.size (List.toArray []):=⟨0,Heap.get?_push_size _ rfl⟩;generalize AF.heap.push {cls:=.type "list",dict:=none,data:=.seq ([]:List Value).toArray}=h3 at hg3 hDo⊢
 generalize AF.heap.objs.size=Dd at hDn hDo⊢
 have gs3:A3 s.heap h3:=AZ.grows.trans hg3;have hDwr:Dd∉wr:= λq=>(hlive 0 _ hst0 Dd q).elim λV e=>BO hDn e;have hDfp:Dd∉fp:= λq=>(hfpx Dd q).elim λV e=>BO hDn e;have l3:∀b∈Dd::wr,∃o,h3.get? b=some o:=D4 (hDo.elim λV e=>⟨_,e⟩) λb q=>(hlive 0 _ hst0 b q).elim λo e=>⟨o,hg3 _ _ e⟩;have hnew:∀b∈Dd::wr,s.heap.get? b=none:=D4 (FE AZ.grows hDn) hwr;refine Pz (Sgi:=Sgi) (hid:=DU (AY hid ow) (Dd::wr)) (s:={AF with heap:=h3}) ((S.base.trans S.keep).trans gs3) (λb q=>q.elim (λq=>(S.hidOK b q).elim λo e=>⟨o,gs3 _ _ e⟩) (l3 b)) ⟨λx c e=>((IH.sub S hcl1).1 x c e).elim λv hv=>⟨v,hv.keeps gs3⟩,(IH.sub S hcl1).2⟩ okS λcenv CS owc e1 e2 e3 e4 mk hown sh g4 hlk=>?_;have g4:A3 h3 CS.heap:=g4;have hown:∀b∈owc,h3.get? b=none:=hown;have k4:Kp s CS:=AZ.trans (sh.elim λh q=>q.elim λt q=>⟨h,t,q,λb o e=>by have:=g4 _ _ (hg3 _ _ e);rw[q]at this;exact this⟩);have hD4:Dd∉owc:= λq=>hDo.elim λV e=>BO (hown Dd q) e;have HC:CN Sgi {cenv with scope:=relabel scope env}:=okS.relab env _ rfl (e2.trans H.glob) (e3.trans H.bi);have hlk:∀x c,cenv.cells.lookup x=some c→(h3.get? c=none∧(x,NameKind.cell)∈scope.names)∨cl.lookup x=some c:=hlk;have ec:∀x,(x,NameKind.free)∈scope.names→∀c,env.cells.lookup x=some c→cenv.cells.lookup x=some c:= λx hf c hc=>by
  rw[e4,T4];rw[dB (Option.eq_none_iff_forall_ne_some.mpr λc' q=>hkn.no x hf (Z8 (mem_of_lookup q))),hcl2 x hf,hc]
 have SC0:AV AA Sgi {cenv with scope:=relabel scope env} (DU (AY hid ow) (Dd::wr)) h3 owc (List.replicate Sgi.names.length 0) CS.heap (AX Sgi.names.length):=mk _ rfl rfl;generalize hce:({cenv with scope:=relabel scope env}:Env)=ce at HC SC0⊢
 have ce1:ce.locals=cenv.locals:=by rw[←hce]
 have ce2:ce.cells=cenv.cells:=by rw[←hce]
 rw[←ce1];rw[←ce2]at hlk ec;clear mk hce ce1 ce2 e1 e2 e3 e4 sh;have C:LC ce (AY hid ow) s.heap (Dd::wr) (Dd::fp) owc (KG St Dd) s CS:=⟨λx c e q=>(hlk x c e).elim (λr=>(l3 c q).elim λV e=>BO r.1 e) λr=>(S.cel x c (hcl1 x c r)).elim λv t=>t.elim λV e=>BO (hnew c q) e.1,
  λb hb q=>(S.hidOK b q).elim λV e=>BO (hnew b hb) e,hnew,.refl _,k4,λi h st=>D4 st.2 (hlive i h st.1),D4 (.inl (.head _)) λb hb=>.inr λq=>(hfpx b hb).elim λo e=>BO (hown b q) (hg3 _ _ e),
  D4 ((l3 Dd (.head _)).elim λo e=>⟨o,g4 _ _ e⟩) λb hb=>(hfpx b hb).elim λo e=>⟨o,g4 _ _ (hg3 _ _ e)⟩,λi h h' st k=>⟨W.frame i h h' st.1 λb hb=>k b (.tail _ hb),st.2.elim λo e=>⟨o,k Dd (.head _) o e⟩⟩⟩
 have S4:AV AA Sgi ce (DU (AY hid ow) (Dd::wr)) s.heap owc (List.replicate Sgi.names.length 0) CS.heap ρi:=Gc S okS.nod (gs3.trans g4)
  (λa o e=>⟨g4 _ _ (gs3 _ _ e.1),λq=>q.elim (λq=>q.elim e.2 λq=>BO (hnew a q) e.1) λq=>BO (FE gs3 (hown a q)) e.1⟩) (λp hp=>(hkn.at_ p hp).elim λx q=>⟨x,q.1,q.2.1,ec x q.2.2⟩) (SC0.shrink (S.base.trans S.keep) gs3) hk
 have st4:St 0 CS.heap:=W.frame 0 _ _ hst0 λb V o e=>g4 _ _ (hg3 _ _ e);have loop:codeAny (model prog w) A (.compLoop (.ListComp elt [⟨target,iter,ifs,0⟩] scope pos) 0 (.ref I) (.ref Dd) ce) (RR (.ref Dd) ce.locals) CS:=
  Ao hA HC (λi hi=>((pK hk).2.1 i (his i hi).2).trans ((List.getElem?_replicate).trans (if_pos (his i hi).1))) htg hts hel W C hD4 hDfp hDwr hlen
   (λi v p=>(hP i v p).elim λd q=>⟨d,q.1,q.2.mono λa o e=>⟨g4 _ _ (hg3 _ _ e.1),λq=>q.elim (λq=>q.elim (λq=>e.2 (q.elim (λq=>.inl (.inl q)) .inr)) λq=>(List.mem_cons.mp q).elim (λq=>BO hDn (q▸e.1)) λq=>e.2 (.inl (.inr q))) λq=>BO (hown a q) (hg3 _ _ e.1)⟩⟩) hlets
   ⟨.refl _,⟨st4,(l3 Dd (.head _)).elim λo e=>⟨o,g4 _ _ e⟩⟩,S4,λV V V V e=>e,λV h=>.inl h⟩ ⟨hDo.at λo=>g4 Dd o,.nil⟩ hF λs' vs h t I a k=>by
    obtain⟨h1,t1,e⟩:=(Sm.of_kp C.k).trans I.sh;obtain⟨m,hm⟩:=I.S.ns;have hCw:ce.locals∉wr:= λq=>(I.S.hlt _ (.inr (.tail _ q))).1 I.S.loc;have:=hRR Dd ce.locals vs h t m (hnew Dd (.head _)) (FE gs3 (hown _ SC0.loc)) (λq=>hD4 (q▸SC0.loc)) (hm.at' λo=>k _ o hCw) (a.p.at λo=>k Dd o hDwr)
     (a.d.mono λb o e=>⟨k b o (λq=>e.2 (.inl (.inr (.tail _ q)))) e.1,λq=>q.elim (λq=>e.2 (.inl (.inl (.inl q)))) λq=>(List.mem_cons.mp q).elim (λq=>e.2 (.inl (.inr (q▸ .head _)))) λq=>(List.mem_cons.mp q).elim (λq=>e.2 (.inr (q▸SC0.loc))) λq=>e.2 (.inl (.inl (.inr q)))⟩)
     λb o e=>k b o (λq=>BO (hwr b q) e) (I.S.keep b o e)
    rw[e];exact this
 exact codeAny_compStart_list loop (W.self 0 _ _ _ st4 loop)
theorem pJ{env:Env}{hid:Addr→Prop}{he:Heap}{ow la:List Addr}{h:Heap}{ρ ρ0 ρi:List LV}{Sgi:AP}{scope:Scope}{kn:List (Nat×Nat)}(K:YS Sg Sgi scope kn)(S:AV AA Sg env hid he ow la h ρ)(hρi:C0 ρ kn ρ0=some ρi)(x:Str)(hx:(x,NameKind.free)∈scope.names):∃c,env.cells.lookup x=some c:=by
 obtain⟨p,hp,b,e⟩:=K.ex x hx;obtain⟨y,e1,e2,_⟩:=K.at_ p hp;have r:=(Prod.mk.inj (Option.some.inj (e1.symm.trans e))).1;exact((pK hρi).2.2 p hp).elim λd hd=>(IA S e2 hd).elim λl q=>q.2.elim λv q=>q.1.elim λc t=>⟨c,r▸t.1⟩
theorem o8{is:List Nat}{m:Nat}{kn:List (Nat×Nat)}(his:is.all (λi=>decide (i<m)&&kn.all (λp=>p.1!=i))=true):∀i∈is,i<m∧∀p∈kn,p.1≠i:= λi hi=>by
 have:=List.all_eq_true.mp his i hi;rw[Bool.and_eq_true,List.all_eq_true]at this;exact⟨of_decide_eq_true this.1,λp hp=>bne_iff_ne.mp (this.2 p hp)⟩
theorem GK{elt target iter:Expr}{ifs:List Expr}{scope:Scope}{pos:Pos}(Sgi:AP)(is:List Nat)(kn:List (Nat×Nat)){own:Bool}{upd:List LV→D→Option (List LV)}{ft:TF}{fe:EF}{fi:List LV→Option (List D)}
  (okS:HD Sgi scope)(hkn:UQ Sg Sgi scope kn=true)(his:is.all (λi=>decide (i<Sgi.names.length)&&kn.all (λp=>p.1!=i))=true)
  (hi:PI prog w AA n Sg own iter fi)(htg:K9 prog w AA Sgi target is upd)(hts:M2 prog w AA n Sgi ifs ft)(hel:PE prog w AA n Sgi elt fe)
  (hs:∀env x,foldedSetIterable iter env x=pure x):
  PN prog w AA n Sg (.ListComp elt [⟨target,iter,ifs,0⟩] scope pos) (λρ=>(fi ρ).bind λds=>(C0 ρ kn (AX Sgi.names.length)).bind λρi=>B2 (BN upd ft fe ρi) ds):=by
 refine λenv A s ρ out hid he ow la E H hA S hf=>AK hf λds hds hf=>AK hf λρi hρi hf=>?_;obtain⟨cl,hclos,hcl1,hcl2⟩:=l8 scope env (pJ (UR hkn) S hρi);rw[eval_ListComp]
 exact wpAny_comprehension_free (use:=none) rfl (hs env) hclos okS.kind okS.loclook (BD (hi env A s ρ ds hid he ow la E H hA S hds) λxv AB CT=>BD CT λit AF q=>
  mG (RR:= λacc C=>compPost (model prog w) A E none _ acc C) hA H S q.2 q.1 okS (UR hkn) hρi (o8 his) htg hts hel hcl1 hcl2 hf λl C vs h' tk m' hl hC hne hns hpl hden hgr=>
  ⟨m',hns,λh'' hs''=>⟨l,vs,rfl,hl,hpl.at λo e=>(hs''.2 l hne).trans e,hden.mono λa o e=>⟨(hs''.2 a (λq=>e.2 (.inr (q▸ .tail _ (.head _))))).trans e.1,λq=>q.elim (λq=>e.2 (.inl q)) λq=>(List.mem_cons.mp q).elim (λq=>e.2 (.inr (q▸ .head _))) λq=>e.2 (.inr (.tail _ (.tail _ q)))⟩,
   ⟨h'',tk,rfl,λb o e=>(hs''.2 b (λq=>BO hC (q▸e))).trans (hgr b o e)⟩⟩⟩)
theorem Op{env:Env}(H:CN Sg env){i:Nat}{x:Str}{px pos:Pos}{elt:Expr}{gs:List Comprehension}{scope:Scope}{line:Nat}(hn:Sg.names[i]? =some (x,true))
  (q:(px.line==pos.line&& !(scope.names.any λp=>p.1==x&&(p.2== .local||p.2== .cell)))=true):swapsWith (.ListComp elt gs scope pos) (some (.Name x px)) line env=pure true:=by
 have e:(env.blockKind== .function&&env.kindOf x==some .local)=true:=by
  unfold Env.blockKind;rw[H.loc i x hn,H.kind];rfl
 have k:∀a b c d:Bool,(a&&b)=true→(c&&d)=true→(a&&b&&c&&d)=true:=by decide
 exact congrArg pure (k _ _ _ _ e q)
theorem fM(i:Nat){x:Str}{px spos:Pos}{elt target iter:Expr}{ifs:List Expr}{scope:Scope}{pos:Pos}(Sgi:AP)(is:List Nat)(kn:List (Nat×Nat)){own:Bool}{upd:List LV→D→Option (List LV)}{ft:TF}{fe:EF}{fi:List LV→Option (List D)}
  (hn:Sg.names[i]? =some (x,true))
  (okS:HD Sgi scope)(hkn:UQ Sg Sgi scope kn=true)(his:is.all (λi=>decide (i<Sgi.names.length)&&kn.all (λp=>p.1!=i))=true)
  (hi:PI prog w AA n Sg own iter fi)(htg:K9 prog w AA Sgi target is upd)(hts:M2 prog w AA n Sgi ifs ft)(hel:PE prog w AA n Sgi elt fe)
  (hs:∀env x,foldedSetIterable iter env x=pure x)
  (hsw:(px.line==pos.line&& !(scope.names.any λp=>p.1==x&&(p.2== .local||p.2== .cell)))=true):
  XS prog w AA n Sg (.Assign [.Name x px] (.ListComp elt [⟨target,iter,ifs,0⟩] scope pos) spos) (λρ=>((fi ρ).bind λds=>(C0 ρ kn (AX Sgi.names.length)).bind λρi=>B2 (BN upd ft fe ρi) ds).map λout=>(.next,ρ.set i (.d (.lst out)))):=by
 refine λenv A s ρ ρ' out' hid he ow la E H hA S hf=>KT hf λout hg=>AK hg λds hds hf=>AK hf λρi hρi hf=>?_;obtain⟨cl,hclos,hcl1,hcl2⟩:=l8 scope env (pJ (UR hkn) S hρi);rw[exec_Assign_Name_used _ _ _ _ (Op H hn hsw)];refine wpAny_bind (wpAny_standAt (wpAny_bind ?_));refine(?_:wpAny _ A (do let _ ←comprehension (.ListComp elt [⟨target,iter,ifs,0⟩] scope pos) scope env _ (newList []) false (eval iter env) (some (assign (.Name x px) env))) _ _ s);refine wpAny_bind (wpAny_mono (wpAny_comprehension_free (use:=some (assign (.Name x px) env)) (Q:= λV=>FN AA Sg env hid he ow s (ρ.set i (.d (.lst out))) .next .next) rfl (hs env) hclos okS.kind okS.loclook
  (BD (hi env A s ρ ds hid he ow la E H hA S hds) λxv AB CT=>BD CT λit AF q=>?_)) (λV s' hq=>wpAny_pure (wpAny_pure hq)) λV V e=>e)
 refine mG (RR:= λacc C=>compPost (model prog w) A E (some (assign (.Name x px) env)) _ acc C) hA H S q.2 q.1 okS (UR hkn) hρi (o8 his) htg hts hel hcl1 hcl2 hf λl C vs h' tk m' hl hC hne hns hpl hden hgr=>?_;have hdl:AQ (AL h' (AY (DU hid [C]) ow)) (.ref l) (.lst out):=hpl.elim λk e=>.lst ⟨e,λq=>q.elim (λq=>q.elim (λq=>S.fresh hl (.inl q)) λq=>hne (List.mem_singleton.mp q)) λq=>S.fresh hl (.inr q)⟩
  (hden.mono (GN λa q=>q.elim (λq=>q.elim .inl λq=>.inr (List.mem_singleton.mp q▸ .tail _ (.head _))) λq=>.inr (.tail _ (.tail _ q))))
 refine(?_:wpAny _ A (assign (.Name x px) env (.ref l)) _ _ _);refine wpAny_assign_Name (QF (s:={s with heap:=h',toks:=tk}) H (S.hide hgr (wr:=[C]) (E5 ⟨hC,hns.elim λo q=>q.elim λV q=>q.elim λV q=>⟨o,q.1⟩⟩)) hn (.inl rfl) hdl λBI J8 V DG=>⟨m',hns.at' λo=>J8.kp C o λq=>(S.owr C q).2.elim λV e=>BO hC e,λh4 hs4=>?_⟩);have k4:∀b o,b∉[C]→BI.heap.get? b=some o→h4.get? b=some o:= λb o nb e=>(hs4.2 b (λq=>nb (q▸List.mem_singleton.mpr rfl))).trans e;exact⟨ow,la,DG.over (wr:=[C]) (E5 λq=>(S.hlt C q).2.elim λV e=>BO hC e) (λy c e q=>(S.cel y c e).elim λv t=>t.elim λV e'=>BO (List.mem_singleton.mp q▸hC) e'.1) (E5 (FE S.keep hC)) k4,trivial,
  ⟨J8.sh.elim λh3 q=>q.elim λt3 q=>⟨h4,t3,by rw[q]⟩,λb o hb e=>k4 b o (λq=>BO hC (List.mem_singleton.mp q▸e)) (J8.kp b o hb (hgr b o e)),λb hb=>.inl hb⟩⟩
theorem AV.ownUpd{env:Env}{hid:Addr→Prop}{he:Heap}{ow la:List Addr}{h h':Heap}{ρ:List LV}(S:AV AA Sg env hid he ow la h ρ){i:Nat}{x:Str}{b:Bool}{kd kd':BE}{ds ds':List D}{l:Addr}{o':Obj}
  (hn:Sg.names[i]? =some (x,b))(hi:ρ[i]? =some (.own kd ds))(hl:la[i]? =some l)(k:∀b o,b≠l→h.get? b=some o→h'.get? b=some o)(ho':h'.get? l=some o')
  (hown:∀v o,h.get? l=some o→DC (AL h (AY hid ow)) kd v l o ds→DC (AL h' (AY hid ow)) kd' v l o' ds'):AV AA Sg env hid he ow la h' (ρ.set i (.own kd' ds')):=by
 obtain⟨l',hl',v0,o0,hva,hlo,hlL,hol,hown0⟩:=IA S hn hi;obtain rfl:l=l':=Option.some.inj (hl.symm.trans hl');have hv:∀a o,AL h (AY hid ow) a o→AL h' (AY hid ow) a o:= λa o e=>⟨k a o (λq=>e.2 (.inr (q▸hlo))) e.1,e.2⟩;have kl:∀o,h.get? env.locals=some o→h'.get? env.locals=some o:= λo=>k _ o (Ne.symm hlL);have kc:∀y c,env.cells.lookup y=some c→∀o,h.get? c=some o→h'.get? c=some o:= λy c e o=>k c o λq=>(S.cel y c e).elim λv t=>t.elim λoc e2=>hown0.nocell _ (Option.some.inj ((q▸e2.1).symm.trans hol)▸e2.2);exact{S with
  keep:= λb o e=>k b o (λq=>BO (S.owr l hlo).1 (q▸e)) (S.keep b o e)
  hlt:= λb q=>⟨(S.hlt b q).1,(S.hlt b q).2.elim λo e=>⟨o,k b o (λq'=>(S.hlt b q).1 (q'▸hlo)) e⟩⟩
  owr:= λb m=>⟨(S.owr b m).1,if q:b=l then⟨o',q▸ho'⟩else(S.owr b m).2.elim λo e=>⟨o,k b o q e⟩⟩
  ns:=S.ns.elim λm e=>⟨m,e.at' kl⟩
  cel:= λy c e=>(S.cel y c e).elim λv t=>t.elim λo e2=>⟨v,o,kc y c e o e2.1,e2.2⟩
  len:=List.length_set.trans S.len
  slot:= λj y b' l' lv a1 a2 a3=>H' a3
   (λq e=>by
    subst q e;have r:=Prod.mk.inj (Option.some.inj (a1.symm.trans hn));rw[r.1,r.2,←Option.some.inj (hl.symm.trans a2)];exact⟨v0,o',hva.at kl (kc _),hlo,hlL,ho',hown v0 o0 hol hown0⟩)
   λq a3=>by
    cases lv with
    |unset=>trivial
    |d dd=>exact(S.slot j y b' l' _ a1 a2 a3).elim λv e=>⟨v,e.1.at kl (kc _),e.2.mono hv⟩
    |own kk es=>exact(S.slot j y b' l' _ a1 a2 a3).casesOn λv o e1 e2 e3 e4 e5=>⟨v,o,e1.at kl (kc _),e2,e3,k _ _ (λq'=>q (S.lad j i _ kk kd es ds a3 hi (q'▸a2) hl)) e4,e5.mono hv⟩
  lad:= λj k' l' kj kk ds2 es a1 a2 a3 a4=>H' a1 (λq V=>H' a2 (λq' V=>q.trans q'.symm) λV a2=>S.lad j k' l' _ kk _ es (q.symm▸hi) a2 a3 a4)
   λV a1=>H' a2 (λq' V=>S.lad j k' l' kj _ ds2 _ a1 (q'.symm▸hi) a3 a4) λV a2=>S.lad j k' l' kj kk ds2 es a1 a2 a3 a4}
inductive kW(hid:Addr→Prop)(l:Addr)(ds':List D)(s:Shared)(v:Value)(s':Shared):Prop
 |mk:v=.none→∀(vs':List Value)(h':Heap)(tk:Nat),s'={s with heap:=h',toks:=tk}→(∀b o,b≠l→s.heap.get? b=some o→h'.get? b=some o)→h'.PlainList l (List.toArray vs')→AJ (AL h' hid) vs' ds'→kW hid l ds' s v s'
def QO(prog:Program)(w:World)(n:Nat)(id:String)(g:List D→List D→Option (List D)):Prop:=
 ∀(A:Around)(s:Shared)(hid:Addr→Prop)(l:Addr)(vs us:List Value)(ds es ds':List D)(E:Value→Shared→Prop),B9 n A→hid l→s.heap.PlainList l (List.toArray vs)→AJ (AL s.heap hid) vs ds→AJ (AL s.heap hid) us es→g ds es=some ds'→
  wpAny (model prog w) A (call (.builtin id) (.ref l::us)) (kW hid l ds' s) E s
theorem GP{h h':Heap}{hid:Addr→Prop}{l:Addr}(hl:hid l)(k:∀b o,b≠l→h.get? b=some o→h'.get? b=some o):∀a o,AL h hid a o→AL h' hid a o:= λa o e=>⟨k a o (λq=>e.2 (q▸hl)) e.1,e.2⟩
theorem AV.lstUpd{env:Env}{hid:Addr→Prop}{he:Heap}{ow la:List Addr}{h h':Heap}{ρ:List LV}(S:AV AA Sg env hid he ow la h ρ){i:Nat}{x:Str}{b:Bool}{p:Option Addr}{ds es:List D}{l:Addr}(hn:Sg.names[i]? =some (x,b))(hv:ρ[i]? =some (.own (.list p) ds))(hl:la[i]? =some l){us:List Value}{k:Nat}(k3:∀b o,b≠l→h.get? b=some o→h'.get? b=some o)
  (q:h'.get? l=some {cls:=.type "list",data:=.seq (List.toArray us) k})(hd:AJ (AL h' (AY hid ow)) us es):AV AA Sg env hid he ow la h' (ρ.set i (.own (.list p) es)):=
 S.ownUpd hn hv hl k3 q λv o e r=>Exists.elim r.inv λV z=>z.elim λV z=>z.2.1▸ .list z.1 hd
theorem qF{env:Env}{s AB:Shared}{hid:Addr→Prop}{he:Heap}{ow la:List Addr}{ρ:List LV}(S:AV AA Sg env hid he ow la AB.heap ρ)(m:Mv ow ow s AB){i:Nat}{x:Str}{b:Bool}{p:Option Addr}{ds es:List D}{l:Addr}(hn:Sg.names[i]? =some (x,b))(hv:ρ[i]? =some (.own (.list p) ds))(hl:la[i]? =some l)(hlo:l∈ow){us:List Value}{k tk:Nat}{h':Heap}(k3:∀b o,b≠l→AB.heap.get? b=some o→h'.get? b=some o)
  (q:h'.get? l=some {cls:=.type "list",data:=.seq (List.toArray us) k})(hd:AJ (AL h' (AY hid ow)) us es):FN AA Sg env hid he ow s (ρ.set i (.own (.list p) es)) .next .next {AB with heap:=h',toks:=tk}:=
 ⟨ow,la,S.lstUpd hn hv hl k3 q hd,trivial,m.trans ⟨⟨h',tk,rfl⟩,λb o nb e=>k3 b o (λq=>nb (q▸hlo)) e,λb hb=>.inl hb⟩⟩
theorem AJ.fits{g:Gm}{vs:List Value}{ds:List D}(h:AJ g vs ds)(hs:BG ds=true):vs.toArray.size≤100000:=by rw[List.size_toArray,h.length];exact OB hs
def HY(ds:List D):List D→Option (List D):=EO λd=>if BG ds then some (ds++[d])else none
theorem NU:QO prog w n "list.append" HY:=
 λA s hid l vs us ds es ds' E hA hl hp hd hu hg=>hu.oneE hg λv d d1 hg=>CV hg λhsm=>wpAny_list_append_plain hp (λh8 hD8 hs8=>
  have k:∀b o,b≠l→s.heap.get? b=some o→h8.get? b=some o:= λb o nb e=>(hs8.2 b nb).trans e
  ⟨rfl,vs++[v],h8,s.toks,rfl,k,by rw[←List.push_toArray];exact hD8,(hd.append (.cons d1 .nil)).mono (GP hl k)⟩) (by have:=hd.fits hsm;rw[sizeLine_eq];lia)
theorem PX{h:Heap}{l:Addr}{vs:Array Value}(f:Array Value→Array Value)(hp:h.PlainList l vs):(h.update l (Obj.mapSeq f)).PlainList l (f vs)∧∀b o,b≠l→h.get? b=some o→(h.update l (Obj.mapSeq f)).get? b=some o:=
 ⟨hp.elim λn e=>⟨_,Heap.get?_update_self _ e rfl⟩,λb o nb e2=>((Heap.SameBut.update h l (Obj.mapSeq f)).2 b nb).trans e2⟩
def T9(ds:List D):List D→Option (List D):=EO λd=>(CX d).bind λes=>if BG ds&&BG es then some (ds++es)else none
theorem Iz:QO prog w n "list.extend" T9:=by
 refine λA s hid l vs us ds es ds' E hA hl hp hd hu hg=>hu.oneE hg λv d d1 hg=>AK hg λes he hg=>CV hg λhsm=>d1.lstE (L3 he) λb ws nb hb hdb=>hp.elim λn1 e1=>?_;rw[Bool.and_eq_true]at hsm;have s1:=hd.fits hsm.1;have s2:=hdb.fits hsm.2;obtain⟨p1,p2⟩:=PX (λx=>x++ws.toArray) hp;refine call_meetsIn PySem.F.slot_list_extend ⟨_,e1,rfl⟩ PySem.F.entry_list_extend (PySem.F.args_list_extend_2 _ _) ((AutoSeq1.list_extend_list_list_0 l vs.toArray n1 b ws.toArray nb ?_ ?_ ?_).inModel prog w) ⟨e1,hb.1,rfl,vs++ws,_,s.toks,rfl,p2,by rw[←List.append_toArray];exact p1,(hd.append hdb).mono (GP hl p2)⟩
 ·unfold Builtin.List.listTooLong;rw[Bool.and_eq_true,decide_eq_true_eq,sizeLine_eq];intro q;lia
 ·rw[sizeLine_eq];lia
 ·rw[sizeLine_eq];lia
def aM(ds:List D):List D→Option (List D):=I4 λi d=>(B6 i).bind λi=>if BG ds&&decide (0≤i)&&decide (i≤ds.length)then some (ds.take i.toNat++d::ds.drop i.toNat)else none
theorem AJ.drop{g:Gm}{vs:List Value}{ds:List D}(k:Nat)(h:AJ g vs ds):AJ g (vs.drop k) (ds.drop k):=by
 induction k generalizing vs ds with
 |zero=>exact h
 |succ k ih=>
  cases ds with
  |nil=>rw[h.nil_inv];exact .nil
  |cons d ds=>exact h.cons_inv.elim λv q=>q.elim λus q=>q.1▸ih q.2.2
theorem Ff{vs:List Value}{v:Value}{i:Int}(h0:0≤i)(h1:i.toNat≤vs.length):(have k:=if i<0 then(i+((vs.toArray.size:Nat):Int)).toNat else min i.toNat vs.toArray.size;(vs.toArray.extract 0 k).push v++vs.toArray.extract k)=(vs.take i.toNat++v::vs.drop i.toNat).toArray:=by
 have hm:min i.toNat vs.length=i.toNat:=Nat.min_eq_left h1;simp[Int.not_lt.mpr h0,hm];rw[List.take_of_length_le (by simp)]
theorem Ja:QO prog w n "list.insert" aM:=by
 refine λA s hid l vs us ds es ds' E hA hl hp hd hu hg=>hu.twoE hg λv u d e d1 d2 hg=>d1.intE hg λi t hg=>CV hg λhsm=>hp.elim λn1 e1=>?_;rw[Bool.and_eq_true,Bool.and_eq_true,decide_eq_true_eq,decide_eq_true_eq]at hsm;have s1:=hd.fits hsm.1.1;have h1:=hsm.2;rw[←hd.length]at h1;have h2:i.toNat≤vs.length:=by lia
 obtain⟨p1,p2⟩:=PX (λxs:Array Value=>have k:=if i<0 then(i+((xs.size:Nat):Int)).toNat else min i.toNat xs.size;(xs.extract 0 k).push u++xs.extract k) hp;have p1':=p1;rw[Ff hsm.1.2 h2]at p1';refine call_meetsIn PySem.F.slot_list_insert ⟨_,e1,rfl⟩ PySem.F.entry_list_insert (PySem.F.args_list_insert_3 _ _ _) ((AutoListH.list_insert_list_int_val_1 l vs.toArray n1 i t _ ?_ ?_).inModel prog w) ⟨e1,rfl,vs.take i.toNat++u::vs.drop i.toNat,_,s.toks,rfl,p2,p1',((hd.take _).append (.cons d2 (hd.drop _))).mono (GP hl p2)⟩
 ·unfold Builtin.List.listFitsIndex;rw[List.size_toArray]at s1;simp;lia
 ·rw[sizeLine_eq];lia
def LG(l:List D):Bool:=l.all λd=>(B6 d).isSome
def KR(x:Int):List D→Option Nat
 |[]=>none
 |d::r=>(B6 d).bind λy=>if y=x then some 0 else(KR x r).map (· +1)
theorem Fk{d:D}{ds:List D}(h:LG (d::ds)=true):∃i,d=.int i∧LG ds=true:=
 have q:=Bool.and_eq_true_iff.mp h
 (Option.isSome_iff_exists.mp q.1).elim λi e=>⟨i,HW e,q.2⟩
theorem cJ{g:Gm}{vs:List Value}{ds:List D}(hi:LG ds=true)(hd:AJ g vs ds)(i:Nat)(h:i<vs.length):∃y t,vs[i]=.int y t∧ds[i]? =some (.int y):=by
 obtain⟨d,e,a⟩:=hd.get' (List.getElem?_eq_getElem h);have q:=List.all_eq_true.mp hi d (List.mem_of_getElem? e);exact(Option.isSome_iff_exists.mp q).elim λy r=>by
  rw[HW r]at a e;exact a.int_inv.elim λt p=>⟨y,t,p,e⟩
theorem Ez{ds:List D}{x:Int}{j:Nat}(h:KR x ds=some j):ds[j]? =some (.int x)∧∀m,m<j→∃y,ds[m]? =some (.int y)∧y≠x:=by
 induction ds generalizing j with
 |nil=>exact AI h
 |cons d ds ih=>
  refine AK h λy e h=>?_;rw[HW e];by_cases q:y=x
  ·rw[if_pos q]at h;exact DA h ⟨q▸rfl,λm hm=>nomatch hm⟩
  ·rw[if_neg q]at h;refine FV h λj' h'=>⟨(ih h').1,λm hm=>?_⟩;cases m with
   |zero=>exact⟨y,rfl,q⟩
   |succ m=>exact(ih h').2 m (Nat.lt_of_succ_lt_succ hm)
noncomputable def LB(x:Int):Value→Bool
 |.int y _=>y==x
 |_=>false
theorem nF{g:Gm}{vs:List Value}{ds:List D}{x:Int}{t:Tok}{j:Nat}(hi:LG ds=true)(hd:AJ g vs ds)(hj:KR x ds=some j):∃h:j<vs.toArray.size,(∀y,y∈vs.toArray→MeetsSeq.EqGives y (.int x t) (LB x y))∧LB x vs.toArray[j]=true∧∀m (hm:m<vs.toArray.size),m<j→LB x vs.toArray[m]=false:=by
 obtain⟨a1,a2⟩:=Ez hj;have hat:∀m (h:m<vs.length) y,ds[m]? =some (.int y)→∃u,vs[m]=.int y u:= λm h y r=>(cJ hi hd m h).elim λz q=>q.elim λu q=>⟨u,by rw[q.1,D.int.inj (Option.some.inj (q.2.symm.trans r))]⟩;have hjl:j<vs.length:=hd.length▸(List.getElem?_eq_some_iff.mp a1).1;refine⟨hjl,λy hy=>?_,(hat j hjl x a1).elim λu e=>(congrArg (LB x) e).trans (beq_self_eq_true x),λm hm hmj=>(a2 m hmj).elim λy q=>(hat m hm y q.1).elim λu e=>(congrArg (LB x) e).trans (beq_false_of_ne q.2)⟩;obtain⟨i,hi',e⟩:=Array.getElem_of_mem hy;obtain⟨z,u,e2,_⟩:=cJ hi hd i hi';rw[←e,show vs.toArray[i]=.int z u from e2];exact MeetsSeq.EqGives.int z x u t
def UA(ds:List D):List D→Option (List D):=EO λd=>(B6 d).bind λx=>if BG ds&&LG ds then(KR x ds).map λj=>ds.eraseIdx j else none
theorem AJ.erase{g:Gm}{vs:List Value}{ds:List D}(j:Nat)(h:AJ g vs ds):AJ g (vs.eraseIdx j) (ds.eraseIdx j):=by
 induction ds generalizing vs j with
 |nil=>rw[h.nil_inv];exact .nil
 |cons d ds ih=>
  refine h.cons_inv.elim λv q=>q.elim λus q=>?_;rw[q.1];cases j with
  |zero=>exact q.2.2
  |succ j=>exact .cons q.2.1 (ih j q.2.2)
theorem Jb:QO prog w n "list.remove" UA:=by
 refine λA s hid l vs us ds es ds' E hA hl hp hd hu hg=>hu.oneE hg λv d d1 hg=>d1.intE hg λx t hg=>DM hg λhsm hg=>FV hg λj hj=>hp.elim λn1 e1=>?_;rw[Bool.and_eq_true]at hsm;have s1:=hd.fits hsm.1;obtain⟨hjl,q1,q2,q3⟩:=nF (t:=t) hsm.2 hd hj;obtain⟨p1,p2⟩:=PX (λxs:Array Value=>xs.eraseIdxIfInBounds j) hp;exact call_meetsIn PySem.F.slot_list_remove ⟨_,e1,rfl⟩ PySem.F.entry_list_remove (PySem.F.args_list_remove_2 _ _) ((MeetsSeq.list_remove l vs.toArray n1 (.int x t) (LB x) q1 j hjl q2 q3 (by rw[sizeLine_eq];lia)).inModel prog w) ⟨e1,rfl,vs.eraseIdx j,_,s.toks,rfl,p2,by rw[←List.eraseIdxIfInBounds_toArray];exact p1,(hd.erase j).mono (GP hl p2)⟩
theorem xT(pos:Pos)(l:List (Bool×Sem Value)):(backTo pos l).all (λx=> !x.1)=l.all (λx=> !x.1):=by
 induction l with
 |nil=>rfl
 |cons a r ih=>show(!a.1&&(backTo pos r).all _)=(!a.1&&r.all _);rw[ih]
theorem NC{args:List Expr}{env:Env}{pos:Pos}(hp:DK args)(hl:args.length<30):((backTo pos (starEach args env)).all (λx=> !x.1)&&(backToKw pos (keywordEach [] env)).all (λx=>x.1.isSome)
   &&decide (args.length+([]:List Keyword).length+(if([]:List Keyword).isEmpty then 0 else 1)<30))=true:=by
 have h1:(backTo pos (starEach args env)).all (λx=> !x.1)=true:=by
  rw[xT,List.all_eq_true];exact λx hx=>Bool.not_eq_true' _▸Bool.eq_false_iff.mpr (List.any_eq_false.mp (hp env) x hx)
 rw[h1];exact decide_eq_true (show args.length+0+0<30 from hl)
theorem MW(i:Nat){x name:Str}{b:Bool}{id:String}{px apos pos spos:Pos}{args:List Expr}{fa:List LV→Option (List D)}{g:List D→List D→Option (List D)}(hn:Sg.names[i]? =some (x,b))(hg:QO prog w n id g)
  (slot:Slot "list" name id)(hty:typeOf (.builtin id)=pure (.type "method_descriptor"))(hp:DK args)(hl:args.length<30)(hline:(apos.endLine==pos.line)=true)(h:FM prog w AA n Sg args fa)
  (hi:∀env:Env,env.scope.kind=.function→interactive env=false):
  XS prog w AA n Sg (.Expr (.Call (.Attribute (.Name x px) name apos) args [] pos) spos) (λρ=>D9 ρ[i]? λp ds=>(fa ρ).bind λes=>(g ds es).map λds'=>(.next,ρ.set i (.own (.list p) ds'))):=by
 refine λenv A s ρ ρ' out hid he ow la E H hA S hf=>MC hf λp ds hv hf=>AK hf λes hes hf=>KT hf λds' hds'=>(I3 S hn hv).casesOn λl hla hx hlo hlL vs hpl hd=>?_;refine wpAny_Expr (wpAny_Call_method rfl (NC hp hl) hline PySem.F.plainAttrs_list slot hty (FG H hn hx ⟨hpl.isList.typeIs,λa e=>hpl.elim λk r=>⟨_,Value.ref.inj e▸r,rfl⟩,?_⟩)) (hi env H.kind) rfl;refine JX nofun (by rw[HX];exact hp env) (GC hp (GL.wp_g (h env A s ρ es hid he ow la pos E H hA S hes) λus AB du A6=>?_));have Ey:=hpl.at λo=>A6.grows l o;refine BD (hg A AB (AY hid ow) l vs us ds es ds' E hA (.inr hlo) Ey (hd.mono (DJ A6.grows)) du hds') λv AF x=>x.casesOn λev vs' h' tk es2 AZ hp' hd'=>?_;rw[ev,es2];exact hp'.elim λk' e'=>qF (S.grows A6.grows) (.of_kp A6) hn hv hla hlo AZ e' hd'
theorem LM{o:Expr}{name:Str}{T id:String}{apos pos:Pos}{args:List Expr}{fo:EF}{fa:List LV→Option (List D)}{isT:D→Bool}{g:DF}(hb:∀env t,attributeBase o name env t=t)(ho:PO prog w AA n Sg o fo)
  (hT:∀(s:Shared) hid v d,BH s.heap hid v d→isT d=true→s.TypeIs v T∧∀a,v=.ref a→∃ob,s.heap.get? a=some ob∧ob.dict=none)
  (pa:PlainAttrs T)(slot:Slot T name id)(hty:typeOf (.builtin id)=pure (.type "method_descriptor"))(hg:FL prog w AA n (.builtin id) g)(hp:DK args)(hl:args.length<30)(hline:(apos.endLine==pos.line)=true)(h:L1 prog w AA n Sg args fa):
  PE prog w AA n Sg (.Call (.Attribute o name apos) args [] pos) (λρ=>(fo ρ).bind λr=>if isT r then(fa ρ).bind λl=>g (r::l)else none):=by
 refine λenv A s ρ d hid he ow la E H hA S hf=>AK hf λr hr hf=>DM hf λht hf=>AK hf λds hds hf=>?_;refine wpAny_Call_method (hb env _) (NC hp hl) hline pa slot hty (GO.wp_g (ho env A s ρ r hid he ow la E H hA S hr) λv AB dv A6=>⟨(hT AB _ v r dv ht).1,(hT AB _ v r dv ht).2,?_⟩);have BS:=S.grows A6.grows;refine JX nofun (by rw[HX];exact hp env) (GC hp (BD (h env A AB ρ ds hid he ow la pos E H hA BS hds) λvs AF x=>?_));have B4:=BS.grows x.k.grows;exact GD.wp_g (hg A AF _ (v::vs) (r::ds) d E hA (B4.base.trans B4.keep) B4.hidOK ⟨dv.grows x.k.grows,x.d⟩ hf) λv BI q EJ=>⟨q,(A6.trans x.k).trans EJ⟩
def isStr(d:D):Bool:=(E6 d).isSome
def cN(d:D):Bool:=(CX d).isSome
theorem LS(s:Shared)(hid:Addr→Prop)(v:Value)(d:D)(h:BH s.heap hid v d)(hd:isStr d=true):s.TypeIs v "str"∧∀a,v=.ref a→∃ob,s.heap.get? a=some ob∧ob.dict=none:=
 (Option.isSome_iff_exists.mp hd).elim λx e=>h.strE (f:=some) (b:=x) (by rw[e];rfl) λV V V=>⟨rfl,nofun⟩
theorem qE(s:Shared)(hid:Addr→Prop)(v:Value)(d:D)(h:BH s.heap hid v d)(hd:cN d=true):s.TypeIs v "list"∧∀a,v=.ref a→∃ob,s.heap.get? a=some ob∧ob.dict=none:=by
 have:∃a m vs,v=.ref a∧s.heap.get? a=some {cls:=.type "list",data:=.seq vs m}:=by
  refine(Option.isSome_iff_exists.mp hd).elim λx e=>?_;rw[L3 e]at h;exact h.elim (λq=>q.inv.elim λa q=>q.elim λvs q=>q.elim λn q=>⟨a,n,_,q.1,q.2.1.1⟩) λq=>q.elim λa q=>q.elim λvs q=>q.elim λds q=>q.2.2.1.elim λn r=>⟨a,n,_,q.1,r⟩
 obtain⟨a,m,vs,q,e⟩:=this;rw[q];exact⟨⟨_,e,rfl⟩,λb r=>⟨_,Value.ref.inj r▸e,rfl⟩⟩
theorem PG{s:Shared}{h':Heap}{tk:Nat}(k:∀b o,s.heap.get? b=some o→h'.get? b=some o):Kp s {s with heap:=h',toks:=tk}:=⟨h',tk,rfl,k⟩
def GA:List D→Option D:=EO λd=>NZ (CX d) (λl=>if BG l then some (.int l.length)else none) ((JC d).bind λl=>if BG l then some (.int l.length)else none)
theorem KL:FL prog w AA n (.builtin "len") GA:=
 λA s hid vs ds d E hA hb K hd hf=>hd.oneE hf λv d dv hf=>U9 hf
  (λl e hf=>CV hf λhs=>dv.lstE e λa us hl hdl=>Calls.call_len_list hl (by have:=hdl.fits hs;lia) ⟨by rw[List.size_toArray,hdl.length];exact .int _ _,Kp.toks _ _⟩)
  λhf=>AK hf λl e hf=>CV hf λhs=>dv.tupE e λa us hl hdl=>PyProof.Rows.len_tuple hl (by have:=hdl.fits hs;lia) ⟨by rw[List.size_toArray,hdl.length];exact .int _ _,Kp.toks _ _⟩
def G5:List D→Option D:=EO λd=>(B6 d).bind λi=>if 0≤i∧i≤1114111 then some (.str ⟨#[i.toNat]⟩)else none
theorem OY:FL prog w AA n (.builtin "chr") G5:=
 λA s hid vs ds d E hA hb K hd hf=>hd.oneE hf λv d dv hf=>dv.intE hf λi t hf=>CV hf λhs=>chr_of_range hs.1 hs.2 ⟨.str _ _,Kp.toks _ _⟩
def O6:List D→Option D:=EO λd=>(E6 d).bind λx=>if x.length=1 then some (.int (x.cps.getD 0 0:Nat))else none
theorem TZ:FL prog w AA n (.builtin "ord") O6:=
 λA s hid vs ds d E hA hb K hd hf=>hd.oneE hf λv d dv hf=>dv.strE hf λi t hf=>CV hf λhs=>ord_of_one hs ⟨.int _ _,Kp.toks _ _⟩
def aZ:List D→Option D:=EO λd=>(HV d).bind λx=>if Float64.isFinite x then some (.int (PySem.Flt.toInt Float64.nearestOf x))else none
theorem nX{x:UInt64}(hs:Float64.isFinite x=true):Float64.isNaN x≠true∧Float64.isInf x≠true:=by
 unfold Float64.isFinite at hs;unfold Float64.isNaN Float64.isInf;cases e:Float64.decode x with
 |fin=>exact⟨nofun,nofun⟩
 |_=>rw[e]at hs;exact nomatch hs
theorem lT:FL prog w AA n (.builtin "round") aZ:=
 λA s hid vs ds d E hA hb K hd hf=>hd.oneE hf λv d dv hf=>dv.fltE hf λx t hf=>CV hf λhs=>PySem.Flt.call_round_float hA.1 (λe=>absurd e (nX hs).1) (λe=>absurd e (nX hs).2) λV=>⟨.int _ _,Kp.toks _ _⟩
def mP:List D→Option D:=EO λd=>(HV d).bind λx=>match Float64.decode x with
  |.fin sg m e=>some (.int (Float64.truncOf sg m e))
  |_=>none
theorem yD:FL prog w AA n (.type "int") mP:=by
 refine λA s hid vs ds d E hA hb K hd hf=>hd.oneE hf λv d dv hf=>dv.fltE hf λx t hf=>?_;cases e:Float64.decode x with
 |fin sg m e'=>rw[e]at hf;exact DA hf (call_int_float e ⟨.int _ _,Kp.toks _ _⟩)
 |_=>rw[e]at hf;exact AI hf
noncomputable def E7{α:Type}(bt:α→α→Bool):α→List α→α
 |b,[]=>b
 |b,x::r=>E7 bt (if bt x b then x else b) r
def M7:List D→Option D:=I4 λa b=>(B6 a).bind λa=>(B6 b).bind λb=>some (.int (if b>a then b else a))
theorem Z0:FL prog w AA n (.builtin "max") M7:=
 λA s hid vs ds d E hA hb K hd hf=>hd.twoE hf λv u d e dv du hf=>dv.intE hf λa t hf=>du.intE hf λb t' hf=>DA hf (max_two_ints hA.1 λh' tk k=>⟨by split<;>exact .int _ _,PG k⟩)
theorem xF(f:UInt64→UInt64→Bool)(g:Nat→UInt64):g (argBest (λi j=>f (g i) (g j)) 2)=E7 f (g 0) [g 1,g 2]:=by
 have h1:g (argBest (λi j=>f (g i) (g j)) 1)=if f (g 1) (g 0)then g 1 else g 0:=apply_ite g ..
 refine(apply_ite g (f (g 2) (g (argBest (λi j=>f (g i) (g j)) 1))=true) 2 _).trans ?_;rw[h1];rfl
theorem pF{A:Around}{s:Shared}{a b c:UInt64}{t u v:Tok}{op:CmpOp}(bt:UInt64→UInt64→Bool)(hh:A.handled=none)(hbt:∀(s:Shared)(x y:UInt64)(t u:Tok)(Q:Value→Shared→Prop)(E:Value→Shared→Prop),Q (.bool (bt x y)) s→wpAny (model prog w) A.in1 (richCompare op (.float x t) (.float y u)) Q E s){Q:Value→Shared→Prop}{E:Value→Shared→Prop}
  (hQ:∀t' h' tk,(∀b o,s.heap.get? b=some o→h'.get? b=some o)→Q (.float (E7 bt a [b,c]) t') {s with heap:=h',toks:=tk}):
  wpAny (model prog w) A.in1 (pyIter (.ref s.heap.objs.size)) (λit AF=>∃I fp wr n P St bt,it=.ref I∧Walks prog w A.in1 I fp wr n P St∧St 0 AF.heap∧(∀b∈fp,b<AF.heap.objs.size)∧0<n∧CmpOf prog w A.in1 op P bt∧
   ∀v h' tk,P (argBest bt (n-1)) v→(∀b o,b∉wr→AF.heap.get? b=some o→h'.get? b=some o)→Q v {AF with heap:=h',toks:=tk}) E
   {s with heap:=s.heap.push {cls:=.type "tuple",data:=.seq #[.float a t,.float b u,.float c v]}}:=by
 have hT:(s.heap.push {cls:=.type "tuple",data:=.seq #[.float a t,.float b u,.float c v]}).IsTuple s.heap.objs.size #[.float a t,.float b u,.float c v]:=⟨_,Heap.get?_push_size _ rfl,rfl,0,rfl⟩;refine wpAny_pyIter_tuple hT ?_;have hsz:(s.heap.push {cls:=.type "tuple",data:=.seq #[.float a t,.float b u,.float c v]}).objs.size=s.heap.objs.size+1:=Heap.size_push ..
 let at':Nat→UInt64:= λi=>if i=0 then a else if i=1 then b else c
 have hat:∀(i:Nat)(x:Value),(#[Value.float a t,.float b u,.float c v]:Array Value)[i]? =some x→i<3∧∃t,x=.float (at' i) t:=by
  intro i x hx
  match i,hx with
  |0,hx=>cases hx;exact⟨by decide,_,rfl⟩
  |1,hx=>cases hx;exact⟨by decide,_,rfl⟩
  |2,hx=>cases hx;exact⟨by decide,_,rfl⟩
  |i+3,hx=>simp at hx
 refine⟨_,[_,s.heap.objs.size],[_],3,_,_,(λi j=>bt (at' i) (at' j)),rfl,Walks.tuple (A:=A.in1) hh _ s.heap.objs.size (by rw[hsz];exact Nat.ne_of_lt (Nat.lt_succ_self _)) #[.float a t,.float b u,.float c v],
  ⟨⟨_,Heap.get?_push_size _ rfl,rfl,rfl⟩,hT.push _⟩,λc hc=>?_,by decide,λi j vi vj s Q E hi hj hQ=>?_,λx h' tk hP hk=>?_⟩
 ·show c<((s.heap.push _).push _).objs.size;rw[Heap.size_push,hsz];rcases List.mem_cons.mp hc with rfl|hc
  ·rw[hsz];exact Nat.lt_succ_self _
  ·rw[List.mem_singleton.mp hc];exact Nat.lt_succ_of_lt (Nat.lt_succ_self _)
 ·obtain⟨_,t1,rfl⟩:=hat i vi hi;obtain⟨_,t2,rfl⟩:=hat j vj hj;exact hbt s _ _ _ _ Q E hQ
 ·obtain⟨_,t',e⟩:=hat _ _ hP;rw[e,show(3-1:Nat)=2 from rfl,xF bt at'];refine hQ t' h' tk λb o eb=>?_;have hb:b<s.heap.objs.size:=Heap.lt_size eb;exact hk b o (λq=>by have q':=List.mem_singleton.mp q;rw[hsz]at q';exact absurd hb (by rw[q'];exact Nat.not_lt.mpr (Nat.le_succ _))) (Heap.get?_push_of_some _ (Heap.get?_push_of_some _ eb))
noncomputable def nK(x y:UInt64):Bool:=Float64.cmp x y==some Ordering.gt
noncomputable def nM(x y:UInt64):Bool:=Float64.cmp x y==some Ordering.lt
def lK(f:UInt64→UInt64→Bool):List D→Option D:=P8 λa b c=>(HV a).bind λa=>(HV b).bind λb=>(HV c).bind λc=>some (.flt (E7 f a [b,c]))
def mU:List D→Option D:=lK nK
def mW:List D→Option D:=lK nM
theorem yF:FL prog w AA n (.builtin "max") mU:=
 λA s hid vs ds d E hA hb K hd hf=>hd.threeE hf λv u x a b c dv du dx hf=>dv.fltE hf λa t hf=>du.fltE hf λb t' hf=>dx.fltE hf λc t2 hf=>DA hf
  (call_max_three (pF (s:=s) (t:=t) (u:=t') (v:=t2) (Q:=DP hid _ s) nK hA.1 (λs x y t u Q E h=>richCompare_gives (op:=.Gt) (typeIs_float s x t) (typeIs_float s y u) F.slot_float_gt F.entry_float_gt (F.args_float_gt_2 _ _) (AutoFloatG4.float___gt___float_float_0 x t y u) (λx=>nomatch x) h) λt' h' tk k=>⟨.flt _ _,PG k⟩))
theorem yH:FL prog w AA n (.builtin "min") mW:=
 λA s hid vs ds d E hA hb K hd hf=>hd.threeE hf λv u x a b c dv du dx hf=>dv.fltE hf λa t hf=>du.fltE hf λb t' hf=>dx.fltE hf λc t2 hf=>DA hf
  (call_min_three (pF (s:=s) (t:=t) (u:=t') (v:=t2) (Q:=DP hid _ s) nM hA.1 (λs x y t u Q E h=>richCompare_gives (op:=.Lt) (typeIs_float s x t) (typeIs_float s y u) F.slot_float_lt F.entry_float_lt (F.args_float_lt_2 _ _) (AutoFloatG5.float___lt___float_float_0 x t y u) (λx=>nomatch x) h) λt' h' tk k=>⟨.flt _ _,PG k⟩))
def JH:List D→Option D:=EO λd=>(E6 d).bind λx=>if PySem.Builtin.Str.tooLong (Txt.lower x).length=false then some (.str (Txt.lower x))else none
theorem Q2:FL prog w AA n (.builtin "str.lower") JH:=
 λA s hid vs ds d E hA hb K hd hf=>hd.oneE hf λv d dv hf=>dv.strE hf λx t hf=>CV hf λhs=>SC.lower hs ⟨.str _ _,Kp.toks _ _⟩
def Q6:List D→Option D:=I4 λa b=>(E6 a).bind λx=>(E6 b).bind λy=>some (.int (Txt.count x y))
theorem lR:FL prog w AA n (.builtin "str.count") Q6:=
 λA s hid vs ds d E hA hb K hd hf=>hd.twoE hf λv u d e dv du hf=>dv.strE hf λx t hf=>du.strE hf λy t' hf=>DA hf (SC.count ⟨.int _ _,Kp.toks _ _⟩)
def SI:List D→Option (List Str):=OT E6
theorem Oj{g:Gm}{vs:List Value}{ds:List D}{xs:List Str}(a:AJ g vs ds)(h:SI ds=some xs):∃l:List (Str×Tok),vs=strValues l∧l.map (·.1)=xs:=by
 induction ds generalizing vs xs with
 |nil=>exact⟨[],a.nil_inv,Option.some.inj h⟩
 |cons d ds ih=>
  obtain⟨v,us,e,p,q⟩:=a.cons_inv;refine AK h λx hx h=>FV h λr hr=>?_;rw[QY hx]at p;obtain⟨t,et⟩:=p.str_inv;obtain⟨l,e1,e2⟩:=ih q hr;exact⟨(x,t)::l,by rw[e,et,e1];rfl,congrArg (x::·) e2⟩
def aP:List D→Option D:=I4 λa b=>(E6 a).bind λx=>(CX b).bind λl=>(SI l).bind λxs=>if JoinOk x xs then some (.str (Txt.join x xs))else none
theorem yE:FL prog w AA n (.builtin "str.join") aP:=by
 refine λA s hid vs ds d E hA hb K hd hf=>hd.twoE hf λv u d e dv du hf=>dv.strE hf λx t hf=>AK hf λl el hf=>AK hf λxs hxs hf=>CV hf λhk=>du.lstE el λa us hl hdl=>?_;obtain⟨l,e1,e2⟩:=Oj hdl hxs;rw[e1]at hl;rw[←e2]at hk⊢;exact SC.join hl rfl hk λt' k=>⟨.str _ _,Kp.toks _ _⟩
def J5:List D→Option (List Int):=OT B6
theorem cL{g:Gm}{vs:List Value}{ds:List D}{xs:List Int}(a:AJ g vs ds)(h:J5 ds=some xs):IntsAre vs xs:=by
 induction ds generalizing vs xs with
 |nil=>rw[a.nil_inv];exact DA h .nil
 |cons d ds ih=>
  obtain⟨v,us,e,p,q⟩:=a.cons_inv;refine AK h λx hx h=>FV h λr hr=>?_;rw[HW hx]at p;obtain⟨t,et⟩:=p.int_inv;rw[e,et];exact .cons x t (ih q hr)
def RA:List D→Option D:=EO λd=>(CX d).bind λl=>(J5 l).map λxs=>.int xs.sum
theorem Z2:FL prog w AA n (.builtin "sum") RA:=by
 refine λA s hid vs ds d E hA hb K hd hf=>hd.oneE hf λv d dv hf=>AK hf λl el hf=>FV hf λxs hxs=>dv.lstE el λa us hl hdl=>?_;have hi:=cL hdl hxs;obtain⟨ys,hys⟩:=hi.allInts.items;rw[hys]at hl;refine sum_intListG hA.1 hl λh' tk t' k=>⟨?_,PG k⟩;rw[show preSum (numAt ys) ys.size=xs.sum by rw[preSum_eq,List.take_of_length_le (by simp),←nums_intItems,←hys,hi.numsOf]];exact .int _ _
def dI:List Int→Option Int
 |[]=>none
 |a::r=>some (E7 (λx y=>decide (x>y)) a r)
theorem ZW(r:List Int)(a:Int):E7 (λx y=>decide (x>y)) a r∈a::r∧∀b∈a::r,b≤E7 (λx y=>decide (x>y)) a r:=by
 induction r generalizing a with
 |nil=>exact⟨.head _,E5 (Int.le_refl _)⟩
 |cons x r ih=>
  by_cases q:x>a
  ·rw[show E7 (λx y=>decide (x>y)) a (x::r)=E7 (λx y=>decide (x>y)) x r from congrArg (E7 _ · r) (if_pos (decide_eq_true q))];exact⟨.tail _ (ih x).1,D4 (Int.le_trans (Int.le_of_lt q) ((ih x).2 x (.head _))) (ih x).2⟩
  ·rw[show E7 (λx y=>decide (x>y)) a (x::r)=E7 (λx y=>decide (x>y)) a r from congrArg (E7 _ · r) (if_neg λe=>q (of_decide_eq_true e))];exact⟨(List.mem_cons.mp (ih a).1).elim (λe=>by rw[e];exact .head _) λm=>.tail _ (.tail _ m),D4 ((ih a).2 a (.head _)) (D4 (Int.le_trans (Int.not_lt.mp q) ((ih a).2 a (.head _))) λb hb=>(ih a).2 b (.tail _ hb))⟩
theorem xH{ys:Array (Int×Tok)}{xs:List Int}{m:Int}(hnum:ys.toList.map (·.1)=xs)(hm:dI xs=some m):0<ys.size∧numAt ys (argBest (λi j=>decide (numAt ys i>numAt ys j)) (ys.size-1))=m:=by
 have hl:xs.length=ys.size:=by rw[←hnum,List.length_map];rfl
 cases xs with
 |nil=>exact AI hm
 |cons x r=>
  have hp:0<ys.size:=hl▸Nat.succ_pos _;refine⟨hp,?_⟩;obtain⟨g1,g2⟩:=argBest_gt (numAt ys) (ys.size-1);obtain⟨m1,m2⟩:=ZW r x;have at_:∀i (h:i<(x::r).length),numAt ys i=(x::r)[i]:= λi h=>by rw[numAt_eq,hnum,List.getD_eq_getElem?_getD,List.getElem?_eq_getElem h];rfl
  rw[←Option.some.inj hm];refine Int.le_antisymm (m2 _ ?_) ?_
  ·rw[at_ _ (by lia)];exact List.getElem_mem _
  ·obtain⟨j,hj,ej⟩:=List.getElem_of_mem m1;have:=g2 j (by lia);rwa [at_ j hj,ej]at this
def M8:List D→Option D:=EO λd=>(CX d).bind λl=>(J5 l).bind λxs=>(dI xs).map .int
theorem Z1:FL prog w AA n (.builtin "max") M8:=by
 refine λA s hid vs ds d E hA hb K hd hf=>hd.oneE hf λv d dv hf=>AK hf λl el hf=>AK hf λxs hxs hf=>FV hf λm hm=>dv.lstE el λa us hl hdl=>?_;have hi:=cL hdl hxs;obtain⟨ys,hys⟩:=hi.allInts.items;rw[hys]at hl;obtain⟨h0,h1⟩:=xH (by rw[←nums_intItems,←hys,hi.numsOf]) hm;refine max_intList hA.1 hl h0 λv h' tk hv k=>⟨?_,PG k⟩;obtain⟨t,e⟩:=intItems_at hv;rw[e,h1];exact .int _ _
def Pi(d:D):Option String:=NZ (CX d) (λV=>some "list") ((E6 d).bind λV=>some "str")
def RB:List D→Option D:=EO λd=>(Pi d).map .ty
theorem lU:FL prog w AA n (.type "type") RB:=
 λA s hid vs ds d E hA hb K hd hf=>hd.oneE hf λv d dv hf=>FV hf λT hT=>U9 hT
  (λl e hT=>DA hT (call_type_of (qE s hid v _ dv (congrArg Option.isSome e)).1 (by decide) ⟨.ty _,Kp.refl _⟩))
  λhT=>AK hT λx e hT=>DA hT (call_type_of (LS s hid v _ dv (congrArg Option.isSome e)).1 (by decide) ⟨.ty _,Kp.refl _⟩)
def aL:List D→Option D:=I4 λa b=>(CX a).bind λl=>(B6 b).bind λx=>if BG l&&LG l then(KR x l).map (λ(j:Nat)=>D.int (j:Int))else none
@[elab_as_elim] theorem BH.plainE{h:Heap}{hid:Addr→Prop}{v:Value}{d:D}{l:List D}{P:Value→Prop}(x:BH h hid v d)(e:CX d=some l)(k:∀a vs n,h.get? a=some {cls:=.type "list",data:=.seq (List.toArray vs) n}→AJ (AL h hid) vs l→P (.ref a)):P v:=by
 rw[L3 e]at x;rcases x with x|⟨a,vs,ds,q,e,⟨n,hp⟩,hd⟩
 ·exact x.lstE rfl λa vs n g r=>k a vs n g.1 r
 ·rw[q];exact k a vs n hp (D.lst.inj e▸hd)
theorem BH.plain{h:Heap}{hid:Addr→Prop}{v:Value}{l:List D}(x:BH h hid v (.lst l)):∃a vs,v=.ref a∧h.PlainList a (List.toArray vs)∧AJ (AL h hid) vs l:=
 x.plainE rfl λa vs n g r=>⟨a,vs,rfl,⟨n,g⟩,r⟩
theorem yC:FL prog w AA n (.builtin "list.index") aL:=by
 refine λA s hid vs ds d E hA hb K hd hf=>hd.twoE hf λv u d e dv du hf=>AK hf λl el hf=>du.intE hf λx t hf=>DM hf λhsm hf=>FV hf λj hj=>dv.plainE el λa us k e1 hdl=>?_;rw[Bool.and_eq_true]at hsm;have s1:=hdl.fits hsm.1;obtain⟨hjl,q1,q2,q3⟩:=nF (t:=t) hsm.2 hdl hj;exact call_meetsIn PySem.F.slot_list_index ⟨_,e1,rfl⟩ PySem.F.entry_list_index (PySem.F.args_list_index_2 _ _) ((MeetsSeq.list_index a us.toArray k (.int x t) (LB x) q1 j hjl (by lia) q2 q3).inModel prog w) ⟨e1,.int _ _,Kp.toks _ _⟩
def bA:List D→Option D:=EO λd=>(CX d).bind λl=>if BG l then some (.tup l)else none
theorem yI:FL prog w AA n (.type "tuple") bA:=
 λA s hid vs ds d E hA hb K hd hf=>hd.oneE hf λv d dv hf=>AK hf λl el hf=>CV hf λhs=>dv.lstE el λa us hl hdl=>
  call_tuple_list hl (λh' k=>have kg:A3 s.heap h':=k
   ⟨bD (K.grows kg) (hdl.mono (DJ kg)),⟨_,s.toks,rfl,λb o e=>A3.push _ _ _ _ (k b o e)⟩⟩) (by have:=hdl.fits hs;rw[sizeLine_eq];lia)
end
noncomputable def IO(h:Heap)(L:Addr):List (Addr×Obj):=(List.range h.objs.size).filterMap λa=>if a=L then none else(h.get? a).map λo=>(a,o)
theorem JV{h:Heap}{L:Addr}{a:Addr}{o:Obj}:(a,o)∈IO h L↔a≠L∧h.get? a=some o:=by
 rw[IO,List.mem_filterMap];refine⟨λ⟨b,hb,e⟩=>?_,λq=>⟨a,List.mem_range.mpr (Heap.lt_size q.2),by rw[if_neg q.1,q.2];rfl⟩⟩;refine PD e λhne e=>?_;obtain⟨o',ho',e⟩:=Option.map_eq_some_iff.mp e;exact(Prod.mk.inj e).1▸(Prod.mk.inj e).2▸⟨hne,ho'⟩
noncomputable abbrev FW:Heap:={}
theorem NV(a:Addr):FW.get? a=none:=Heap.get?_none_of_le (Nat.zero_le _)
theorem KI(h:Heap)(L:Addr):News FW L h (IO h L):= λp hp=>by
 obtain⟨a,o⟩:=p;obtain⟨h1,h2⟩:=JV.mp hp;exact⟨h2,h1,NV a⟩
theorem PM{h:Heap}{L:Addr}{m:Str→Option Value}(hn:h.Ns L m):Fr FW L h m:=⟨hn,λb o e=>BO (NV b) e,Nat.zero_le _⟩
section
variable{prog:Program}{w:World}{AA:Heap}{n:Nat}{Sg:AP}{mg mb:Str→Option Value}
theorem oJ{A:Around}{s:Shared}{E:Value→Shared→Prop}{t:Sem Value}{P:Value→Heap→Prop}(B:B0 AA mg mb)(hb:A3 AA s.heap)
  (h:∀(L:Addr)(m:Str→Option Value)(news:List (Addr×Obj)),Fr FW L s.heap m→News FW L s.heap news→wpAny (model prog w) A t (λv s'=>∃h' tk,s'={s with heap:=h',toks:=tk}∧P v h'∧News FW L h' news) E s):
  wpAny (model prog w) A t (λv s'=>P v s'.heap∧Kp s s') E s:=by
 have h1:=h mainGlobals mg _ (PM (B.ng.keeps hb)) (KI s.heap mainGlobals);have h2:=h builtinsNs mb _ (PM (B.nb.keeps hb)) (KI s.heap builtinsNs);refine wpAny_mono (fD h1 h2) (λv s'=>?_) λe s' q=>q.1;rintro⟨⟨h',tk,rfl,p1,n1⟩,⟨h'',tk',e,p2,n2⟩⟩;have e':h'=h'':=congrArg Shared.heap e;subst e';refine⟨p1,⟨h',tk,rfl,λb o eb=>?_⟩⟩;by_cases q:b=mainGlobals
 ·have nb:b≠builtinsNs:=q▸B.ne;exact(n2 (b,o) (JV.mpr ⟨nb,eb⟩)).1
 ·exact(n1 (b,o) (JV.mpr ⟨q,eb⟩)).1
def TQ(prog:Program)(w:World)(AA:Heap)(n:Nat)(fv:Value)(f:List D→Option (List D)):Prop:=
 ∀(A:Around)(s:Shared)(hid:Addr→Prop)(vs:List Value)(ds:List D)(out:List D)(E:Value→Shared→Prop),B9 n A→A3 AA s.heap→D7 hid s.heap→ED s.heap hid vs ds→f ds=some out→
  wpAny (model prog w) A (call fv vs) (λv s'=>(∃l us,v=.ref l∧s.heap.get? l=none∧s'.heap.PlainList l (List.toArray us)∧AJ (AL s'.heap (DU hid [l])) us out)∧Kp s s') E s
theorem U5{hid:Addr→Prop}{ow:List Addr}{out:List D}{s AB s':Shared}{v:Value}(A6:Kp s AB)(x:(∃l us,v=.ref l∧AB.heap.get? l=none∧s'.heap.PlainList l (List.toArray us)∧AJ (AL s'.heap (DU (AY hid ow) [l])) us out)∧Kp AB s'):YT hid ow out s v s':=
 x.1.elim λl q=>q.elim λus q=>⟨l,us,q.1,FE A6.grows q.2.1,q.2.2.1,q.2.2.2.mono (GN λa q=>q.elim (λq=>.inl (.inl q)) λq=>(List.mem_cons.mp q).elim (λq=>.inr (q▸ .head _)) λq=>.inl (.inr q)),A6.trans x.2⟩
theorem PY(B:B0 AA mg mb)(i:Nat){x:Str}{fv:Value}{p pos:Pos}{es:List Expr}{g:List D→Option (List D)}{f:List LV→Option (List D)}(hn:Sg.globs[i]? =some x)(hv:BK mg mb x fv)(hr:∀a,fv≠.ref a)
  (hg:TQ prog w AA n fv g)(hp:DK es)(h:L1 prog w AA n Sg es f):PN prog w AA n Sg (.Call (.Name x p) es [] pos) (λρ=>(f ρ).bind g):=by
 refine λenv A s ρ d hid he ow la E H hA S hf=>AK hf λds hds hf=>?_;refine(?_:wpAny (model prog w) A (do callWith pos (←eval (.Name x p) env) [] (backTo pos (starEach es env)) (backToKw pos (keywordEach [] env))) _ E s);refine wpAny_bind (IE B H hn hv (S.base.trans S.keep) (JX hr (by rw[HX];exact hp env) (GC hp (BD (h env A s ρ ds hid he ow la pos E H hA S hds) λvs AB x=>?_))));have S':=S.grows x.k.grows;exact BD (hg A AB _ vs ds d E hA (S'.base.trans S'.keep) S'.hidOK x.d hf) λv AF y=>U5 x.k y
theorem cK{g:Gm}:∀{vs:List Value}{xs:List Int},IntsAre vs xs→AJ g vs (xs.map .int)
 |_,_,.nil=>.nil
 |_,_,.cons x t r=>.cons (.int x t) (cK r)
noncomputable def HI(x:Int):List Int→List Int
 |[]=>[x]
 |y::r=>if x≤y then x::y::r else y::HI x r
def OC:List Int→List Int
 |[]=>[]
 |x::r=>HI x (OC r)
theorem cH(x:Int):∀l,(HI x l).Perm (x::l)
 |[]=>.refl _
 |y::r=>by
  unfold HI;split
  ·exact .refl _
  ·exact((cH x r).cons y).trans (.swap _ _ _)
theorem sI:∀l,(OC l).Perm l
 |[]=>.refl _
 |x::r=>(cH x _).trans ((sI r).cons x)
theorem pD(x:Int):∀l,l.Pairwise (· ≤·)→(HI x l).Pairwise (· ≤·)
 |[],_=>by simp[HI]
 |y::r,h=>by
  unfold HI;obtain⟨h1,h2⟩:=List.pairwise_cons.mp h;split
  ·rename_i hxy;refine List.pairwise_cons.mpr ⟨λz hz=>?_,h⟩;rcases List.mem_cons.mp hz with rfl|hz
   ·exact hxy
   ·exact Int.le_trans hxy (h1 z hz)
  ·rename_i hxy;refine List.pairwise_cons.mpr ⟨λz hz=>?_,pD x r h2⟩;rcases List.mem_cons.mp ((cH x r).mem_iff.mp hz)with rfl|hz
   ·lia
   ·exact h1 z hz
theorem sJ:∀l,(OC l).Pairwise (· ≤·)
 |[]=>.nil
 |x::r=>pD x _ (sJ r)
theorem Nh:∀{a b:List Int},a.Perm b→a.Pairwise (· ≤·)→b.Pairwise (· ≤·)→a=b:=ksm_same
def UB:List D→Option (List D):=EO λd=>(CX d).bind λl=>(J5 l).bind λxs=>if xs.length<64 then some ((OC xs).map .int)else none
theorem yK(B:B0 AA mg mb):TQ prog w AA n (.builtin "sorted") UB:=by
 refine λA s hid vs ds out E hA hb K hd hf=>hd.oneE hf λv d dv hf=>AK hf λl el hf=>AK hf λxs hxs hf=>CV hf λh64=>dv.lstE el λa us hl hdl=>?_;have hi:=cL hdl hxs;refine BD (oJ (P:= λv h'=>∃l us,v=.ref l∧s.heap.get? l=none∧h'.PlainList l (List.toArray us)∧IntsAre us (OC xs)) B hb λL m news F N=>?_) λv s' x=>⟨x.1.elim λl q=>q.elim λus q=>⟨l,us,q.1,q.2.1,q.2.2.1,cK q.2.2.2⟩,x.2⟩
 exact sorted_N (news:=news) F N hl hi (by have:=hi.length;lia) λh' vs' ns' e F' N' a1 a2 a3=>
  ⟨h',s.toks,rfl,⟨_,vs',rfl,Heap.get?_none_of_le (Nat.le_succ _),⟨e,(N' _ (.head _)).1⟩,Nh (a2.trans (sI xs).symm) a3 (sJ xs)▸a1⟩,λp hp=>N' p (.tail _ hp)⟩
def Q9(l:List D):Option D:=FR (EO (λb=>(B6 b).bind λb=>some (.rng 0 b)) l) (I4 (λa b=>(B6 a).bind λa=>(B6 b).bind λb=>some (.rng a b)) l)
theorem lS:FL prog w AA n (.type "range") Q9:=
 λA s hid vs ds d E hA hb K hd hf=>G7 hf
  (λhf=>hd.oneE hf λv d dv hf=>dv.intE hf λb t hf=>DA hf (call_range_1 ⟨.rng ⟨IsRange.new ..,K.fresh (DT _)⟩ ⟨_,_,_,λh e=>e⟩,(Kp.push s _).trans (Kp.toks {s with heap:=s.heap.push _} _)⟩))
  λhf=>hd.twoE hf λv u d e dv du hf=>dv.intE hf λa t hf=>du.intE hf λb t' hf=>DA hf (call_range_2 ⟨.rng ⟨IsRange.new ..,K.fresh (DT _)⟩ ⟨_,_,_,λh e=>e⟩,(Kp.push s _).trans (Kp.toks {s with heap:=s.heap.push _} _)⟩)
@[elab_as_elim] theorem BH.rngE{h:Heap}{hid:Addr→Prop}{v:Value}{d:D}{p:Int×Int}{P:Value→Prop}(x:BH h hid v d)(e:M5 d=some p)(k:∀r t u w,IsRange h r p.1 p.2 1 t u w→P (.ref r)):P v:=by
 rw[lH e]at x;obtain⟨r,o,q,g,t,u,w,r'⟩:=(x.den rfl).inv;rw[q];exact k r t u w (r' h g.1)
theorem BH.rng{h:Heap}{hid:Addr→Prop}{v:Value}{a b:Int}(x:BH h hid v (.rng a b)):∃r t u w,v=.ref r∧IsRange h r a b 1 t u w:=x.rngE rfl λr t u w q=>⟨r,t,u,w,rfl,q⟩
def aQ:List D→Option (List D):=EO λd=>(M5 d).bind λp=>if HN p.1 p.2 then some (EQ p.1 p.2)else none
theorem rU{a b:Int}{i:Nat}{d:D}(h:(EQ a b)[i]? =some d):d=.int (a+i):=by
 obtain⟨x,q,e⟩:=Option.map_eq_some_iff.mp ((List.getElem?_map ..).symm.trans h);rw[List.getElem?_eq_some_iff]at q;exact q.elim λV q=>by rw[←e,←q,List.getElem_range]
theorem yJ:TQ prog w AA n (.type "list") aQ:=by
 refine λA s hid vs ds out E hA hb K hd hf=>hd.oneE hf λv d dv hf=>AK hf λp ep hf=>CV hf λhk=>dv.rngE ep λr t u x hr=>?_;have hk:=eE hk;have h1:=U4 hk.1.1;have h2:=U4 hk.1.2;exact call_list_range hA.1 hr (small_one (by lia) (by lia) (by lia) (by lia)) (eH ..) (by lia) λh' tk acc' c' k hS hacc=>⟨⟨_,acc'.toList,rfl,DT _,⟨c',hS⟩,.of_get ((Array.length_toList).trans (hacc.1.trans (P1 ..).symm)) λi v d hv hd=>by
  rw[rU hd];obtain⟨t,e⟩:=hacc.2 i v (by simpa using hv);rw[e,Int.mul_one];exact .int _ _⟩,PG k⟩
theorem qP{A:Around}{s:Shared}{E:Value→Shared→Prop}{t:Sem Value}{hid:Addr→Prop}{us:List Value}{out:List D}(B:B0 AA mg mb)(hb:A3 AA s.heap)(K:D7 hid s.heap)(hd:AJ (AL s.heap hid) us out)
  (h:∀(L:Addr)(m:Str→Option Value)(news:List (Addr×Obj)),Fr FW L s.heap m→News FW L s.heap news→∀Q:Value→Shared→Prop,
   (∀(h':Heap)(n:Nat),Fr FW L h' m→News FW L h' ((s.heap.objs.size,{cls:=.type "list",data:=.seq (List.toArray us) n})::news)→Q (.ref s.heap.objs.size) {s with heap:=h'})→wpAny (model prog w) A t Q E s):
  wpAny (model prog w) A t (λv s'=>(∃l vs,v=.ref l∧s.heap.get? l=none∧s'.heap.PlainList l (List.toArray vs)∧AJ (AL s'.heap (DU hid [l])) vs out)∧Kp s s') E s:=by
 exact BD (oJ (P:= λv h'=>v=.ref s.heap.objs.size∧h'.PlainList s.heap.objs.size (List.toArray us)) B hb λL m news F N=>h L m news F N _ λh' n F' N'=>⟨h',s.toks,rfl,⟨rfl,⟨n,(N' _ (.head _)).1⟩⟩,λp hp=>N' p (.tail _ hp)⟩) λv s' x=>
  ⟨⟨_,us,x.1.1,DT _,x.1.2,hd.mono λa o e=>⟨x.2.grows _ _ e.1,λq=>q.elim e.2 λq=>BO (DT _) (List.mem_singleton.mp q▸e.1)⟩⟩,x.2⟩
theorem rL(B:B0 AA mg mb){l r:Expr}{pos:Pos}{fl fr:EF}(hl:PO prog w AA n Sg l fl)(hr:PO prog w AA n Sg r fr):
  PN prog w AA n Sg (.BinOp l .Add r pos) (λρ=>(fl ρ).bind λx=>(fr ρ).bind λy=>(CX x).bind λa=>(CX y).bind λb=>if BG a&&BG b then some (a++b)else none):=by
 refine λenv A s ρ out hid he ow la E H hA S hf=>AK hf λx ha hf=>AK hf λy hb hf=>AK hf λa ea hf=>AK hf λb eb hf=>CV hf λhsm=>?_;rw[Bool.and_eq_true]at hsm;refine wpAny_BinOp (GO.wp_g (hl env A s ρ _ hid he ow la E H hA S ha) λva AB da A6=>GO.wp_g (hr env A AB ρ _ hid he ow la E H hA (S.grows A6.grows) hb) λvb AF db AZ=>(da.grows AZ.grows).lstE ea λla' us hla da=>db.lstE eb λlb ws hlb db=>?_);have B4:=(S.grows A6.grows).grows AZ.grows;have s1:=da.fits hsm.1;have s2:=db.fits hsm.2;exact BD (qP (us:=us++ws) (out:=a++b) B (B4.base.trans B4.keep) B4.hidOK (da.append db) λL m news F N Q hq=>add_lists F N hla hlb (λh' F' N'=>hq h' _ F' N') (by rw[List.size_toArray]at s1 s2;rw[sizeLine_eq];lia)) λv s' x=>U5 (A6.trans AZ) x
theorem Dw(k:Nat)(us:List Value)(acc:Array Value):List.foldl (λx1 x2=>x1++x2) acc (List.replicate k us.toArray)=acc++(List.replicate k us).flatten.toArray:=by
 induction k generalizing acc with
 |zero=>simp
 |succ k ih=>
  rw[List.replicate_succ,List.foldl_cons,ih,List.replicate_succ,List.flatten_cons];simp[Array.append_assoc]
theorem AJ.rep{g:Gm}{us:List Value}{a:List D}(h:AJ g us a)(k:Nat):AJ g (List.replicate k us).flatten (List.replicate k a).flatten:=by
 induction k with
 |zero=>exact .nil
 |succ k ih=>rw[List.replicate_succ,List.replicate_succ,List.flatten_cons,List.flatten_cons];exact h.append ih
theorem Kw(B:B0 AA mg mb){l r:Expr}{pos:Pos}{fl fr:EF}(hl:PO prog w AA n Sg l fl)(hr:PE prog w AA n Sg r fr):
  PN prog w AA n Sg (.BinOp l .Mult r pos) (λρ=>(fl ρ).bind λx=>(fr ρ).bind λy=>(CX x).bind λa=>(B6 y).bind λk=>if decide (a.length≤100)&&decide (-100≤k)&&decide (k≤1000)&&decide (0<a.length)then some (List.replicate k.toNat a).flatten else none):=by
 refine λenv A s ρ out hid he ow la E H hA S hf=>AK hf λx ha hf=>AK hf λy hb hf=>AK hf λa ea hf=>?_;refine wpAny_BinOp (GO.wp_g (hl env A s ρ _ hid he ow la E H hA S ha) λva AB da A6=>GD.wp_g (hr env A AB ρ _ hid he ow la E H hA (S.grows A6.grows) hb) λvb AF db AZ=>(da.grows AZ.grows).plainE ea λla' us k0 hla da=>db.intE hf λk t hf=>CV hf λhsm=>?_);rw[Bool.and_eq_true,Bool.and_eq_true,Bool.and_eq_true,decide_eq_true_eq,decide_eq_true_eq,decide_eq_true_eq,decide_eq_true_eq]at hsm;obtain⟨⟨⟨s1,s2⟩,s3⟩,s4⟩:=hsm;have B4:=(S.grows A6.grows).grows AZ.grows;have hne:us.toArray.isEmpty=false:=by
  rw[←da.length]at s4;cases us with
  |nil=>exact nomatch s4
  |cons=>rfl
 refine BD (qP (us:=(List.replicate k.toNat us).flatten) (out:=(List.replicate k.toNat a).flatten) B (B4.base.trans B4.keep) B4.hidOK (da.rep _) λL m news F N Q hq=>mul_list F N hla (by lia) (by lia) (by
  rw[List.size_toArray,da.length];exact Nat.le_trans (Nat.mul_le_mul s1 (show k.toNat≤1000 by lia)) (by decide)) λh' F' N'=>?_) λv s' x=>U5 (A6.trans AZ) x
 rw[hne,Dw]at N';rw[if_neg nofun,Array.empty_append]at N';exact hq h' _ F' N'
def NJ(x:Int)(l:List D):Bool:=l.any λd=>(B6 d).any (· ==x)
theorem xE{g:Gm}(x:Int){vs:List Value}{ds:List D}(hi:LG ds=true)(hd:AJ g vs ds):vs.any (LB x)=NJ x ds:=by
 induction ds generalizing vs with
 |nil=>rw[hd.nil_inv];rfl
 |cons d ds ih=>
  obtain⟨v,us,e,a,b⟩:=hd.cons_inv;obtain⟨y,e2,hi⟩:=Fk hi;rw[e2]at a⊢;obtain⟨t,e3⟩:=a.int_inv;rw[e,e3,List.any_cons,ih hi b];rfl
def aK(a b:D):Option Bool:=(B6 a).bind λx=>(CX b).bind λl=>if LG l then some (NJ x l)else none
theorem Av:IJ prog w n .NotIn (λa b=>(aK a b).map (!·)):=by
 refine λA s hid a b da db r E hA ha hb hf=>FV hf λq hf=>ha.intE hf λx t hf=>AK hf λl el hf=>CV hf λhi=>hb.plainE el λc us k e hd=>?_;refine PySem.SeqRoads2.notIn_list (LB x) (λy hy=>?_) e ⟨?_,Kp.refl _⟩
 ·obtain⟨i,hi',e⟩:=Array.getElem_of_mem hy;obtain⟨z,u,e2,_⟩:=cJ hi hd i hi';rw[←e,show us.toArray[i]=.int z u from e2];exact MeetsSeq.EqGives.int z x u t
 ·rw[←xE x hi hd];simp
def SN(d:D):Option (List D):=(JC d).bind λl=>if BG l then some l else none
theorem rI{e:Expr}{f:EF}(h:PE prog w AA n Sg e f)(own:Bool):PI prog w AA n Sg own e (λρ=>(f ρ).bind SN):=by
 refine λenv A s ρ ds hid he ow la E H hA S hf=>AK hf λd hd hf=>AK hf λl el hf=>GD.wp_g (h env A s ρ d hid he ow la E H hA S hd) λv AB dv kp=>?_;rw[QZ el]at dv;refine dv.inv.elim λa q=>q.elim λo q=>q.elim λvs q=>q.elim λnn q=>?_;obtain⟨e1,ga,hcl,hdt,hdl⟩:=q;rw[e1];refine CV hf λhs=>?_;have W:=Walks.tuple (prog:=prog) (w:=w) hA.1 AB.heap.objs.size a (λq=>BO (DT AB.heap) (q▸ga.1)) vs.toArray;rw[show vs.toArray.size=l.length from hdl.length]at W;have hl:AB.heap.IsTuple a vs.toArray:=⟨o,ga.1,hcl,nn,hdt⟩;have g:=A3.push AB.heap {cls:=.type "tuple_iterator",data:=.fields #[.ref a,.int 0 0]};exact wpAny_pyIter_tuple hl ⟨⟨_,_,_,_,_,rfl,W,λi h hst=>E5 (hst.1.elim λo e=>⟨o,e.1⟩),⟨⟨_,Heap.get?_push_size _ rfl,rfl,rfl⟩,hl.push _⟩,.inr (D4 (.inl (.head _)) (E5 (.inr λq=>ga.2 (.inr q)))),E5 (FE kp.grows (DT _)),
  D4 ⟨_,Heap.get?_push_size _ rfl⟩ (E5 ⟨o,g _ _ ga.1⟩),λi v hv=>(hdl.get' (i:=i) (v:=v) (by simpa using hv)).elim λd q=>⟨d,q.1,q.2.mono λa o e=>⟨g _ _ e.1,UL e.2 λq=>BO (DT _) (List.mem_singleton.mp q▸e.1)⟩⟩,OB hs,
  λi v s tg Q E V hst h=>UV (λa V=>hst.1.elim λo e=>⟨o,_,_,e.1,e.2.1,e.2.2,by decide⟩) h⟩,kp.trans (Kp.push _ _)⟩
theorem AJ.set{g:Gm}{vs:List Value}{ds:List D}(k:Nat){v:Value}{d:D}(h:AJ g vs ds)(x:AQ g v d):AJ g (vs.set k v) (ds.set k d):=by
 induction ds generalizing vs k with
 |nil=>rw[h.nil_inv];exact .nil
 |cons e ds ih=>
  refine h.cons_inv.elim λu q=>q.elim λus q=>?_;rw[q.1];cases k with
  |zero=>exact .cons x q.2.2
  |succ k=>exact .cons q.2.1 (ih k q.2.2)
theorem tP{env:Env}{A:Around}{s:Shared}{hid:Addr→Prop}{he:Heap}{ow la:List Addr}{ρ:List LV}{E:Value→Shared→Prop}{Q:Unit→Shared→Prop}(S:AV AA Sg env hid he ow la s.heap ρ){i:Nat}{x:Str}{b:Bool}{pn:Option Addr}{ds:List D}(hn:Sg.names[i]? =some (x,b))(hv:ρ[i]? =some (.own (.list pn) ds)){l:Addr}(hl:la[i]? =some l){k:Int}{t:Tok}{v:Value}{d:D}(hd:AQ (AL s.heap (AY hid ow)) v d)(h0:0≤k)(h1:k<ds.length)(h2:ds.length≤100000)
  (h:∀s',AV AA Sg env hid he ow la s'.heap (ρ.set i (.own (.list pn) (ds.set k.toNat d)))→Mv ow ow s s'→Q () s'):
  wpAny (model prog w) A (setItem (.ref l) (.int k t) v) Q E s:=by
 refine(I3 S hn hv).casesOn λl' hla hx hlo hlL vs hp hdl=>hp.elim λm hpl=>?_;obtain rfl:=Option.some.inj (hl.symm.trans hla);have hlen:=hdl.length;obtain⟨⟨m',p1⟩,p2⟩:=PX (λxs:Array Value=>xs.setIfInBounds k.toNat v) ⟨m,hpl⟩;refine ki_setAt hpl h0 (by lia) (by rw[List.size_toArray];lia) (h _ (S.ownUpd hn hv hl p2 p1 λu o e q=>?_) ⟨⟨_,s.toks,rfl⟩,λb o nb e=>p2 b o (λq=>nb (q▸hlo)) e,λb hb=>.inl hb⟩);rw[←Option.some.inj (hpl.symm.trans e)]at q;rw[List.setIfInBounds_toArray];cases q with
 |list hp _=>exact .list hp ((hdl.set _ hd).mono (GP (.inr hlo) p2))
noncomputable def H5(k:Int)(ds:List D):Bool:=decide (0≤k)&&decide (k<ds.length)&&decide (ds.length≤100000)
theorem cF{k:Int}{ds:List D}(h:H5 k ds=true):(0≤k∧k<ds.length)∧ds.length≤100000:=by
 rwa [H5,Bool.and_eq_true,Bool.and_eq_true,decide_eq_true_eq,decide_eq_true_eq,decide_eq_true_eq]at h
theorem Qx(i:Nat){x:Str}{b:Bool}{px pos' pos:Pos}{ix value:Expr}{fi fv:EF}(hn:Sg.names[i]? =some (x,b))(hi:PE prog w AA n Sg ix fi)(hv:PE prog w AA n Sg value fv)
  (hs:∀env,swapsWith value (some (.Subscript (.Name x px) ix pos')) pos.line env=pure false):
  XS prog w AA n Sg (.Assign [.Subscript (.Name x px) ix pos'] value pos) (λρ=>(fv ρ).bind λd=>(fi ρ).bind λk=>D9 ρ[i]? λp ds=>(B6 k).bind λk=>if H5 k ds then some (.next,ρ.set i (.own (.list p) (ds.set k.toNat d)))else none):=
 λenv A s ρ ρ' out hid he ow la E H hA S hf=>AK hf λd hd hf=>AK hf λk hk hf=>MC hf λp ds hρ hf=>wpAny_Assign_Subscript (GD.wp_g (hv env A s ρ d hid he ow la E H hA S hd) λv AB dv A6=>(I3 (S.grows A6.grows) hn hρ).casesOn λl hla hx V V V V V=>
  FG H hn hx (GD.wp_g (hi env A AB ρ _ hid he ow la E H hA (S.grows A6.grows) hk) λiv AF di AZ=>di.intE hf λk t hf=>DM hf λhb hf=>LR hf (have q:=cF hb
   tP ((S.grows A6.grows).grows AZ.grows) hn hρ hla (dv.mono (DJ AZ.grows)) q.1.1 q.1.2 q.2 λs' S' m=>⟨ow,la,S',trivial,(Mv.of_kp (A6.trans AZ)).trans m⟩))) (hs env)
theorem Qm(i:Nat){x:Str}{b:Bool}{px pos' pos:Pos}{ix value:Expr}{fi fv:EF}(hn:Sg.names[i]? =some (x,b))(hi:PE prog w AA n Sg ix fi)(hv:PE prog w AA n Sg value fv)
  (ha:∀ov iv new,augStore ix ov iv new=(do holding [new,ov,iv] (setItem ov iv new);release [new,ov,iv] [];pure .next)):
  XS prog w AA n Sg (.AugAssign (.Subscript (.Name x px) ix pos') .Add value pos) (λρ=>(fi ρ).bind λk=>(fv ρ).bind λd=>D9 ρ[i]? λp ds=>(B6 k).bind λk=>(B6 d).bind λe=>if H5 k ds then ds[k.toNat]?.bind λx=>(B6 x).bind λo=>some (.next,ρ.set i (.own (.list p) (ds.set k.toNat (.int (o+e)))))else none):=by
 refine λenv A s ρ ρ' out hid he ow la E H hA S hf=>AK hf λk hk hf=>AK hf λd hd hf=>MC hf λp ds hρ hf=>(I3 S hn hρ).casesOn λl hla hx V V V V V=>?_;refine wpAny_AugAssign_Subscript_any (FG H hn hx (GD.wp_g (hi env A s ρ _ hid he ow la E H hA S hk) λiv AB di A6=>di.intE hf λk t hf=>AK hf λe ee hf=>DM hf λhb hf=>AK hf λx hx hf=>AK hf λo eo hf=>?_)) ha;have BS:=S.grows A6.grows;have q:=cF hb;refine(I3 BS hn hρ).casesOn λl' hla' V V V vs hpl hdl=>?_;obtain rfl:=Option.some.inj (hla.symm.trans hla');have hlen:=hdl.length;obtain⟨ov,hov,dov⟩:=hdl.get hx;rw[HW eo]at dov;obtain⟨u,eu⟩:=dov.int_inv;refine wpAny_getItem_list hpl.isList q.1.1 (by lia) (List.getElem?_toArray.trans (eu▸hov)) (GD.wp_g (hv env A AB ρ _ hid he ow la E H hA BS hd) λv AF dv AZ=>?_);rw[HW ee]at dv;obtain⟨t',et⟩:=dv.int_inv;rw[et];have EJ:Kp AF {AF with toks:=AF.toks+1}:=Kp.toks _ _;exact iadd_int (LR hf (tP (s:={AF with toks:=AF.toks+1}) ((BS.grows AZ.grows).grows EJ.grows) hn hρ hla (.int _ _) q.1.1 q.1.2 q.2 λs' S' m=>⟨ow,la,S',trivial,(Mv.of_kp ((A6.trans AZ).trans EJ)).trans m⟩))
noncomputable def IC(ft:TF)(F:PF):Nat→List LV→Option (AC×List LV)
 |0,_=>none
 |k+1,ρ=>(ft ρ).bind λb=>if b then(match F ρ with
  |some (.next,ρ')=>IC ft F k ρ'
  |some (.cont,ρ')=>IC ft F k ρ'
  |some (.brk,ρ')=>some (.next,ρ')
  |some (.ret v,ρ')=>some (.ret v,ρ')
  |none=>none)else some (.next,ρ)
theorem Pr{ft:TF}{F:PF}{k:Nat}{ρ ρ':List LV}{out:AC}{P:Prop}(h:IC ft F (k+1) ρ=some (out,ρ'))(z:ft ρ=some false→out=.next→ρ=ρ'→P)
  (g:∀o CE,ft ρ=some true→F ρ=some (o,CE)→(o=.next∨o=.cont→IC ft F k CE=some (out,ρ'))→(o=.brk→CE=ρ'∧out=.next)→(∀v,o=.ret v→CE=ρ'∧out=.ret v)→P):P:=by
 refine AK h λb e h=>?_;cases b with
 |false=>exact z e (GW h).1.symm (GW h).2
 |true=>
  rw[if_pos rfl]at h;cases e':F ρ with
  |none=>rw[e']at h;exact AI h
  |some p=>
   rw[e']at h;obtain⟨o,CE⟩:=p;refine g o CE e e' (λq=>?_) (λq=>?_) λv q=>?_
   ·rcases q with q|q<;>rw[q]at h<;>exact h
   ·rw[q]at h;exact⟨(GW h).2,(GW h).1.symm⟩
   ·rw[q]at h;exact⟨(GW h).2,(GW h).1.symm⟩
theorem tZ(fuel:Nat){test:Expr}{body:List Stmt}{pos:Pos}{ft:TF}{F:PF}(ht:PT prog w AA n Sg test ft)(hb:PS prog w AA n Sg body F):
  XS prog w AA n Sg (.While test body [] pos) (IC ft F fuel):=by
 refine λenv A s ρ ρ' out hid he ow la E H hA S hf=>wpAny_While (codeAny_whileLoop (λk s'=>∃ρj owj laj,AV AA Sg env hid he owj laj s'.heap ρj∧IC ft F k ρj=some (out,ρ')∧Mv ow owj s s') ?_ fuel ⟨ρ,ow,la,S,hf,Mv.refl _ _⟩);rintro k s' ⟨ρj,owj,laj,Sj,hj,mj⟩;cases k with
 |zero=>exact AI hj
 |succ k=>
  refine Pr hj (λe q1 q2=>?_) λo CE e hF e3 e4 e5=>?_
  ·exact ID (ht env A s' ρj _ hid he owj laj _ H hA Sj e) λAF AZ=>wpAny_execs_nil ⟨owj,laj,q2▸Sj.grows AZ.grows,q1▸trivial,mj.trans (.of_kp AZ)⟩
  ·refine ID (ht env A s' ρj _ hid he owj laj _ H hA Sj e) λAF AZ=>BD (hb env A AF ρj CE o hid he owj laj _ H hA (Sj.grows AZ.grows) hF) λfl BI x=>x.casesOn λU' UT DG R6 J8=>?_;have m:=(mj.trans (.of_kp AZ)).trans J8;cases fl with
   |next=>exact⟨k,Nat.lt_succ_self _,CE,U',UT,DG,e3 (.inl (dL R6)),m⟩
   |cont=>exact⟨k,Nat.lt_succ_self _,CE,U',UT,DG,e3 (.inr (mH R6)),m⟩
   |brk=>exact have q:=e4 (lW R6);⟨U',UT,q.1▸DG,q.2▸trivial,m⟩
   |ret v=>exact(rT R6).elim λu r=>have q:=e5 u r;⟨U',UT,q.1▸DG,q.2▸r▸R6,m⟩
theorem Py{env:Env}{A:Around}{hid:Addr→Prop}{he:Heap}{E:Value→Shared→Prop}{v:Value}{d:D}(hd:∀g,AQ g v d){fs:List (Value→Sem Unit)}{is:List Nat}(T:IM (TS prog w AA Sg env) fs is){s:Shared}{ow la:List Addr}{ρ:List LV}(S:AV AA Sg env hid he ow la s.heap ρ):
  wpAny (model prog w) A (assignAll v fs) (λV s'=>AV AA Sg env hid he ow la s'.heap (A4 ρ is (is.map λV=>d))∧Mv ow ow s s') E s:=by
 induction T generalizing s ρ with
 |nil=>exact wpAny_pure ⟨S,Mv.refl _ _⟩
 | @cons f i fs is r h ih=>
  cases h with
  |nil=>exact r S (hd _) λs' m V S'=>⟨S',m⟩
  |cons r' h'=>
   refine(?_:wpAny _ A (do holding [v] (f v);assignAll v _) _ E s);exact wpAny_bind (wpAny_holding (r S (hd _) λAB m V BS=>BD (ih BS) λV AF y=>⟨y.1,m.trans y.2⟩))
theorem Qn{es:List Expr}{xs:List Str}{is:List Nat}{i:Int}{k:Nat}{p pos:Pos}(T:F3 Sg es xs is)(hs:∀env,swapsWithSole es (.Constant (.int i) k p) pos.line env=pure false)(hw:∀env,swappedStores es (.Constant (.int i) k p) env=pure none):
  XS prog w AA n Sg (.Assign es (.Constant (.int i) k p) pos) (λρ=>some (AC.next,A4 ρ is (is.map λV=>D.int i))):=by
 refine λenv A s ρ ρ' out hid he ow la E H hA S hf=>LR hf ?_;rw[PyProof.Rows.exec_Assign];refine wpAny_bind (wpAny_standAt ?_);rw[hs];refine wpAny_bind (wpAny_pure ?_);rw[if_neg (by decide)];refine wpAny_bind (wpAny_Constant_int ?_);rw[hw];refine wpAny_bind (wpAny_pure ?_);show wpAny _ A (do assignAll (.int i s.toks) ((assignEach es env).map (·.2));pure Flow.next) _ E _;have A6:Kp s {s with toks:=s.toks+1}:=Kp.toks _ _;exact wpAny_bind (BD (Py (λg=>.int i _) (T.sts H).1 (s:={s with toks:=s.toks+1}) (S.grows A6.grows)) λV AF y=>wpAny_pure ⟨ow,la,y.1,trivial,(Mv.of_kp A6).trans y.2⟩)
def VJ(d:D):Option (List D):=(E6 d).bind λx=>if x.cps.all (· <128)&&decide (x.cps.size≤100000)then some (x.cps.toList.map λc=>.str ⟨#[c]⟩)else none
theorem Ks{e:Expr}{f:EF}(h:PE prog w AA n Sg e f)(own:Bool):PI prog w AA n Sg own e (λρ=>(f ρ).bind VJ):=by
 refine λenv A s ρ ds hid he ow la E H hA S hf=>AK hf λd hd hf=>GD.wp_g (h env A s ρ d hid he ow la E H hA S hd) λv AB dv kp=>dv.strE hf λx t hf=>CV hf λhsz=>?_;rw[Bool.and_eq_true,decide_eq_true_eq]at hsz;have hlen:(x.cps.toList.map λc=>D.str ⟨#[c]⟩).length=x.cps.size:=List.length_map ..;exact wpAny_pyIter_ascii hsz.1 ⟨⟨AB.heap.objs.size,[AB.heap.objs.size],[AB.heap.objs.size],SignAt x,(λi h=>h.IsStrIter AB.heap.objs.size "str_ascii_iterator" x t i),rfl,by rw[hlen];exact Walks.strAscii hA.1 _ x t,λi h hst=>E5 (hst.elim λo e=>⟨o,e.1⟩),⟨_,Heap.get?_push_size _ rfl,rfl,rfl⟩,.inr λb hb=>.inl hb,E5 (FE kp.grows (DT _)),
  E5 ⟨_,Heap.get?_push_size _ rfl⟩,λi v hp=>hp.elim λc q=>q.elim λu q=>⟨.str ⟨#[c]⟩,by rw[List.getElem?_map,Array.getElem?_toList,q.1];rfl,q.2▸ .str _ _⟩,by rw[hlen];exact hsz.2,λi v s tg Q E hp V h=>UV (λa e=>hp.elim λc q=>q.elim λu q=>nomatch q.2.symm.trans e) h⟩,kp.trans (Kp.push _ _)⟩
structure HS(env:Env)(s:Shared)(hid:Addr→Prop)(ow la:List Addr)(ρ:List LV)(l:Addr)(ds:List D):Prop where
 own:l∈ow
 loc:l≠env.locals
 obj:∃o,s.heap.get? l=some o∧DC (AL s.heap (AY hid ow)) (.list none) (.ref l) l o ds
 new:∀(j:Nat)(k:BE)(es:List D),ρ[j]? =some (.own k es)→la[j]? ≠some l
theorem VR{env:Env}{A:Around}{s:Shared}{hid:Addr→Prop}{he:Heap}{ow la:List Addr}{ρ:List LV}{E:Value→Shared→Prop}{Q:Unit→Shared→Prop}(H:CN Sg env)(S:AV AA Sg env hid he ow la s.heap ρ){i:Nat}{x:Str}{b:Bool}(hn:Sg.names[i]? =some (x,b))(hst:b=true∨x∈Sg.stor){l:Addr}{ds:List D}(h:HS env s hid ow la ρ l ds)
  (hQ:∀s' la',AV AA Sg env hid he ow la' s'.heap (ρ.set i (.own (.list none) ds))→Mv ow ow s s'→(∀l' es,l'≠l→HS env s hid ow la ρ l' es→HS env s' hid ow la' (ρ.set i (.own (.list none) ds)) l' es)→Q () s'):
  wpAny (model prog w) A (storeName env x (.ref l)) Q E s:=by
 obtain⟨o,ho,ha⟩:=h.obj;have hi:i<Sg.names.length:=(List.getElem?_eq_some_iff.mp hn).1;refine SQ H S hn hst h.own h.loc ho ha (λj k' es V hj=>h.new j k' es hj) λs' m hv hk S'=>hQ s' _ S' m λl' es hne h'=>⟨h'.own,h'.loc,?_,λj k es' hj=>?_⟩
 ·obtain⟨o',ho',ha'⟩:=h'.obj;exact⟨o',hk _ _ ho' h'.loc (λc=>ha'.nocell c),ha'.mono hv⟩
 ·by_cases q:j=i
  ·subst q;rw[List.getElem?_set_self (by rw[S.lal];exact hi)];intro e;cases e;exact hne rfl
  ·rw[List.getElem?_set_ne (Ne.symm q)]at hj⊢;exact h'.new j k es' hj
theorem HS.grow{env:Env}{s s':Shared}{hid:Addr→Prop}{ow la:List Addr}{ρ:List LV}{l:Addr}{ds:List D}(h:HS env s hid ow la ρ l ds)(k:A3 s.heap s'.heap):HS env s' hid ow la ρ l ds:=
 ⟨h.own,h.loc,let ⟨o,a,b⟩:=h.obj;⟨o,k _ _ a,b.mono (DJ k)⟩,h.new⟩
theorem tY(i j:Nat){x y:Str}{b c:Bool}{px py tp vp pos:Pos}{k vk:Nat}{e1 e2:Expr}{f1 f2:List LV→Option (List D)}(hij:i≠j)(hn:Sg.names[i]? =some (x,b))(hm:Sg.names[j]? =some (y,c))(hst:b=true∨x∈Sg.stor)(hst':c=true∨y∈Sg.stor)
  (h1:PN prog w AA n Sg e1 f1)(h2:PN prog w AA n Sg e2 f2)(hv:e9 (.Tuple [e1,e2] vk vp)=true)
  (hse:∀env,starEach [e1,e2] env=(false,eval e1 env)::starEach [e2] env)(hse2:∀env,starEach [e2] env=(false,eval e2 env)::starEach [] env)(hs:∀env,swapsWithSole [.Tuple [.Name x px,.Name y py] k tp] (.Tuple [e1,e2] vk vp) pos.line env=pure false):
  XS prog w AA n Sg (.Assign [.Tuple [.Name x px,.Name y py] k tp] (.Tuple [e1,e2] vk vp) pos) (λρ=>(f1 ρ).bind λa=>(f2 ρ).bind λd=>some (.next,(ρ.set i (.own (.list none) a)).set j (.own (.list none) d))):=by
 intro env A s ρ ρ' out hid he ow la E H hA S hf;refine AK hf λd1 hd1 hf=>?_;refine AK hf λd2 hd2 hf=>?_;cases hf;have T:F3 Sg [.Name x px,.Name y py] [x,y] [i,j]:=.cons i hn hst (.cons j hm hst' .nil);have free:∀{l:Addr},s.heap.get? l=none→l∉ow:= λe q=>by obtain⟨_,o,e'⟩:=S.owr _ q;rw[e]at e';cases e'
 have val:∀(R:Value→Shared→Prop),(∀l1 l2 t BI,l1≠l2→AV AA Sg env hid he (l2::l1::ow) la BI.heap ρ→HS env BI hid (l2::l1::ow) la ρ l1 d1→HS env BI hid (l2::l1::ow) la ρ l2 d2→Mv ow (l2::l1::ow) s BI→BI.heap.IsTuple t #[.ref l1,.ref l2]→R (.ref t) BI)→
   wpAny (model prog w) A (eval (.Tuple [e1,e2] vk vp) env) R E s:=by
  intro R hR;refine wpAny_Tuple (wpAny_items_cons (BD (h1 env A s ρ d1 hid he ow la E H hA S hd1) λv1 AB ⟨l1,vs1,e1',n1,⟨k1,o1⟩,dl1,kp1⟩=>?_) (hse env));subst e1';have BS:=S.adopt kp1.grows n1 ⟨_,o1⟩;refine wpAny_items_cons (BD (h2 env A AB ρ d2 hid he (l1::ow) la E H hA BS hd2) λv2 AF ⟨l2,vs2,e2',n2,⟨k2,o2⟩,dl2,kp2⟩=>wpAny_items_nil ?_) (hse2 env);subst e2';have B4:=BS.adopt kp2.grows n2 ⟨_,o2⟩;have hne:l1≠l2:= λq=>by rw[←q,o1]at n2;cases n2
  have nL1:l1≠env.locals:= λq=>free n1 (q▸S.loc);have nL2:l2≠env.locals:= λq=>by
   have:=BS.loc;obtain⟨_,o,e⟩:=BS.owr _ this;rw[←q,n2]at e;cases e
  have newla:∀{l:Addr},l∉ow→∀(j:Nat)(k:BE)(es:List D),ρ[j]? =some (.own k es)→la[j]? ≠some l:= λhl j k es hj hla=>hl (q9 S hj hla);have f2':l2∉ow:=free (FE kp1.grows n2);have gp:=A3.push AF.heap {cls:=.type "tuple",data:=.seq #[.ref l1,.ref l2]};have vcons:∀a o,AL AB.heap (AY hid (l1::ow)) a o→AL AF.heap (AY hid (l2::l1::ow)) a o:= λa o e=>⟨kp2.grows _ _ e.1,by
   rintro(q|q)
   ·exact e.2 (.inl q)
   ·rcases List.mem_cons.mp q with q|q
    ·have:=e.1;rw[q,n2]at this;cases this
    ·exact e.2 (.inr q)⟩
  have H1:HS env AF hid (l2::l1::ow) la ρ l1 d1:=⟨.tail _ (.head _),nL1,⟨_,kp2.grows _ _ o1,.list (.inl rfl) (dl1.mono vcons)⟩,newla (free n1)⟩;have H2:HS env AF hid (l2::l1::ow) la ρ l2 d2:=⟨.head _,nL2,⟨_,o2,.list (.inl rfl) dl2⟩,newla f2'⟩;refine⟨by show(2:Nat)≤_;rw[sizeLine_eq];lia,hR l1 l2 _ _ hne (B4.grows gp) (H1.grow (s':={AF with heap:=AF.heap.push _}) gp) (H2.grow (s':={AF with heap:=AF.heap.push _}) gp) ?_ ⟨_,Heap.get?_push_size _ rfl,rfl,_,rfl⟩⟩;obtain⟨hA',tA,rfl,kA⟩:=kp1;obtain⟨hB,tB,rfl,kB⟩:=kp2;refine⟨⟨_,tB,rfl⟩,λb o V e=>gp _ _ (kB _ _ (kA _ _ e)),λb hb=>?_⟩;rcases List.mem_cons.mp hb with q|hb
  ·exact .inr (q▸FE (λa o e=>kA a o e) n2)
  ·rcases List.mem_cons.mp hb with q|hb
   ·exact .inr (q▸n1)
   ·exact .inl hb
 have la1:∀{BI:Shared}{l1 l2:Addr}{owz:List Addr},l1≠l2→AV AA Sg env hid he owz la BI.heap ρ→HS env BI hid owz la ρ l1 d1→HS env BI hid owz la ρ l2 d2→∀(R:Unit→Shared→Prop),(∀CS la',AV AA Sg env hid he owz la' CS.heap ((ρ.set i (.own (.list none) d1)).set j (.own (.list none) d2))→Mv owz owz BI CS→R () CS)→
   wpAny (model prog w) A (storeName env x (.ref l1)) (λV s'=>wpAny (model prog w) A (storeName env y (.ref l2)) R E s') E BI:=by
  intro BI l1 l2 owz hne DG h1' h2' R hR;refine VR H DG hn hst h1' λCS MD E4 HL keep=>?_;exact VR H E4 hm hst' (keep l2 d2 hne.symm h2') λKC cX ZF dK V=>hR KC cX ZF (HL.trans dK)
 have la2:∀{BI:Shared}{l1 l2:Addr}{owz:List Addr},l1≠l2→AV AA Sg env hid he owz la BI.heap ρ→HS env BI hid owz la ρ l1 d1→HS env BI hid owz la ρ l2 d2→∀(R:Unit→Shared→Prop),(∀CS la',AV AA Sg env hid he owz la' CS.heap ((ρ.set i (.own (.list none) d1)).set j (.own (.list none) d2))→Mv owz owz BI CS→R () CS)→
   wpAny (model prog w) A (storeName env y (.ref l2)) (λV s'=>wpAny (model prog w) A (storeName env x (.ref l1)) R E s') E BI:=by
  intro BI l1 l2 owz hne DG h1' h2' R hR;refine VR H DG hm hst' h2' λCS MD E4 HL keep=>?_;refine VR H E4 hn hst (keep l1 d1 hne h1') λKC cX ZF dK V=>hR KC cX ?_ (HL.trans dK);rw[List.set_comm _ _ hij];exact ZF
 have up:∀{BI:Shared}{h':Heap}{owz:List Addr}{l:Addr}{d:List D},Heap.ExtBut BI.heap.objs.size BI.heap h'→A3 BI.heap h':= λhx b o e=>hx b o (λq=>by rw[q,DT]at e;cases e) e;rcases sU T env k tp _ hv with hw|hw
 ·refine PyProof.Rows.Assign_Tuple (val _ λl1 l2 t BI hne DG h1' h2' J8 ht=>?_) (hs env) hw;show wpAny _ A (do standAt tp;unpack (.ref t) (assignEach _ env)) _ E BI;refine wpAny_bind (wpAny_standAt (PyProof.Rows.unpack_tuple hA.1 ht rfl rfl λh' hx=>?_));have gr:A3 BI.heap h':= λb o e=>hx b o (λq=>by rw[q,DT]at e;cases e) e;show wpAny _ A (do holding [.ref l2] (assign (.Name x px) env (.ref l1));assignInOrder [assign (.Name y py) env] [.ref l2]) _ E _;refine wpAny_bind (wpAny_holding (wpAny_assign_Name (BD (la1 (BI:={BI with heap:=h'}) hne (DG.grows gr) (h1'.grow gr) (h2'.grow gr) (λV=>FN AA Sg env hid he ow s ((ρ.set i (.own (.list none) d1)).set j (.own (.list none) d2)) .next .next) λCS la' E4 HL=>⟨_,la',E4,trivial,J8.trans ((Mv.of_kp ⟨h',BI.toks,rfl,gr⟩).trans HL)⟩) λV CS PB=>?_)));show wpAny _ A (do holding [] (assign (.Name y py) env (.ref l2));pure ()) _ E _;exact wpAny_bind (wpAny_holding (wpAny_assign_Name (BD PB λV KC RJ=>wpAny_pure RJ)))
 ·refine PyProof.Rows.Assign_Tuple_swapped (val _ λl1 l2 t BI hne DG h1' h2' J8 ht=>?_) (hs env) hw;show wpAny _ A (unpackItems (.ref t) (#[Value.ref l1,.ref l2]:Array Value).size none) _ E BI;refine wpAny_unpackItems_tuple hA.1 ht λh' hx=>?_;have gr:A3 BI.heap h':= λb o e=>hx b o (λq=>by rw[q,DT]at e;cases e) e;show wpAny _ A (do holding [.ref l1] (bindName env y (.ref l2));assignInOrder [bindName env x] [.ref l1]) _ E _;refine wpAny_bind (wpAny_holding (wpAny_bindName (BD (la2 (BI:={BI with heap:=h'}) hne (DG.grows gr) (h1'.grow gr) (h2'.grow gr) (λV=>FN AA Sg env hid he ow s ((ρ.set i (.own (.list none) d1)).set j (.own (.list none) d2)) .next .next) λCS la' E4 HL=>⟨_,la',E4,trivial,J8.trans ((Mv.of_kp ⟨h',BI.toks,rfl,gr⟩).trans HL)⟩) λV CS PB=>?_)));show wpAny _ A (do holding [] (bindName env x (.ref l1));pure ()) _ E _;exact wpAny_bind (wpAny_holding (wpAny_bindName (BD PB λV KC RJ=>wpAny_pure RJ)))
noncomputable def L7:Nat→List D→List D
 |_,[]=>[]
 |i,d::r=>.tup [.int i,d]::L7 (i+1) r
def SR(EE II a:Addr)(us:Array Value)(i:Nat)(h:Heap):Prop:=(∃old,IsEnum h EE II (i:Int) old)∧h.IsListIter II a i∧h.IsList a us
theorem Cd{env:Env}{A:Around}{s AF:Shared}{hid:Addr→Prop}{he:Heap}{ow la:List Addr}{ρ ρ':List LV}{out:AC}{R:Result→Shared→Prop}{k:Nat}{tp:Pos}{es:List Expr}{xs:List Str}{is:List Nat}{body:List Stmt}{F:PF}{EE II a:Addr}{us:List Value}{ds:List D}(H:CN Sg env)(hA:B9 n A)(S:AV AA Sg env hid he ow la s.heap ρ)(T:F3 Sg es xs is)(hb:PS prog w AA n Sg body F)
  (hEI:EE≠II)(na:a≠EE)(na':a≠II)(ado:a∉ow)(kp:Kp s AF)(nw:∀b∈[EE,II],s.heap.get? b=none)(st:SR EE II a us.toArray 0 AF.heap)(hd:AJ (AL AF.heap (AY (DU hid [EE,II]) ow)) us ds)(hf:B7 (λρ d=>(D5 is.length d).map λds=>A4 ρ is ds) F (L7 0 ds) ρ=some (out,ρ'))
  (hR:∀fl s',FN AA Sg env hid he ow s ρ' out fl s'→R (.ok fl) s'):codeAny (model prog w) A (.forLoop (.Tuple es k tp) (.ref EE) body [] env) R AF:=by
 have W:=WalksT.enumerate (prog:=prog) (w:=w) hA.1 EE II a hEI na na' us.toArray;have live:∀i h,SR EE II a us.toArray i h→∀b∈[EE,II],∃o,h.get? b=some o:= λi h st=>D4 (st.1.elim λV e=>⟨_,e⟩) (E5 (st.2.1.elim λo e=>⟨o,e.1⟩));have C:LC env hid he [EE,II] [EE,II,a] ow (SR EE II a us.toArray) s AF:=LC.of S nw kp live (D4 (.inl (.head _)) (D4 (.inl (.tail _ (.head _))) (E5 (.inr ado)))) (D4 (live 0 _ st _ (.head _)) (D4 (live 0 _ st _ (.tail _ (.head _))) (E5 (st.2.2.elim λo e=>⟨o,e.1⟩)))) W.frame;refine codeAny_forLoop_any (YR AA Sg env hid he [EE,II] ow (SR EE II a us.toArray) ds.length (λj ρ=>B7 (λρ d=>(D5 is.length d).map λds=>A4 ρ is ds) F (L7 j (ds.drop j)) ρ=some (out,ρ')) AF) ?_ (ds.length+1)
  ⟨0,ρ,ow,la,rfl,Nat.zero_le _,hf,.refl _,st,S.hide kp.grows λb hb=>⟨nw b hb,live 0 _ st b hb⟩,λV V V V e=>e,λV h=>.inl h⟩
 rintro kk s' ⟨j,ρj,owj,laj,hk,hj,hfj,Ij⟩;rw[show us.toArray.size=ds.length from hd.length]at W;by_cases hlt:j<ds.length
 ·refine W.item j _ _ _ hlt Ij.st λTT vals h t hPv hTz hTt hMid k1=>W.go es k tp j TT _ _ _ hMid λh' st k2=>?_;have hTn:s'.heap.get? TT=none:=Heap.get?_none_of_le hTz;have I:=Ij.item C (t:=t) (λb o n e=>k2 b o n (k1 b o n e)) st;obtain⟨t2,x2,hx2,hv⟩:=hPv;obtain⟨dd,hdd,hdv⟩:=hd.get' (i:=j) (v:=x2) (by simpa using hx2);rw[hv]at hTt;exact I.turn (d:=.tup [.int j,dd]) (ds:=L7 (j+1) (ds.drop (j+1))) (SL T) hb H hA C
   (hTt.elim λo e=>e.2.2.elim λm e2=>.tup (vs:=[.int j t2,x2]) ⟨k2 TT o (W.apart _ _ _ hMid) e.1,λq=>q.elim (λq=>(Ij.S.hlt TT q).2.elim λo e=>BO hTn e) λq=>(Ij.S.owr TT q).2.elim λo e=>BO hTn e⟩ e.2.1 e2 (.cons (.int _ _) (.cons (I.den hdv) .nil)))
   (by rw[bE hdd]at hfj;exact hfj) (λρa owa laa s' I hf=>have r:=⟨ds.length+1-(j+1),by lia,j+1,ρa,owa,laa,rfl,hlt,hf,I⟩;⟨r,r⟩) (λV=>hR _ _) λV V=>hR _ _
 ·have hjl:j=ds.length:=by lia
  rw[hjl]at Ij hfj;rw[List.drop_length]at hfj;obtain⟨q1,q2⟩:=GW hfj;exact W.done _ _ _ Ij.st λh t k=>wpAny_execs_nil (hR _ _ (q1▸q2▸Ij.done C k))
theorem Qo(B:B0 AA mg mb)(gi:Nat){ex:Str}{ep pos cpos tp:Pos}{k:Nat}{es:List Expr}{xs:List Str}{is:List Nat}{e:Expr}{body:List Stmt}{f:EF}{F:PF}(hn:Sg.globs[gi]? =some ex)(hv:BK mg mb ex (.type "enumerate"))(T:F3 Sg es xs is)(hp:DK [e])(h:FM prog w AA n Sg [e] (λρ=>(f ρ).map λd=>[d]))(hb:PS prog w AA n Sg body F)
  (hs:∀env x,foldedSetIterable (.Call (.Name ex ep) [e] [] cpos) env x=pure x):
  XS prog w AA n Sg (.For (.Tuple es k tp) (.Call (.Name ex ep) [e] [] cpos) body [] pos) (λρ=>(f ρ).bind λd=>(DQ d).bind λds=>B7 (λρ d=>(D5 is.length d).map λds=>A4 ρ is ds) F (L7 0 ds) ρ):=by
 intro env A s ρ ρ' out hid he ow la E H hA S hf;refine AK hf λd hd hf1=>AK hf1 λds hds hf2=>wpAny_For (Z7 B H hA S hn hv nofun hp h (congrArg (Option.map _) hd) λvs AB dv A6=>?_) (hs env);have q:=dC hds;refine dv.one1 λv d1=>d1.lstE q.1 λa us m g r=>call_enumerate_1 g.1 λGG o6 Ew Rz AZ=>wpAny_pyIter_enum (s:={AB with heap:=GG}) o6 ?_;have lt:a<AB.heap.objs.size:=Heap.lt_size g.1;have nw:∀b∈[AB.heap.objs.size+1,AB.heap.objs.size],AB.heap.get? b=none:=D4 (Heap.get?_none_of_le (Nat.le_succ _)) (E5 (DT _));exact Cd H hA S T hb (Nat.succ_ne_self _) (Nat.ne_of_lt (Nat.lt_succ_of_lt lt)) (Nat.ne_of_lt lt) (λq=>g.2 (.inr q)) (A6.trans ⟨GG,AB.toks,rfl,AZ⟩) (λb hb=>FE A6.grows (nw b hb)) ⟨⟨_,o6⟩,Ew,⟨_,AZ _ _ g.1,rfl,_,rfl⟩⟩
  (r.mono λb o e=>⟨AZ b o e.1,UL e.2 λq=>BO (nw b q) e.1⟩) hf2 λV V=>id
end
theorem cP{v:Value}{x y:Str}(h:v.isStr x=true)(hn:x≠y):v.isStr y=false:=by
 cases v with
 |str z t=>
  have:z=x:=by simpa [Value.isStr]using h
  subst this;simp[Value.isStr,hn]
 |_=>cases h
theorem Fp{e:DictEntry}{x:Str}(h:e.key.isStr x=true):e.refKey=false:=by
 unfold DictEntry.refKey;cases hk:e.key<;>first|rfl|(rw[hk]at h;cases h)
theorem Bz{es:List DictEntry}{ns:List Str}(h:G3 es ns):es.length=ns.length:=by
 induction ns generalizing es with
 |nil=>cases es with
  |nil=>rfl
  |cons=>exact h.elim
 |cons x ns ih=>cases es with
  |nil=>exact h.elim
  |cons=>exact congrArg (· +1) (ih h.2)
theorem UH{name:Str}:∀{es:List DictEntry}{ns:List Str},G3 es ns→name∉ns→getL name es=some none:=by
 intro es ns h hn;have h1:es.find? (·.key.isStr name)=none:=by
  induction es generalizing ns with
  |nil=>rfl
  |cons e es ih=>
   cases ns with
   |nil=>exact h.elim
   |cons x ns=>
    rw[List.find?_cons,cP h.1 (λq=>hn (q▸ .head _))];exact ih h.2 λq=>hn (.tail _ q)
 have h2:es.any (·.refKey)=false:=by
  clear h1 hn
  induction es generalizing ns with
  |nil=>rfl
  |cons e es ih=>
   cases ns with
   |nil=>exact h.elim
   |cons x ns=>rw[List.any_cons,Fp h.1,ih h.2];rfl
 unfold getL;rw[h1,h2];rfl
noncomputable def KS(x:Str):List Str→Option Nat
 |[]=>none
 |y::r=>if y=x then some 0 else(KS x r).map (· +1)
theorem Bx{es:List DictEntry}{x:Str}{ns:List Str}(h:G3 es (x::ns)):∃e r,es=e::r∧e.key.isStr x=true∧G3 r ns:=by
 cases es with
 |nil=>exact h.elim
 |cons e r=>exact⟨e,r,rfl,h.1,h.2⟩
theorem El{g:Gm}{name:Str}{es:List DictEntry}{ns:List Str}{ds:List D}{i:Nat}{d:D}(he:G3 es ns)(hd:AJ g (es.map (·.val)) ds)(hi:KS name ns=some i)(hg:ds[i]? =some d):∃v,getL name es=some (some v)∧AQ g v d:=by
 induction ns generalizing es ds i with
 |nil=>exact AI hi
 |cons x ns ih=>
  obtain⟨e,r,q,h1,h2⟩:=Bx he;subst q;cases ds with
  |nil=>exact AI hg
  |cons d0 ds=>
   obtain⟨_,_,q,a,b⟩:=hd.cons_inv;have q:=List.cons.inj q;rw[←q.1]at a;rw[←q.2]at b;unfold KS at hi;unfold getL;rw[List.find?_cons];by_cases hx:x=name
   ·rw[if_pos hx]at hi;have hi:=Option.some.inj hi;subst hi;rw[←hx,h1];exact⟨e.val,rfl,Option.some.inj hg▸a⟩
   ·rw[if_neg hx]at hi;obtain⟨j,hj,e2⟩:=Option.map_eq_some_iff.mp hi;subst e2;obtain⟨v,h3,h4⟩:=ih h2 b hj hg;refine⟨v,?_,h4⟩;rw[cP h1 hx];unfold getL at h3;cases he':r.find? (·.key.isStr name)with
    |some e'=>rw[he']at h3;exact h3
    |none=>
     rw[he']at h3;refine absurd h3 ?_;by_cases z:r.any (·.refKey)=true
     ·rw[show(if r.any (·.refKey)=true then none else some none:Option (Option Value))=none from if_pos z];exact nofun
     ·rw[show(if r.any (·.refKey)=true then none else some none:Option (Option Value))=some none from if_neg z];exact nofun
theorem Me{name:Str}{hsh:Int}{key v:Value}(hk:key.isStr name=true){es:List DictEntry}{ns:List Str}(h:G3 es ns)(hn:name∉ns):G3 (putL name hsh key v es) (ns++[name])∧(putL name hsh key v es).map (·.val)=es.map (·.val)++[v]:=by
 induction es generalizing ns with
 |nil=>cases ns with
  |nil=>exact⟨⟨hk,trivial⟩,rfl⟩
  |cons=>exact h.elim
 |cons e es ih=>cases ns with
  |nil=>exact h.elim
  |cons x ns=>
   unfold putL;rw[if_neg (λq=>absurd (q.symm.trans (cP h.1 (λq=>hn (q▸ .head _)))) (by simp))];obtain⟨a,b⟩:=ih h.2 λq=>hn (.tail _ q);exact⟨⟨h.1,a⟩,congrArg (e.val::·) b⟩
section
variable{prog:Program}{w:World}{AA:Heap}{n:Nat}{Sg:AP}{mg mb:Str→Option Value}
theorem Eh{A:Around}{s:Shared}{E:Value→Shared→Prop}{t:Sem Unit}(B:B0 AA mg mb)(hb:A3 AA s.heap){dx:Addr}{o o':Obj}(hd:s.heap.get? dx=some o)(hdm:dx≠mainGlobals)(hdb:dx≠builtinsNs)
  (h:∀(L:Addr)(m:Str→Option Value)(news news':List (Addr×Obj)),Fr FW L s.heap m→News FW L s.heap news→Upd dx o o' news news'→∀Q:Unit→Shared→Prop,(∀h' tk,Fr FW L h' m→News FW L h' news'→Q () {s with heap:=h',toks:=tk})→wpAny (model prog w) A t Q E s):
  wpAny (model prog w) A t (λV s'=>∃h' tk,s'={s with heap:=h',toks:=tk}∧h'.get? dx=some o'∧∀b x,b≠dx→s.heap.get? b=some x→h'.get? b=some x) E s:=by
 have one:∀(L:Addr)(m:Str→Option Value),dx≠L→s.heap.Ns L m→wpAny (model prog w) A t (λV s'=>∃h' tk,s'={s with heap:=h',toks:=tk}∧h'.get? dx=some o'∧∀b x,b≠dx→b≠L→s.heap.get? b=some x→h'.get? b=some x) E s:=by
  intro L m hL hn;refine h L m ((dx,o)::(IO s.heap L).filter (λp=>p.1≠dx)) ((dx,o')::(IO s.heap L).filter (λp=>p.1≠dx)) (PM hn) (λp hp=>?_) (.head λp hp=>by simpa using(List.mem_filter.mp hp).2) _ λh' tk F' N'=>⟨h',tk,rfl,(N' _ (.head _)).1,λb x nb nL e=>(N' (b,x) (.tail _ (List.mem_filter.mpr ⟨JV.mpr ⟨nL,e⟩,by simpa using nb⟩))).1⟩;rcases List.mem_cons.mp hp with rfl|hp
  ·exact⟨hd,hL,NV _⟩
  ·exact KI s.heap L p (List.mem_filter.mp hp).1
 refine wpAny_mono (fD (one mainGlobals mg hdm (B.ng.keeps hb)) (one builtinsNs mb hdb (B.nb.keeps hb))) (λv s'=>?_) λe s' q=>q.1;rintro⟨⟨h',tk,rfl,d1,k1⟩,⟨h'',tk',e,d2,k2⟩⟩;have e':h'=h'':=congrArg Shared.heap e;subst e';refine⟨h',tk,rfl,d1,λb x nb eb=>?_⟩;by_cases q:b=mainGlobals
 ·exact k2 b x nb (q▸B.ne) eb
 ·exact k1 b x nb q eb
structure D1(K:Frag)(C:Addr):Prop where
 ga:findIn K (.ref C) "__getattribute__"=some (some (.builtin "object.__getattribute__"))
 gt:findIn K (.ref C) "__getattr__"=some none
 dict:hasDictIn K C=true
def EC(K:Frag)(C:Addr)(name:Str):Prop:=∃attr,findIn K (.ref C) name=some attr∧noGet K attr=true
theorem LF{h:Heap}{t C dx:Addr}{es:List DictEntry}{n:Nat}(h1:h.get? t=some (instObj C dx))(h2:h.get? dx=some (dictOf es n)):InstAt h t (instObj C dx) C (some (dictOf es n)):=⟨h1,rfl,rfl,h2⟩
theorem Bt{g:Gm}{v:Value}{d:D}(h:AQ g v d):handedIn v=true:=
 AQ.casesOn (motive_1:= λv V V=>handedIn v=true) h rfl (λV=>rfl) (λV V=>rfl) (λV V=>rfl) (λV V=>rfl) (λV=>rfl) (λV=>rfl) (λV V V V=>rfl) (λV V=>rfl) (λV V V V V=>rfl) (λV V=>rfl) (λV V V V V=>rfl) (λV V V V=>rfl)
noncomputable def EW{β:Type}(d:D)(f:Addr→List Str→List D→Option β):Option β:=D.casesOn (motive_1:= λV=>Option β) d none (λV=>none) (λV=>none) (λV=>none) (λV=>none) (λV=>none) (λV=>none) (λV=>none) (λV=>none) f (λV V=>none) (λV V V=>none) (λV=>none)
theorem Ee{β:Type}{d:D}{f:Addr→List Str→List D→Option β}{b:β}{P:D→Prop}:EW d f=some b→(∀C ns ds,f C ns ds=some b→P (.obj C ns ds))→P d:=
 D.casesOn (motive_1:= λd=>EW d f=some b→(∀C ns ds,f C ns ds=some b→P (.obj C ns ds))→P d) d (λh=>AI h) (λV h=>AI h) (λV h=>AI h) (λV h=>AI h) (λV h=>AI h) (λV h=>AI h) (λV h=>AI h) (λV h=>AI h) (λV h=>AI h) (λC ns ds h k=>k C ns ds h) (λV V h=>AI h) (λV V V h=>AI h) (λV h=>AI h)
@[elab_as_elim] theorem AQ.objE{β:Type}{g:Gm}{v:Value}{d:D}{f:Addr→List Str→List D→Option β}{b:β}{P:Value→Prop}(x:AQ g v d)(h:EW d f=some b)(k:∀C ns ds a dx n es,f C ns ds=some b→d=.obj C ns ds→g a (instObj C dx)→g dx (dictOf es n)→G3 es ns→AJ g (es.map (·.val)) ds→P (.ref a)):P v:=
 Ee (P:= λd'=>d=d'→P v) h (λC ns ds hf e=>Exists.elim (e▸x).inv λa q=>q.elim λdx q=>q.elim λn q=>q.elim λes q=>q.1▸k C ns ds a dx n es hf e q.2.1 q.2.2.1 q.2.2.2.1 q.2.2.2.2) rfl
inductive kN(env:Env)(hid:Addr→Prop)(ow la:List Addr)(h:Heap)(i:Nat)(x:Str)(b:Bool)(C:Addr)(ns:List Str)(ds:List D):Prop
 |mk (l t:Addr) (n:Nat) (es:List DictEntry):la[i]? =some l→EG env h x b (.ref t)→l∈ow→h.get? l=some (dictOf es n)→AL h (AY hid ow) t (instObj C l)→G3 es ns→AJ (AL h (AY hid ow)) (es.map (·.val)) ds→kN env hid ow la h i x b C ns ds
theorem sF{env:Env}{hid:Addr→Prop}{he:Heap}{ow la:List Addr}{h:Heap}{ρ:List LV}(S:AV AA Sg env hid he ow la h ρ){i:Nat}{x:Str}{b:Bool}{p:Option Addr}{C:Addr}{ns:List Str}{ds:List D}(hn:Sg.names[i]? =some (x,b))(hv:ρ[i]? =some (.own (.ins p C ns) ds)):kN env hid ow la h i x b C ns ds:=
 (IA S hn hv).elim λl e=>M1.casesOn e.2 λv o a1 a2 V a4 a5=>Exists.elim a5.inv λt q=>q.elim λn q=>q.elim λes q=>⟨l,t,n,es,e.1,q.2.1▸a1,a2,q.2.2.1▸a4,q.2.2.2.1,q.2.2.2.2.1,q.2.2.2.2.2⟩
def ES(C:Addr)(name:Str)(d:D):Option D:=EW d λC' ns ds=>if C'=C then(KS name ns).bind λi=>ds[i]? else none
theorem tI{A:Around}{s:Shared}{K:Frag}{C t dx:Addr}{es:List DictEntry}{nn:Nat}{ns:List Str}{ds:List D}{g:Gm}{name:Str}{i:Nat}{d:D}{ex:Bool}{Q:Value→Shared→Prop}{E:Value→Shared→Prop}(X:K.In s.heap)(c:D1 K C)(a:EC K C name)(h1:s.heap.get? t=some (instObj C dx))(h2:s.heap.get? dx=some (dictOf es nn))(he:G3 es ns)(hd:AJ g (es.map (·.val)) ds)(hi:KS name ns=some i)(hg:ds[i]? =some d)
  (h:∀v,AQ g v d→Q v {s with toks:=s.toks+1}):wpAny (model prog w) A (getAttr (.ref t) name ex) Q E s:=by
 obtain⟨v,hv,dv⟩:=El he hd hi hg;obtain⟨attr,ha,hn⟩:=a;exact get_value X (LF h1 h2) c.ga (findObj_own c.dict ha hn hv) (Bt dv) (h v dv)
end
noncomputable def N7:BE→Option Addr
 |.list p=>p
 |.hdr p _=>p
 |.ins p _ _=>p
 |.tab p _ _=>p
theorem DC.pin{g:Gm}{k:BE}{v:Value}{l:Addr}{o:Obj}{ds:List D}(H:DC g k v l o ds):N7 k=none∨N7 k=some l:=
 DC.casesOn (motive:= λk V l V V V=>N7 k=none∨N7 k=some l) H (λq V=>q) (λq V V V V V=>q) (λq V V V V=>q) λq V V V V=>q
section
variable{prog:Program}{w:World}{AA:Heap}{n:Nat}{Sg:AP}{mg mb:Str→Option Value}
theorem AV.loan{env:Env}{hid:Addr→Prop}{he he':Heap}{ow la:List Addr}{h:Heap}{k:Nat}(S:AV AA Sg env hid he ow la h (AX k))(hb:A3 AA he')(hg:A3 he' he){l:Addr}(h0:he'.get? l=none)(hl:¬hid l)(ho:∃o,h.get? l=some o):
  AV AA Sg env hid he' (l::ow) la h (AX k):=
 have S':=S.shrink hb hg
 {S' with
  hlt:= λb q=>⟨λm=>(List.mem_cons.mp m).elim (λr=>hl (r▸q)) (S'.hlt b q).1,(S'.hlt b q).2⟩
  owr:=D4 ⟨h0,ho⟩ S'.owr
  loc:=List.mem_cons_of_mem _ S'.loc
  sto:= λx hx=>(S'.sto x hx).elim λc q=>⟨c,q.1,List.mem_cons_of_mem _ q.2⟩
  slot:= λi x b l' lv a1 a2 a3=>QA a3▸trivial
  lad:= λi j l' kk k' ds es a1=>nomatch QA a1}
theorem mB{A:Around}{s:Shared}{he:Heap}{hid:Addr→Prop}{fa l:Addr}{o ol:Obj}{fd:FuncData}{body:List Stmt}{args:Args}{x0:Str}{v0:Value}{rest:List (Str×Value)}{i0:Nat}{b0:Bool}{is:List Nat}{kd kd':BE}{own own' ds:List D}{ρ':List LV}{F:PF}(B:B0 AA mg mb)(hA:B9 (n+1) A)(hb:A3 AA he)(hg:A3 he s.heap)(K:D7 hid s.heap)
  (ho:s.heap.get? fa=some o)(hdt:o.data=.func fd)(hco:fd.scope.isCoroutine=false)(hgen:fd.scope.isGenerator=false)(hbody:fd.body=.stmts body)(hcd:s.heap.CodeRec fd.code fd.qualname)(hgl:fd.globals=mainGlobals)(hbi:fd.builtins=builtinsNs)(hcl:fd.closure=[])
  (okS:HD Sg fd.scope)(hbind:BindsTo s fd args ((x0,v0)::rest))(hn0:Sg.names[i0]? =some (x0,b0))(hst0:b0=true∨x0∈Sg.stor)
  (ht:∀(j:Nat)(x:Str)(v:Value),rest[j]? =some (x,v)→M3 Sg is j x)(hl:rest.length=is.length)
  (hl0:he.get? l=none)(hlh:¬hid l)(hol:s.heap.get? l=some ol)(hown:DC (AL s.heap (AY hid [l])) kd v0 l ol own)(hd:AJ (AL s.heap (AY hid [l])) (rest.map (·.2)) ds)
  (hP:PS prog w AA n Sg body F)(hF:F (A4 ((AX Sg.names.length).set i0 (.own kd own)) is ds)=some (.next,ρ'))(hρ:ρ'[i0]? =some (.own kd' own'))(hpin:N7 kd'=some l){R:Result→Shared→Prop}
  (hR:∀h' tk,(∃v o,h'.get? l=some o∧DC (AL h' (AY hid [l])) kd' v l o own')→(∀b x,b≠l→s.heap.get? b=some x→h'.get? b=some x)→R (.ok (.ret .none)) {s with heap:=h',toks:=tk}):
  codeAny (model prog w) A (.call (.ref fa) args) R s:=by
 refine codeAny_call_function hA.room ho hdt hco hgen hbody hcd (hbind _ _ _ _ ?_);rw[hgl,hbi,hcl];refine tJ (Sg:=Sg) (hb.trans hg) K (IH.nil _) (λx hx=>dJ (okS.sto x hx)) okS.env λenv CT ow HE hL S0 hnew gr V V=>?_;have S1:=S0.loan hb hg hl0 hlh ⟨ol,gr _ _ hol⟩;have hv1:∀a x,AL s.heap (AY hid [l]) a x→AL CT (AY hid (l::ow)) a x:= λa x e=>⟨gr _ _ e.1,λq=>q.elim (λq=>e.2 (.inl q)) λq=>(List.mem_cons.mp q).elim (λr=>e.2 (.inr (r▸ .head _))) λr=>BO (hnew a r) e.1⟩;rw[List.forIn_cons]
 exact wpAny_bind (wpAny_bind (SQ (s:={s with heap:=CT}) HE S1 hn0 hst0 (.head _) (λq=>BO (DT s.heap) (hL▸q▸hol)) (gr _ _ hol) (hown.mono hv1) (λj k' es V hj=>nomatch QA hj) λAB RT cD V B4=>wpAny_pure (fE HE (λV V V=>rfl) ht hl B4 ((hd.mono hv1).mono cD) λAF J7 DG=>
  ⟨B.nolim DG,codeAny_func (BD (hP _ (A.deeper _) AF _ ρ' .next hid he (l::ow) _ _ HE hA.deeper DG hF) λfl CS x=>x.casesOn λN1 MD E4 J9 HL=>by
   rw[dY J9];have m:=(RT.trans J7).trans HL;obtain⟨h',tk,e⟩:=m.sh;subst e;exact hR h' tk ((IA E4 hn0 hρ).elim λl' q=>M1.casesOn q.2 λv' o' V m' V ho' hw=>(have r:l'=l:=hw.pin.elim (λq=>AI (q.symm.trans hpin)) λq=>Option.some.inj (q.symm.trans hpin);r▸⟨v',o',ho',hw.mono λa x e=>⟨e.1,λq=>q.elim (λq=>e.2 (.inl q)) λq=>e.2 (.inr (List.mem_singleton.mp q▸m'))⟩⟩))
    λb x nb e=>m.kp b x (λq=>(List.mem_cons.mp q).elim nb λr=>BO (hnew b r) e) (gr _ _ e))⟩)))
end
section
variable{prog:Program}{w:World}{AA:Heap}{n:Nat}{Sg:AP}{mg mb:Str→Option Value}{K:Frag}{C:Addr}
theorem QD{A:Around}{s:Shared}{env:Env}{o:Expr}{name:Str}{pos:Pos}{Q:Value→Shared→Prop}{E:Value→Shared→Prop}(hb:∀env t,attributeBase o name env t=t)
  (h:wpAny (model prog w) A (eval o env) (λov AB=>wpAny (model prog w) A (getAttr ov name true) Q E AB) E s):wpAny (model prog w) A (eval (.Attribute o name pos) env) Q E s:=by
 rw[arm_eval_Attribute,hb];refine wpAny_bind (BD h λov AB CT=>wpAny_bind (wpAny_standAt (wpAny_bind (wpAny_holding (BD CT λr AF GG=>wpAny_bind (wpAny_letTemporaryGo (wpAny_pure GG)))))))
theorem HM{o:Expr}{name:Str}{pos:Pos}{f:EF}(X:K.In AA)(c:D1 K C)(a:EC K C name)(hb:∀env t,attributeBase o name env t=t)(h:PE prog w AA n Sg o f):
  PE prog w AA n Sg (.Attribute o name pos) (λρ=>(f ρ).bind (ES C name)):=
 λenv A s ρ d hid he ow la E H hA S hf=>AK hf λx hx hf=>QD hb (wp_g (h env A s ρ x hid he ow la E H hA S hx) λov AB dv k=>by
  unfold ES at hf;refine dv.objE hf λC' ns ds t dx n es hf V g1 g2 e4 e5=>DM hf λhC hf=>AK hf λi hi hf2=>?_;subst hC;exact tI (X.keeps ((S.base.trans S.keep).trans k.grows)) c a g1.1 g2.1 e4 e5 hi hf2 λv dv=>⟨dv,k.trans (Kp.toks _ _)⟩)
theorem Ki(i:Nat){x name:Str}{b:Bool}{px pos:Pos}(X:K.In AA)(c:D1 K C)(a:EC K C name)(hn:Sg.names[i]? =some (x,b)):
  PE prog w AA n Sg (.Attribute (.Name x px) name pos) (λρ=>J2 ρ[i]? λV C' ns ds=>if C'=C then(KS name ns).bind λj=>ds[j]? else none):=
 λenv A s ρ d hid he ow la E H hA S hf=>oE hf λp C' ns ds hv hf=>DM hf λhC hf=>AK hf λj hj hf2=>(sF S hn hv).casesOn λl t n es V hva V hol g1 e4 e5=>by
  subst hC;exact QD (λV V=>rfl) (FG H hn hva (tI (X.keeps (S.base.trans S.keep)) c a g1.1 hol e4 e5 hj hf2 λv dv=>⟨dv,Kp.toks _ _⟩))
structure QR(K:Frag)(C:Addr):Prop where
 sa:findIn K (.ref C) "__setattr__"=some (some (.builtin "object.__setattr__"))
 over:plainOver K C=true
theorem QG(B:B0 AA mg mb)(i:Nat){x name:Str}{b:Bool}{px pos' pos:Pos}{value:Expr}{f:EF}(X:K.In AA)(c:D1 K C)(sc:QR K C)(ht:takerIn K C name=some none)(hn:Sg.names[i]? =some (x,b))(h:PE prog w AA n Sg value f)
  (hs:∀env,swapsWith value (some (.Attribute (.Name x px) name pos')) pos.line env=pure false):
  XS prog w AA n Sg (.Assign [.Attribute (.Name x px) name pos'] value pos) (λρ=>(f ρ).bind λd=>J2 ρ[i]? λp C' ns ds=>if C'=C∧name∉ns∧ns.length<900 then some (.next,ρ.set i (.own (.ins p C' (ns++[name])) (ds++[d])))else none):=
 λenv A s ρ ρ' out hid he ow la E H hA S hf=>AK hf λd hd hf=>oE hf λp C' ns ds hv hf=>DM hf λhC hf=>plainObj_wpAny_Assign_Attribute (wp_g (h env A s ρ d hid he ow la E H hA S hd) λv AB dv k=>by
  have BS:=S.grows k.grows;have hb:=BS.base.trans BS.keep;refine(sF BS hn hv).casesOn λl t nn es hla hva hlo hol g1 e4 e5=>FG H hn hva ?_;rw[hC.1]at g1;have nH:AA.get? l=none:=FE BS.base (BS.owr l hlo).1;have lm:l≠mainGlobals:= λq=>B.ng.elim λo e=>BO nH (q▸e.elim λV e=>e.elim λV e=>e.1);have lb:l≠builtinsNs:= λq=>B.nb.elim λo e=>BO nH (q▸e.elim λV e=>e.elim λV e=>e.1);have pn:=Me (hsh:=PyData.keyHash w.params name) (key:=.str name (AB.toks+1)) (v:=v) (by simp[Value.isStr]) e4 hC.2.1;have el:=Bz pn.1;have h9:(putL name (PyData.keyHash w.params name) (.str name (AB.toks+1)) v es).length≤900:=by rw[el,List.length_append];exact hC.2.2
  refine BD (Eh (t:=setAttr (.ref t) name v) (E:=E) (A:=A) (prog:=prog) (w:=w) (o':=dictOf (putL name (PyData.keyHash w.params name) (.str name (AB.toks+1)) v es) (putN name es nn)) B hb hol lm lb λL m news news' F N U Q hQ=>?_) λV AF x=>x.elim λh' x=>x.elim λtk x=>?_
  ·obtain⟨pre,post,e1,e2,aa,bb⟩:=U.split;subst e1 e2;have XX:=X.keeps hb;exact set_plain XX (LF g1.1 hol) sc.sa (osa_dict (s:={AB with toks:=AB.toks+1}) (n:=putN name es nn) F N XX (LF g1.1 hol) rfl sc.over ht c.dict (by show(getL name es).isSome=true;rw[UH e4 hC.2.1];rfl) aa bb (by rw[putName_dict]) rfl (by lia) λh' F' N'=>hQ h' _ F' N')
  ·have kk:=x.2.2;have hlh:AY hid ow l:=.inr hlo;refine LR hf ⟨ow,la,(?_:AV AA Sg env hid he ow la AF.heap _),trivial,(Mv.of_kp k).trans ⟨⟨h',tk,x.1⟩,(?_:Bk ow AB.heap AF.heap),λb hb=>.inl hb⟩⟩
   ·rw[x.1];exact BS.ownUpd hn hv hla kk x.2.1 λu o e q=>Exists.elim q.inv λt' q=>q.elim λn' q=>q.elim λes' q=>by
     rw[q.2.1];refine .ins q.1 (GP hlh kk _ _ q.2.2.2.1) pn.2 pn.1 ((?_:AJ _ _ _).mono (GP hlh kk));exact e5.append (.cons dv .nil)
   ·rw[x.1];exact λb o nb e=>kk b o (λq=>nb (q▸hlo)) e) (hs env)
theorem fG{A:Around}{s:Shared}{env:Env}{o:Expr}{name:Str}{apos pos:Pos}{args:List Expr}{kws:List Keyword}{Q:Value→Shared→Prop}{E:Value→Shared→Prop}
  (hbase:∀env t,attributeBase o name env t=t)(hform:methodCallForm (args.length+kws.length) (backTo pos (starEach args env)) (backToKw pos (keywordEach kws env))=true)(hline:(apos.endLine==pos.line)=true)
  (h:wpAny (model prog w) A (eval o env) (λov AB=>∃fv first,(∀pl (Q':Value×List Value→Shared→Prop),Q' (fv,first) AB→wpAny (model prog w) A (getMethod ov name pl) Q' E AB)∧
   wpAny (model prog w) A (callWith pos fv first (backTo pos (starEach args env)) (backToKw pos (keywordEach kws env))) Q E AB) E s):
  wpAny (model prog w) A (eval (.Call (.Attribute o name apos) args kws pos) env) Q E s:=by
 rw[arm_eval_Call,hbase];have hpos:methodCallPos true o env apos pos=pure pos:=by unfold methodCallPos;simp[hline]
 unfold methodCall;rw[hform];exact wpAny_bind (BD h λov AB CT=>CT.elim λfv q=>q.elim λfirst q=>wpAny_bind (wpAny_standAt (wpAny_bind (wpAny_holding (q.1 _ _ (wpAny_bind (wpAny_of_eq hpos q.2)))))))
theorem tM{A:Around}{s:Shared}{env:Env}{o:Expr}{name:Str}{apos pos:Pos}{args:List Expr}{Q:Value→Shared→Prop}{E:Value→Shared→Prop}
  (hbase:∀env t,attributeBase o name env t=t)(hp:DK args)(hl:args.length<30)(hline:(apos.endLine==pos.line)=true)
  (h:wpAny (model prog w) A (eval o env) (λov AB=>∃fv first,(∀pl (Q':Value×List Value→Shared→Prop),Q' (fv,first) AB→wpAny (model prog w) A (getMethod ov name pl) Q' E AB)∧
   wpAny (model prog w) A (callWith pos fv first (backTo pos (starEach args env)) []) Q E AB) E s):
  wpAny (model prog w) A (eval (.Call (.Attribute o name apos) args [] pos) env) Q E s:=fG (kws:=[]) hbase (NC hp hl) hline h
structure FC(K:Frag)(AA:Heap)(C:Addr)(name:Str)(fa:Addr)(o:Obj)(fd:FuncData):Prop where
 find:findIn K (.ref C) name=some (some (.ref fa))
 fn:typeIn K (.ref fa)=some (.type "function")
 obj:AA.get? fa=some o
 data:o.data=.func fd
theorem GX{o:Expr}{name:Str}{fa:Addr}{ob:Obj}{fd:FuncData}{apos pos:Pos}{args:List Expr}{f:EF}{fs:List LV→Option (List D)}{g:DF}(X:K.In AA)(c:D1 K C)(mo:FC K AA C name fa ob fd)(hb:∀env t,attributeBase o name env t=t)(h:PE prog w AA n Sg o f)
  (hg:CK prog w AA n fa g)(hp:DK args)(hl:args.length<30)(hline:(apos.endLine==pos.line)=true)(hs:FM prog w AA n Sg args fs):
  PE prog w AA n Sg (.Call (.Attribute o name apos) args [] pos) (λρ=>(f ρ).bind λx=>EW x λC' ns ds=>if C'=C∧name∉ns then(fs ρ).bind λl=>g (x::l)else none):=
 λenv A s ρ d hid he ow la E H hA S hf=>AK hf λx hx hf=>tM hb hp hl hline (wp_g (h env A s ρ x hid he ow la E H hA S hx) λov AB dv k=>by
  have BS:=S.grows k.grows;have dv':=dv
  revert dv'
  refine dv.objE hf λC' ns ds t dx n es hf V g1 g2 e4 e5 dv'=>DM hf λhC hf=>AK hf λl hl' hf=>⟨.ref fa,[.ref t],λpl Q' hQ=>?_,?_⟩
  ·exact method_fn (X.keeps (BS.base.trans BS.keep)) (LF (hC.1▸g1.1) g2.1) c.ga c.gt mo.find mo.fn (by show(lookIn name (dictOf es n)).map _=_;rw[lookIn_dict,UH e4 hC.2];rfl) hQ
  ·refine Calls.callWith_function (o:=ob) (fd:=fd) (GC hp (wp_g (hs env A AB ρ l hid he ow la pos E H hA BS hl') λvs AF du AZ=>?_));have B4:=BS.grows AZ.grows;have hb:=B4.base.trans B4.keep;exact⟨⟨hb _ _ mo.obj,mo.data⟩,wp_g (hg A AF _ (.ref t::vs) (x::l) d E hA hb B4.hidOK (.cons (dv'.mono (DJ AZ.grows)) du) hf) λv BI q EJ=>⟨q,(k.trans AZ).trans EJ⟩⟩)
theorem Pa(C:Addr)(rest:List Value)(kw:List (Str×Value)):(Code.builtin "type.__call__" ⟨.ref C::rest,kw⟩).weight≤1∧(Code.builtin "type.__call__" ⟨.ref C::rest,kw⟩).cUnits≤1:=by
 constructor
 ·first
   |exact Nat.le_of_eq (by kernel_rfl:(Code.builtin "type.__call__" ⟨.ref C::rest,kw⟩).weight=1)
   |exact Nat.le_trans (Nat.le_of_eq (by kernel_rfl:(Code.builtin "type.__call__" ⟨.ref C::rest,kw⟩).weight=0)) (by decide)
 ·first
   |exact Nat.le_of_eq (by kernel_rfl:(Code.builtin "type.__call__" ⟨.ref C::rest,kw⟩).cUnits=1)
   |exact Nat.le_trans (Nat.le_of_eq (by kernel_rfl:(Code.builtin "type.__call__" ⟨.ref C::rest,kw⟩).cUnits=0)) (by decide)
theorem B9.under{A:Around}(h:B9 (n+2) A)(C:Addr)(vs:List Value):B9 (n+1) (A.under (.builtin "type.__call__" ⟨.ref C::vs,[]⟩)):=by
 obtain⟨t1,t2⟩:=Pa C vs [];refine⟨h.1,?_,?_⟩
 ·have:=h.2.1;show A.depth+_+(n+1)≤900;lia
 ·have:=h.2.2;show A.units+_+40*(n+1)≤9000;lia
theorem Qe{A:Around}{s:Shared}{hid:Addr→Prop}{E:Value→Shared→Prop}{fa:Addr}{ob:Obj}{fd:FuncData}{body:List Stmt}{x0:Str}{xs:List Str}{i0:Nat}{b0:Bool}{is:List Nat}{ns:List Str}{vs us:List Value}{ds own':List D}{ρ':Addr→List LV}{F:PF}(B:B0 AA mg mb)(X:K.In AA)(hA:B9 (n+2) A)(hb:A3 AA s.heap)(Kh:D7 hid s.heap)
  (hm:makesIn K C=true)(mo:FC K AA C "__init__" fa ob fd)(hco:fd.scope.isCoroutine=false)(hgen:fd.scope.isGenerator=false)(hbody:fd.body=.stmts body)(hcd:AA.CodeRec fd.code fd.qualname)(hgl:fd.globals=mainGlobals)(hbi:fd.builtins=builtinsNs)(hcl:fd.closure=[])
  (okS:HD Sg fd.scope)(hbind:∀(s:Shared)(v:Value),A3 AA s.heap→BindsTo s fd ⟨v::vs,[]⟩ ((x0,v)::xs.zip us))(hxs:xs.length=us.length)(hn0:Sg.names[i0]? =some (x0,b0))(hst0:b0=true∨x0∈Sg.stor)
  (ht:∀(j:Nat)(x:Str),xs[j]? =some x→M3 Sg is j x)(hl:xs.length=is.length)(hd:AJ (AL s.heap hid) us ds)
  (hP:PS prog w AA n Sg body F)(hF:∀l:Addr,F (A4 ((AX Sg.names.length).set i0 (.own (.ins (some l) C []) [])) is ds)=some (.next,ρ' l)∧(ρ' l)[i0]? =some (.own (.ins (some l) C ns) own')):
  wpAny (model prog w) A (call (.ref C) vs) (DP hid (.obj C ns own') s) E s:=by
 have XX:=X.keeps hb;refine wpAny_call (make_core (makes_of XX hm) (looks_findIn XX mo.find) (λself=>bind_fn XX self mo.fn) (.inl rfl) ?_);have g1:A3 s.heap ((s.heap.push emptyDict).push (instObj C s.heap.objs.size)):=(A3.push _ _).trans (A3.push _ _);have hx:((s.heap.push emptyDict).push (instObj C s.heap.objs.size)).get? (s.heap.objs.size+1)=some (instObj C s.heap.objs.size):=Heap.size_push s.heap emptyDict▸Heap.get?_push_size (s.heap.push emptyDict) rfl;have hdx:((s.heap.push emptyDict).push (instObj C s.heap.objs.size)).get? s.heap.objs.size=some (dictOf [] 0):=Heap.get?_push_of_some _ (Heap.get?_push_size _ rfl);have nx:s.heap.get? (s.heap.objs.size+1)=none:=Heap.get?_none_of_le (Nat.le_succ _);have nd:s.heap.get? s.heap.objs.size=none:=DT _;have fresh:∀a,s.heap.get? a=none→¬hid a:= λa e q=>(Kh a q).elim λV f=>BO e f;refine(hF s.heap.objs.size).elim λhF1 hF2=>(?_:codeAny _ _ _ _ {s with heap:=(s.heap.push emptyDict).push (instObj C s.heap.objs.size)});generalize (s.heap.push emptyDict).push (instObj C s.heap.objs.size)=h2 at g1 hx hdx⊢
 generalize s.heap.objs.size=l at hx hdx nx nd hF1 hF2⊢
 have vl:∀a o,AL s.heap hid a o→AL h2 (AY hid [l]) a o:= λa o e=>⟨g1 _ _ e.1,λq=>q.elim e.2 λq=>BO nd (List.mem_singleton.mp q▸e.1)⟩;exact mB (Sg:=Sg) (s:={s with heap:=h2}) (he:=s.heap) (hid:=hid) (l:=l) (kd:=.ins (some l) C []) (own:=[]) (ds:=ds) (is:=is) (v0:=.ref (l+1)) B (hA.under C vs) hb g1 (λa q=>(Kh a q).elim λo e=>⟨o,g1 _ _ e⟩) (g1 _ _ (hb _ _ mo.obj)) mo.data hco hgen hbody (hcd.elim λc q=>q.elim λoc q=>q.elim λa q=>q.elim λt q=>⟨c,oc,a,t,q.1,g1 _ _ (hb _ _ q.2.1),q.2.2⟩) hgl hbi hcl okS (hbind _ _ (hb.trans g1)) hn0 hst0
  (λj x v e=>ht j x (List.getElem?_zip_eq_some.mp e).1) ((List.length_zip.trans (hxs▸Nat.min_self _)).trans (hxs▸hl)) nd (fresh _ nd) hdx (.ins (es:=[]) (.inr rfl) ⟨hx,λq=>q.elim (fresh _ nx) λq=>Nat.succ_ne_self _ (List.mem_singleton.mp q)⟩ rfl trivial .nil) (by rw[List.map_snd_zip (Nat.le_of_eq hxs.symm)];exact hd.mono vl) hP hF1 hF2 rfl
  λh' tk hend hk=>⟨rfl,hend.elim λv q=>q.elim λo q=>Exists.elim q.2.inv λt w=>w.elim λn w=>w.elim λes w=>.obj (es:=es) ⟨hk _ _ (Nat.succ_ne_self _) hx,fresh _ nx⟩ ⟨w.2.2.1▸q.1,fresh _ nd⟩ rfl w.2.2.2.2.1 (w.2.2.2.2.2.mono (GN λa q=>.inl q)),⟨h',tk,rfl,λb o e=>hk b o (λq=>BO nd (q▸e)) (g1 _ _ e)⟩⟩
theorem VC(B:B0 AA mg mb)(i:Nat){x:Str}{p pos:Pos}{es:List Expr}{g:DF}{f:List LV→Option (List D)}(X:K.In AA)(hk:keepIn K (.ref C)=true)(hn:Sg.globs[i]? =some x)(hv:mg x=some (.ref C))
  (hg:CK prog w AA n C g)(hp:DK es)(h:FM prog w AA n Sg es f):PE prog w AA n Sg (.Call (.Name x p) es [] pos) (λρ=>(f ρ).bind g):=by
 intro env A s ρ d hid he ow la E H hA S hf;refine AK hf λds hds hf1=>?_;show wpAny (model prog w) A (do callWith pos (←eval (.Name x p) env) [] (backTo pos (starEach es env)) (backToKw pos (keywordEach [] env))) _ E s;refine wpAny_bind (IE B H hn (.inl hv) (S.base.trans S.keep) ?_);refine callWith_of (P:= λh=>K.In h) (by rw[show(backToKw pos (keywordEach [] env)).any (·.1.isNone)=false from rfl,Bool.or_false,HX];exact hp env) (keeps_K hk) (GC hp (wp_g (h env A s ρ ds hid he ow la pos E H hA S hds) λvs AB dv k=>?_));have S':=S.grows k.grows;have hb:=S'.base.trans S'.keep;exact⟨X.keeps hb,wp_g (hg A AB _ vs ds d E hA hb S'.hidOK dv hf1) λv AF q AZ=>⟨q,k.trans AZ⟩⟩
theorem rH(B:B0 AA mg mb)(i:Nat){x name:Str}{p pos:Pos}{mc a:Value}{d:D}(X:K.In AA)(hr:readsIn K C mc=true)(e:findCls K (.ref C) mc name=some (.val a))(hh:handedIn a=true)(hn:Sg.globs[i]? =some x)(hv:mg x=some (.ref C))(hd:∀g,AQ g a d):
  PE prog w AA n Sg (.Attribute (.Name x p) name pos) (λV=>some d):=by
 intro env A s ρ d' hid he ow la E H hA S hf;cases hf;refine QD (λV V=>rfl) (IE B H hn (.inl hv) (S.base.trans S.keep) ?_);exact cls_value (X.keeps (S.base.trans S.keep)) hr e hh ⟨hd _,Kp.toks _ _⟩
end
section
variable{prog:Program}{w:World}{AA:Heap}{n:Nat}{Sg:AP}{mg mb:Str→Option Value}
theorem N6{e:Expr}{f:EF}(h:PE prog w AA n Sg e f)(hs:∀env,starEach [e] env=(false,eval e env)::starEach [] env:=by intro _;rfl):FM prog w AA n Sg [e] (λρ=>(f ρ).map λd=>[d]):=by
 intro env A s ρ ds hid he ow la pos E H hA S hf;refine FV hf λd hd=>?_;exact AN h A5 hs env A s ρ [d] hid he ow la pos E H hA S (by show(f ρ).bind _=_;rw[hd];rfl)
end
set_option maxHeartbeats 4000000 in
theorem Iy(l b:Addr)(a1 a2 a3 b1 b2 b3:Int)(t1 t2 t3 u1 u2 u3:Tok)(n n2:Nat)(dd dd2:Option Addr)(sl sl2:Array (Option Value)):
  Meets (Builtin.«tuple.__gt__» ⟨[.ref l,.ref b],[]⟩) (λA R s=>s.heap.get? l=some {cls:=.type "tuple",dict:=dd,data:=.seq #[.int a1 t1,.int a2 t2,.int a3 t3] n,slots:=sl}∧s.heap.get? b=some {cls:=.type "tuple",dict:=dd2,data:=.seq #[.int b1 u1,.int b2 u2,.int b3 u3] n2,slots:=sl2}∧
   R (.ok (.ret (.bool (if a1=b1 then(if a2=b2 then decide (b3<a3)else decide (b2<a2))else decide (b1<a1))))) s):=
 .of_wp λprog w A R s h=>by
  obtain⟨hp,g,d,tk,os⟩:=s;obtain⟨hl,hb,h⟩:=h
  have f2:=AutoSeq1.sub_tuple_tuple
  wp_walk using wpAny_loadPart' hl,wpAny_loadPart' hb
  show wpAny _ _ (eqBool (.int a1 t1) (.int b1 u1)) _ _ _;refine wpAny_eqBool_int ?_;by_cases h1:a1=b1
  ·rw[if_pos h1]at h;rw[show(a1==b1)=true by simp[h1]]
   wp_walk
   show wpAny _ _ (eqBool (.int a2 t2) (.int b2 u2)) _ _ _;refine wpAny_eqBool_int ?_;by_cases h2:a2=b2
   ·rw[if_pos h2]at h;rw[show(a2==b2)=true by simp[h2]]
    wp_walk
    show wpAny _ _ (eqBool (.int a3 t3) (.int b3 u3)) _ _ _;refine wpAny_eqBool_int ?_;by_cases h3:a3=b3
    ·rw[show(a3==b3)=true by simp[h3]]
     wp_walk
     refine⟨_,rfl,?_⟩;have:decide (b3<a3)=false:=by simp[h3]
     rw[this]at h;exact h
    ·rw[show(a3==b3)=false by simp[h3]];rw[show(!false)=true from rfl,if_pos rfl];refine wpAny_bind (wpAny_rule (wpAny_bind ?_));refine richCompare_gives (op:=.Gt) (typeIs_int _ _ t3) (typeIs_int _ _ u3) PySem.F.slot_int_gt PySem.F.entry_int_gt (PySem.F.args_int_gt_2 _ _) (gives_int_gt _ _ t3 u3) (λx=>nomatch x) ?_;exact wpAny_bind (wpAny_pure (wpAny_pure (wpAny_pure (wpAny_pure ⟨_,rfl,h⟩))))
   ·rw[if_neg h2]at h;rw[show(a2==b2)=false by simp[h2]];rw[show(!false)=true from rfl,if_pos rfl];refine wpAny_bind (wpAny_rule (wpAny_bind ?_));refine richCompare_gives (op:=.Gt) (typeIs_int _ _ t2) (typeIs_int _ _ u2) PySem.F.slot_int_gt PySem.F.entry_int_gt (PySem.F.args_int_gt_2 _ _) (gives_int_gt _ _ t2 u2) (λx=>nomatch x) ?_;exact wpAny_bind (wpAny_pure (wpAny_pure (wpAny_pure (wpAny_pure ⟨_,rfl,h⟩))))
  ·rw[if_neg h1]at h;rw[show(a1==b1)=false by simp[h1]];rw[show(!false)=true from rfl,if_pos rfl];refine wpAny_bind (wpAny_rule (wpAny_bind ?_));refine richCompare_gives (op:=.Gt) (typeIs_int _ _ t1) (typeIs_int _ _ u1) PySem.F.slot_int_gt PySem.F.entry_int_gt (PySem.F.args_int_gt_2 _ _) (gives_int_gt _ _ t1 u1) (λx=>nomatch x) ?_;exact wpAny_bind (wpAny_pure (wpAny_pure (wpAny_pure (wpAny_pure ⟨_,rfl,h⟩))))
section
variable{prog:Program}{w:World}{A:Around}{R:Result→Shared→Prop}{I:Addr}{fp wr:List Addr}{n:Nat}{P:Nat→Value→Prop}{St:Nat→Heap→Prop}
def fP(prog:Program)(w:World)(A:Around)(op:CmpOp)(Hp:Heap→Prop)(P:Nat→Value→Prop)(bt:Nat→Nat→Bool):Prop:=
 ∀i j vi vj (s:Shared) (Q:Value→Shared→Prop) (E:Value→Shared→Prop),Hp s.heap→P i vi→P j vj→Q (.bool (bt i j)) s→wpAny (model prog w) A (richCompare op vi vj) Q E s
theorem Iw(W:Walks prog w A.in1 I fp wr n P St)(bt:Nat→Nat→Bool){Hp:Heap→Prop}(hcmp:fP prog w A.in1 .Gt Hp P bt)(S:Addr)(hSf:S∉fp)(hHp:∀h h',Hp h→(∀b o,b∉wr→b≠S→h.get? b=some o→h'.get? b=some o)→Hp h'):
  ∀(k j:Nat)(s:Shared)(vb:Value)(c:Nat),n-(j+1)=k→j+1≤n→Hp s.heap→St (j+1) s.heap→P (argBest bt j) vb→
  s.heap.get? S=some {cls:=.type "list",dict:=none,data:=.seq #[vb,vb] c,slots:= #[]}→
  (∀v h' tk,P (argBest bt (n-1)) v→(∀b o,b∉wr→b≠S→s.heap.get? b=some o→h'.get? b=some o)→R (.ok (.ret v)) {s with heap:=h',toks:=tk})→
  codeAny (model prog w) A (.builtin "max.loop" ⟨[.ref I,.none,.ref S],[]⟩) R s:=by
 have hSw:S∉wr:= λh=>hSf (W.sub _ h);have hname:(toString "max"++toString ".loop":String)="max.loop":=by decide
 intro k
 induction k with
 |zero=>
  intro j s vb c hk hj hH hst hPb hS hR;have hin:j+1=n:=by lia
  refine codeAny_builtin F.entry_max_loop ?_;rw[Around.under_plainId F.plain_max_loop _];show wpAny _ A.in1 (seqItems? (.ref S)>>=_) _ _ s;refine wpAny_bind (wpAny_seqItems hS rfl ?_);show wpAny _ A.in1 (tryCatch (pyNext (.ref I)) _>>=_) _ _ s;refine wpAny_bind (wpAny_tryCatch (W.done s _ _ (hin▸hst) λh' tk hk'=>?_));have hS':=hk' S _ hSw hS;show wpAny _ A.in1 (updateSeq S (λV=> #[])>>=_) _ _ _;refine wpAny_bind ?_;refine wpAny_updateSeq hS' rfl (wpAny_bind (wpAny_letGo (wpAny_pure ?_)));refine hR vb _ tk (by rw[←hin];exact hPb) λb o hbw hbS e=>(Heap.get?_update_other _ _ (Ne.symm hbS)).trans (hk' b o hbw e)
 |succ k ih=>
  intro j s vb c hk hj hH hst hPb hS hR;have hlt:j+1<n:=by lia
  refine codeAny_builtin F.entry_max_loop ?_;rw[Around.under_plainId F.plain_max_loop _];show wpAny _ A.in1 (seqItems? (.ref S)>>=_) _ _ s;refine wpAny_bind (wpAny_seqItems hS rfl ?_);show wpAny _ A.in1 (tryCatch (pyNext (.ref I)) _>>=_) _ _ s;refine wpAny_bind (wpAny_tryCatch (W.item (j+1) s _ _ hlt hst λv h' tk hP hst' hk'=>?_));have hS':=hk' S _ hSw hS;have hH':Hp h':=hHp _ _ hH λb o hbw V e=>hk' b o hbw e;show wpAny _ A.in1 (tryCatch (holding [v,v] (richCompare .Gt v vb>>=_)) _>>=_) _ _ _;refine wpAny_bind (wpAny_tryCatch (wpAny_holding (wpAny_bind (hcmp (j+1) (argBest bt j) v vb _ _ _ hH' hP hPb ?_))));refine wpAny_bind (wpAny_holding (wpAny_truthy_bool ?_));refine wpAny_bind (wpAny_letGo (wpAny_pure ?_));cases hb:bt (j+1) (argBest bt j)with
  |true=>
   simp only[if_true];refine wpAny_bind ?_;refine wpAny_updateSeq hS' rfl (wpAny_bind (wpAny_letGo ?_));rw[hname];refine wpAny_pure ⟨plainId_quiet F.plain_max_loop _,ih (j+1) _ v _ (by lia) hlt (hHp _ _ hH' λb o V hbS e=>(Heap.get?_update_other _ _ (Ne.symm hbS)).trans e) (W.frame _ _ _ hst' λb hbf o e=>?_) (by simp only[argBest,hb,if_true];exact hP) (Heap.get?_update_self _ hS' rfl)
    λv' h'' tk'' hP' hk''=>?_⟩
   ·exact(Heap.get?_update_other _ _ (λh:S=b=>hSf (by rw[h];exact hbf))).trans e
   ·exact hR v' h'' tk'' hP' λb o hbw hbS e=>hk'' b o hbw hbS ((Heap.get?_update_other _ _ (Ne.symm hbS)).trans (hk' b o hbw e))
  |false=>
   simp only[Bool.false_eq_true,if_false];refine wpAny_bind (wpAny_letGo ?_);rw[hname];refine wpAny_pure ⟨plainId_quiet F.plain_max_loop _,ih (j+1) _ vb c (by lia) hlt hH' hst' (by simp only[argBest,hb,Bool.false_eq_true,if_false];exact hPb) hS' λv' h'' tk'' hP' hk''=>?_⟩;exact hR v' h'' tk'' hP' λb o hbw hbS e=>hk'' b o hbw hbS (hk' b o hbw e)
end
section
variable{prog:Program}{w:World}{A:Around}{E:Value→Shared→Prop}{s:Shared}
theorem Ix{x:Value}{Q:Value→Shared→Prop}
  (h:wpAny (model prog w) A.in1 (pyIter x) (λit AF=>∃I fp wr n P St bt,∃Hp:Heap→Prop,it=.ref I∧Walks prog w A.in1 I fp wr n P St∧St 0 AF.heap∧(∀b∈fp,b<AF.heap.objs.size)∧0<n∧fP prog w A.in1 .Gt Hp P bt∧Hp AF.heap∧(∀h h' S,AF.heap.objs.size≤S→Hp h→(∀b o,b∉wr→b≠S→h.get? b=some o→h'.get? b=some o)→Hp h')∧
   ∀v h' tk,P (argBest bt (n-1)) v→(∀b o,b∉wr→AF.heap.get? b=some o→h'.get? b=some o)→Q v {AF with heap:=h',toks:=tk}) E s):
  wpAny (model prog w) A (call (.builtin "max") [x]) Q E s:=by
 have hname:(toString "max"++toString ".loop":String)="max.loop":=by decide
 refine call_function_tree F.kind_max F.plain_max F.entry_max (F.args_max1 _) ?_;show wpAny _ A.in1 (Builtin.Builtins.bindParams "max" ["key","default"] 0 ⟨[],[]⟩>>=_) _ _ s;refine wpAny_bind (wpAny_of_eq (show Builtin.Builtins.bindParams "max" ["key","default"] 0 ⟨[],[]⟩=pure [none,none]from rfl) ?_);refine wpAny_bind (wpAny_pure ?_);refine wpAny_bind (wpAny_mono h (λit AF GG=>?_) λV V e=>e);obtain⟨I,fp,wr,n,P,St,bt,Hp,rfl,W,hst,hfp,hn,hcmp,hH,hHp,hQ⟩:=GG;refine wpAny_bind (wpAny_newObj_type ?_);have hSf:AF.heap.objs.size∉fp:= λhm=>Nat.lt_irrefl _ (hfp _ hm);have hSw:AF.heap.objs.size∉wr:= λhm=>hSf (W.sub _ hm);have gp:∀b o,AF.heap.get? b=some o→(AF.heap.push {cls:=.type "list",dict:=none,data:=.seq ([]:List Value).toArray}).get? b=some o:= λb o e=>Heap.get?_push_of_some _ e;rw[hname];refine wpAny_pure ⟨plainId_quiet F.plain_max_loop _,?_⟩;refine codeAny_builtin F.entry_max_loop ?_;rw[Around.under_plainId F.plain_max_loop _];have hS:(AF.heap.push {cls:=.type "list",dict:=none,data:=.seq ([]:List Value).toArray}).get? AF.heap.objs.size=some {cls:=.type "list",dict:=none,data:=.seq #[] 0,slots:= #[]}:=Heap.get?_push_size _ rfl;show wpAny _ A.in1 (seqItems? (.ref AF.heap.objs.size)>>=_) _ _ _;refine wpAny_bind (wpAny_seqItems hS rfl ?_);show wpAny _ A.in1 (tryCatch (pyNext (.ref I)) _>>=_) _ _ _;refine wpAny_bind (wpAny_tryCatch (W.item 0 _ _ _ hn (W.frame _ _ _ hst λb V o e=>gp b o e) λv h' tk hP hst' hk'=>?_));have hS':=hk' _ _ hSw hS;show wpAny _ A.in1 (updateSeq AF.heap.objs.size (λV=> #[v,v])>>=_) _ _ _;refine wpAny_bind ?_;refine wpAny_updateSeq hS' rfl ?_;rw[hname];have hH1:Hp h':=hHp _ _ AF.heap.objs.size (Nat.le_refl _) hH λb o hbw V e=>hk' b o hbw (gp b o e);refine wpAny_pure ⟨plainId_quiet F.plain_max_loop _,Iw W bt hcmp AF.heap.objs.size hSf (λh h' a b=>hHp h h' _ (Nat.le_refl _) a b) _ 0 _ v _ rfl hn (hHp _ _ AF.heap.objs.size (Nat.le_refl _) hH1 λb o V hbS e=>(Heap.get?_update_other _ _ (Ne.symm hbS)).trans e) (W.frame _ _ _ hst' λb hbf o e=>?_) hP (Heap.get?_update_self _ hS' rfl) λv' h'' tk'' hP' hk''=>?_⟩
 ·exact(Heap.get?_update_other _ _ (λh:AF.heap.objs.size=b=>hSf (by rw[h];exact hbf))).trans e
 ·exact hQ v' h'' tk'' hP' λb o hbw e=>hk'' b o hbw (Nat.ne_of_lt (Heap.lt_size e)) ((Heap.get?_update_other _ _ (Nat.ne_of_gt (Heap.lt_size e))).trans (hk' b o hbw (gp b o e)))
end
noncomputable def H3(a b:Int×Int×Int):Bool:=if a.1=b.1 then(if a.2.1=b.2.1 then decide (b.2.2<a.2.2)else decide (b.2.1<a.2.1))else decide (b.1<a.1)
def VN(d:D):Option (Int×Int×Int):=(JC d).bind (P8 λa b c=>(B6 a).bind λa=>(B6 b).bind λb=>(B6 c).bind λc=>some (a,b,c))
def VO:List D→Option (List (Int×Int×Int)):=OT VN
def lM:List (Int×Int×Int)→Option (Int×Int×Int)
 |[]=>none
 |a::r=>some (E7 H3 a r)
def aR:List D→Option D:=EO λd=>(CX d).bind λl=>(VO l).bind λts=>(lM ts).map λt=>.tup [.int t.1,.int t.2.1,.int t.2.2]
theorem xU{α:Type}(gt:α→α→Bool)(x:α)(l:List α)(b:α):E7 gt b (l++[x])=if gt x (E7 gt b l)then x else E7 gt b l:=by
 induction l generalizing b with
 |nil=>rfl
 |cons y l ih=>exact ih _
theorem xG{α:Type}(gt:α→α→Bool)(f:Nat→α)(k:Nat):f (argBest (λi j=>gt (f i) (f j)) k)=E7 gt (f 0) ((List.range' 1 k).map f):=by
 induction k with
 |zero=>rfl
 |succ k ih=>
  rw[List.range'_concat,List.map_append,List.map_singleton,xU,←ih,Nat.one_mul,Nat.add_comm 1 k];exact apply_ite f ..
def M4(h:Heap)(v:Value)(t:Int×Int×Int):Prop:=∃x o n t1 t2 t3,v=.ref x∧h.get? x=some o∧o.cls=.type "tuple"∧o.data=.seq #[.int t.1 t1,.int t.2.1 t2,.int t.2.2 t3] n
theorem M4.keep{h h':Heap}{v:Value}{t:Int×Int×Int}(x:M4 h v t)(k:A3 h h'):M4 h' v t:=x.elim λx q=>q.elim λo q=>q.elim λn q=>q.elim λt1 q=>q.elim λt2 q=>q.elim λt3 q=>⟨x,o,n,t1,t2,t3,q.1,k _ _ q.2.1,q.2.2⟩
theorem sY{d:D}{t:Int×Int×Int}(e:VN d=some t):d=.tup [.int t.1,.int t.2.1,.int t.2.2]:=by
 refine AK e λl el e=>Pb e λa b c q e=>AK e λi ei e=>AK e λj ej e=>AK e λk ek e=>?_;rw[QZ el,q,HW ei,HW ej,HW ek,←Option.some.inj e]
theorem Pf{h:Heap}{hid:Addr→Prop}{v:Value}{d:D}{t:Int×Int×Int}(H:AQ (AL h hid) v d)(e:VN d=some t):M4 h v t:=by
 rw[sY e]at H;obtain⟨x,o,vs,n,hv,g,c,dt,r⟩:=H.inv;obtain⟨_,_,_,e1,r1,r2,r3⟩:=r.three_inv;obtain⟨t1,q1⟩:=r1.int_inv;obtain⟨t2,q2⟩:=r2.int_inv;obtain⟨t3,q3⟩:=r3.int_inv;rw[e1,q1,q2,q3]at dt;exact⟨x,o,n,t1,t2,t3,hv,g.1,c,dt⟩
theorem Ph{h:Heap}{hid:Addr→Prop}{vs:List Value}{ds:List D}{ts:List (Int×Int×Int)}(hd:AJ (AL h hid) vs ds)(e:VO ds=some ts):ts.length=vs.length∧∀(i:Nat)(v:Value),vs[i]? =some v→∃t,ts[i]? =some t∧ds[i]? =some (.tup [.int t.1,.int t.2.1,.int t.2.2])∧M4 h v t:=by
 induction ds generalizing vs ts with
 |nil=>rw[hd.nil_inv,←Option.some.inj e];exact⟨rfl,λV V h=>AI h⟩
 |cons d ds ih=>
  obtain⟨v0,us,q,a,b⟩:=hd.cons_inv;refine AK e λt ht e=>?_;obtain⟨r,hr,e⟩:=Option.map_eq_some_iff.mp e;obtain⟨h1,h2⟩:=ih b hr;rw[q,←e];refine⟨congrArg (· +1) h1,λi v h=>?_⟩;cases i with
  |zero=>exact⟨t,rfl,congrArg some (sY ht),Option.some.inj h▸Pf a ht⟩
  |succ i=>exact h2 i v h
section
variable{prog:Program}{w:World}{AA:Heap}{n:Nat}{Sg:AP}{mg mb:Str→Option Value}
theorem Qb{A:Around}{s:Shared}{u v:Value}{a b:Int×Int×Int}{Q:Value→Shared→Prop}{E:Value→Shared→Prop}(hu:A.units<cLine)(ha:M4 s.heap u a)(hb:M4 s.heap v b)(h:Q (.bool (H3 a b)) s):wpAny (model prog w) A (richCompare .Gt u v) Q E s:=by
 obtain⟨x,⟨c1,d1,dt1,sl1⟩,n1,t1,t2,t3,ex,g1,e1,e2⟩:=ha;obtain⟨y,⟨c2,d2,dt2,sl2⟩,n2,u1,u2,u3,ey,g2,e3,e4⟩:=hb;dsimp only at e1 e2 e3 e4;rw[e1,e2]at g1;rw[e3,e4]at g2;rw[ex,ey];have hT:s.TypeIs (.ref x) "tuple":=⟨_,g1,rfl⟩;refine wpAny_richCompare_same_room (op:=.Gt) hT ⟨_,g2,rfl⟩ PySem.F.slot_tuple_gt (call_meets PySem.F.slot_tuple_gt hT PySem.F.entry_tuple_gt (PySem.F.args_tuple_gt_2 _ _) (Iy x y a.1 a.2.1 a.2.2 b.1 b.2.1 b.2.2 t1 t2 t3 u1 u2 u3 n1 n2 d1 d2 sl1 sl2) ⟨g1,g2,?_⟩) hu;exact⟨by simp,h⟩
theorem xV{ts:List (Int×Int×Int)}{m:Int×Int×Int}(hm:lM ts=some m):0<ts.length∧ts.getD (argBest (λi j=>H3 (ts.getD i (0,0,0)) (ts.getD j (0,0,0))) (ts.length-1)) (0,0,0)=m:=by
 cases ts with
 |nil=>exact AI hm
 |cons x r=>
  refine⟨Nat.succ_pos _,(xG H3 (λi=>(x::r).getD i (0,0,0)) _).trans ((congrArg (E7 H3 x) ?_).trans (Option.some.inj hm))⟩;refine List.ext_getElem (by simp) λi h1 h2=>?_;rw[List.getElem_map,List.getElem_range',Nat.one_mul,Nat.add_comm 1 i,List.getD_eq_getElem?_getD,List.getElem?_cons_succ,List.getElem?_eq_getElem h2];rfl
theorem yG:FL prog w AA n (.builtin "max") aR:=by
 refine λA s hid vs ds d E hA hb K hd hf=>hd.oneE hf λv d dv hf=>AK hf λl el hf=>AK hf λts hts hf=>FV hf λm hm=>dv.lstE el λa us hl hdl=>Ix (wpAny_pyIter_list hl ?_);obtain⟨hlen,hat⟩:=Ph hdl hts;obtain⟨h0,hm⟩:=xV hm;rw[hlen]at h0 hm;obtain⟨o,ho,_⟩:=id hl;have g:=A3.push s.heap {cls:=.type "list_iterator",data:=.fields #[.ref a,.int 0 0]};have lt:∀b o,s.heap.get? b=some o→b∉[s.heap.objs.size]:= λb o e q=>BO (DT s.heap) (List.mem_singleton.mp q▸e);refine⟨_,_,_,_,_,_,(λi j=>H3 (ts.getD i (0,0,0)) (ts.getD j (0,0,0))),(λh=>∀(b:Addr)(o:Obj),s.heap.get? b=some o→h.get? b=some o),rfl,Walks.list (A:=A.in1) hA.1 s.heap.objs.size a (λq=>lt a o ho (q▸ .head _)) us.toArray,⟨⟨_,Heap.get?_push_size _ rfl,rfl,rfl⟩,hl.push _⟩,
  D4 (by rw[Heap.size_push];exact Nat.lt_succ_self _) (E5 (Heap.lt_size (g _ _ ho))),h0,λi j vi vj s' Q E hH hi hj hQ=>?_,g,λh h' S hS hH hk b o e=>hk b o (lt b o e) (λq=>absurd (Heap.lt_size (g _ _ (q▸e))) (Nat.not_lt.mpr hS)) (hH b o e),λv h' tk hP hk=>?_⟩
 ·obtain⟨ti,e1,_,h1⟩:=hat i vi (by simpa using hi);obtain⟨tj,e2,_,h2⟩:=hat j vj (by simpa using hj);refine Qb (by have:=hA.2.2;show A.units+1<9900;lia) (h1.keep hH) (h2.keep hH) ?_;have hQ:Q (.bool (H3 (ts.getD i (0,0,0)) (ts.getD j (0,0,0)))) s':=hQ;rw[List.getD_eq_getElem?_getD,List.getD_eq_getElem?_getD,e1,e2]at hQ;exact hQ
 ·have kk:A3 s.heap h':= λb o e=>hk b o (lt b o e) (g b o e);have hP:us[argBest (λi j=>H3 (ts.getD i (0,0,0)) (ts.getD j (0,0,0))) (us.length-1)]? =some v:=List.getElem?_toArray.symm.trans hP;obtain⟨t,e1,e2,_⟩:=hat _ v hP;obtain⟨d',e3,dv'⟩:=hdl.get' hP;rw[List.getD_eq_getElem?_getD,e1]at hm;rw[Option.some.inj (e3.symm.trans e2),show t=m from hm]at dv';exact⟨dv'.mono (DJ kk),⟨h',tk,rfl,kk⟩⟩
theorem OJ{st:Stmt}:XS prog w AA n Sg st (λV=>none):= λV V V V V V V V V V V V V V hf=>nomatch hf
theorem AQ.clo'{g:Gm}{v:Value}{fd:FuncData}{xs:List Str}{l:List D}(x:AQ g v (.clo fd xs l)):∃a o fd' vs,v=.ref a∧g a o∧o.data=.func fd'∧ZU fd'=fd∧(∀h:Heap,(∀b x,g b x→h.get? b=some x)→h.CodeRec fd'.code fd'.qualname)∧HR g fd'.closure xs vs∧AJ g vs l:=x.inv
def HT(prog:Program)(w:World)(AA:Heap)(n:Nat)(gk:D→List D→Option D):Prop:=
 ∀(A:Around)(s:Shared)(hid:Addr→Prop)(v:Value)(k:D)(us:List Value)(ds:List D)(d:D)(E:Value→Shared→Prop),B9 n A→A3 AA s.heap→D7 hid s.heap→AQ (AL s.heap hid) v k→AJ (AL s.heap hid) us ds→gk k ds=some d→
  (∃a o fd,v=.ref a∧s.heap.get? a=some o∧o.data=.func fd)∧wpAny (model prog w) A (call v us) (DP hid d s) E s
theorem rG(i:Nat){x:Str}{b:Bool}{p pos:Pos}{es:List Expr}{gk:D→List D→Option D}{f:List LV→Option (List D)}(hn:Sg.names[i]? =some (x,b))(hg:HT prog w AA n gk)(hfn:∀k ds d,gk k ds=some d→∃fd xs l,k=.clo fd xs l)(hp:DK es)(h:FM prog w AA n Sg es f):
  PE prog w AA n Sg (.Call (.Name x p) es [] pos) (λρ=>(AD i ρ).bind λk=>(f ρ).bind λds=>gk k ds):=
 λenv A s ρ d hid he ow la E H hA S hf=>AK hf λk hk hf=>AK hf λds hds hf=>(IA S hn (O9 hk)).elim λl0 t=>t.2.elim λv t=>(hfn _ _ _ hf).elim λfd q=>q.elim λxs q=>q.elim λl q=>
  (wpAny_bind (FG H hn t.1 ((q▸t.2).clo'.elim λa w=>w.elim λo w=>w.elim λfd' w=>w.elim λvs' w=>w.1.symm▸Calls.callWith_function (o:=o) (fd:=fd') (GC hp (GL.wp_g (h env A s ρ ds hid he ow la pos E H hA S hds) λus AB dv A6=>
   have BS:=S.grows A6.grows
   ⟨⟨A6.grows _ _ w.2.1.1,w.2.2.1⟩,GD.wp_g (hg A AB _ _ _ us ds d E hA (BS.base.trans BS.keep) BS.hidOK (w.1▸t.2.mono (DJ A6.grows)) dv hf).2 λv AF q AZ=>⟨q,A6.trans AZ⟩⟩)))):wpAny (model prog w) A (do callWith pos (←eval (.Name x p) env) [] (backTo pos (starEach es env)) (backToKw pos (keywordEach [] env))) _ E s)
noncomputable def E9(d:D):Bool:=D.casesOn (motive_1:= λV=>Bool) d true (λV=>true) (λV=>true) (λV=>true) (λV=>true) (λV=>false) (λV=>false) (λV=>false) (λV=>false) (λV V V=>false) (λV V=>false) (λV V V=>false) (λV=>false)
theorem RH{g g':Gm}{v:Value}{d:D}(hd:E9 d=true)(h:AQ g v d):AQ g' v d:=
 AQ.casesOn (motive_1:= λv d V=>E9 d=true→AQ g' v d) h (λV=>.none) (λb V=>.bool b) (λi t V=>.int i t) (λi t V=>.str i t) (λi t V=>.flt i t) (λV h=>MI h) (λV h=>MI h) (λV V V V h=>MI h) (λV V h=>MI h) (λV V V V V h=>MI h) (λV V h=>MI h) (λV V V V V h=>MI h) (λV V V V h=>MI h) hd
theorem BH.opn{h:Heap}{hid:Addr→Prop}{v:Value}{d:D}(x:BH h hid v d):AQ (AL h (λV=>False)) v d:=
 have m:∀a o,AL h hid a o→AL h (λV=>False) a o:=GN λV q=>q.elim
 x.elim (λq=>q.mono m) λq=>q.elim λl q=>q.elim λus q=>q.elim λes q=>q.1▸q.2.1▸q.2.2.1.elim λk e=>.lst ⟨e,id⟩ (q.2.2.2.mono m)
theorem ED.opn{h:Heap}{hid:Addr→Prop}{vs:List Value}{ds:List D}(x:ED h hid vs ds):AJ (AL h (λV=>False)) vs ds:=by
 induction vs generalizing ds with
 |nil=>cases ds with
  |nil=>exact .nil
  |cons=>exact x.elim
 |cons v vs ih=>cases ds with
  |nil=>exact x.elim
  |cons d ds=>exact .cons x.1.opn (ih x.2)
theorem Kk(B:B0 AA mg mb)(i:Nat){x:Str}{fa:Addr}{ob:Obj}{fd:FuncData}{p pos:Pos}{es:List Expr}{g:DF}{f:List LV→Option (List D)}(hn:Sg.globs[i]? =some x)(hv:mg x=some (.ref fa))(ho:AA.get? fa=some ob)(hd:ob.data=.func fd)
  (hg:CK prog w AA n fa g)(hp:DK es)(h:L1 prog w AA n Sg es f):PE prog w AA n Sg (.Call (.Name x p) es [] pos) (λρ=>(f ρ).bind λds=>(g ds).bind λd=>if E9 d then some d else none):=by
 refine λenv A s ρ d hid he ow la E H hA S hf=>AK hf λds hds hf=>AK hf λd' hd' hf=>DM hf λhfl hf=>(?_:wpAny (model prog w) A (do callWith pos (←eval (.Name x p) env) [] (backTo pos (starEach es env)) (backToKw pos (keywordEach [] env))) _ E s)
 exact wpAny_bind (IE B H hn (.inl hv) (S.base.trans S.keep) (Calls.callWith_function (o:=ob) (fd:=fd) (GC hp (BD (h env A s ρ ds hid he ow la pos E H hA S hds) λvs AB x=>
  have hb:=(S.base.trans S.keep).trans x.k.grows
  ⟨⟨hb _ _ ho,hd⟩,wp_g (hg A AB (λV=>False) vs ds d' E hA hb (λa q=>q.elim) x.d.opn hd') λv AF q AZ=>DA hf ⟨RH hfl q,x.k.trans AZ⟩⟩))))
end
section
variable{prog:Program}{w:World}{AA:Heap}{n:Nat}{Sg:AP}{mg mb:Str→Option Value}{K:Frag}{C:Addr}
def KD(prog:Program)(w:World)(AA:Heap)(n:Nat)(fa:Addr)(kn:Str)(f:KF):Prop:=
 ∀(A:Around)(s:Shared)(hid:Addr→Prop)(vs:List Value)(ds:List D)(u:Value)(e d:D)(E:Value→Shared→Prop),B9 n A→A3 AA s.heap→D7 hid s.heap→AJ (AL s.heap hid) vs ds→AQ (AL s.heap hid) u e→f ds e=some d→
  wpAny (model prog w) A (call (.ref fa) vs [(kn,u)]) (DP hid d s) E s
theorem RC{A:Around}{s:Shared}{E:Value→Shared→Prop}{pos:Pos}{f:Value}{a:Expr}{es:List Expr}{kn:Str}{ke:Expr}{kp:Pos}{env:Env}{Q:Args→Shared→Prop}(hp:DK (a::es))(hs:starEach (a::es) env=(false,eval a env)::starEach es env)
  (h:wpAny (model prog w) A (spliced (backTo pos (starEach (a::es) env))) (λvs AB=>wpAny (model prog w) A (eval ke env) (λu AF=>Q ⟨vs,[(kn,u)]⟩ AF) E AB) E s):
  wpAny (model prog w) A (evalArgs f true (backTo pos (starEach (a::es) env)) (backToKw pos (keywordEach [⟨some kn,ke,kp⟩] env))) Q E s:=by
 rw[hs]at h⊢;show wpAny (model prog w) A (evalArgs f true ((false,eval a env)::backTo pos (starEach es env)) [(some kn,do let v ←eval ke env;standAt pos;pure v)]) Q E s;refine evalArgs_kw rfl (BD h λvs AB CT=>?_);show wpAny (model prog w) A (do let v ←(do let v ←eval ke env;standAt pos;pure v);return v::(←holding [v] (evalAll []))) _ E AB;refine wpAny_bind (wpAny_bind (BD CT λu AF GG=>wpAny_bind (wpAny_standAt (wpAny_pure ?_))));exact wpAny_bind (wpAny_holding (wpAny_pure (wpAny_pure GG)))
theorem Kn{o:Expr}{name kn:Str}{fa:Addr}{ob:Obj}{fd:FuncData}{apos pos kp:Pos}{a:Expr}{es:List Expr}{ke:Expr}{f fk:EF}{fs:List LV→Option (List D)}{g:KF}(X:K.In AA)(c:D1 K C)(mo:FC K AA C name fa ob fd)(hb:∀env t,attributeBase o name env t=t)(h:PE prog w AA n Sg o f)
  (hg:KD prog w AA n fa kn g)(hp:DK (a::es))(hst:∀env,starEach (a::es) env=(false,eval a env)::starEach es env)(hform:∀env,methodCallForm ((a::es).length+1) (backTo pos (starEach (a::es) env)) (backToKw pos (keywordEach [⟨some kn,ke,kp⟩] env))=true)(hline:(apos.endLine==pos.line)=true)(hs:FM prog w AA n Sg (a::es) fs)(hk:PE prog w AA n Sg ke fk):
  PE prog w AA n Sg (.Call (.Attribute o name apos) (a::es) [⟨some kn,ke,kp⟩] pos) (λρ=>(f ρ).bind λx=>EW x λC' ns ds=>if C'=C∧name∉ns then(fs ρ).bind λl=>(fk ρ).bind λe=>g (x::l) e else none):=
 λenv A s ρ d hid he ow la E H hA S hf=>AK hf λx hx hf=>fG hb (hform env) hline (wp_g (h env A s ρ x hid he ow la E H hA S hx) λov AB dv k=>by
  have BS:=S.grows k.grows;have dv':=dv
  revert dv'
  refine dv.objE hf λC' ns ds t dx n es' hf V g1 g2 e4 e5 dv'=>DM hf λhC hf=>AK hf λl hl' hf=>AK hf λe he' hf=>⟨.ref fa,[.ref t],λpl Q' hQ=>?_,?_⟩
  ·exact method_fn (X.keeps (BS.base.trans BS.keep)) (LF (hC.1▸g1.1) g2.1) c.ga c.gt mo.find mo.fn (by show(lookIn name (dictOf es' n)).map _=_;rw[lookIn_dict,UH e4 hC.2];rfl) hQ
  ·refine callWith_function_kw (o:=ob) (fd:=fd) (RC hp (hst env) (wp_g (hs env A AB ρ l hid he ow la pos E H hA BS hl') λvs AF du AZ=>wp_g (hk env A AF ρ e hid he ow la E H hA (BS.grows AZ.grows) he') λu BI de EJ=>?_));have DG:=(BS.grows AZ.grows).grows EJ.grows;have hb:=DG.base.trans DG.keep;have k23:=AZ.trans EJ;exact⟨⟨hb _ _ mo.obj,mo.data⟩,wp_g (hg A BI _ (.ref t::vs) (x::l) u e d E hA hb DG.hidOK (.cons (dv'.mono (DJ k23.grows)) (du.mono (DJ EJ.grows))) de hf) λv CS q LJ=>⟨q,(k.trans k23).trans LJ⟩⟩)
end
section
variable{prog:Program}{w:World}{AA:Heap}{n:Nat}{Sg:AP}{mg mb:Str→Option Value}
structure LX(AA:Heap)(Sg:AP)(fa:Addr)(ob:Obj)(fd:FuncData)(body:List Stmt):Prop where
 obj:AA.get? fa=some ob
 data:ob.data=.func fd
 co:fd.scope.isCoroutine=false
 gen:fd.scope.isGenerator=false
 body:fd.body=.stmts body
 code:AA.CodeRec fd.code fd.qualname
 glob:fd.globals=mainGlobals
 bi:fd.builtins=builtinsNs
 clos:fd.closure=[]
 sc:HD Sg fd.scope
theorem Z'{AA h:Heap}(k:A3 AA h){c:Value}{q:Str}(x:AA.CodeRec c q):h.CodeRec c q:=x.elim λc r=>r.elim λoc r=>r.elim λq r=>r.elim λt r=>⟨c,oc,q,t,r.1,k _ _ r.2.1,r.2.2⟩
theorem HD.stoIn{scope:Scope}(ok:HD Sg scope):∀x∈Sg.stor,(x,NameKind.cell)∈scope.names:= λx hx=>dJ (ok.sto x hx)
theorem m6{A:Around}{s:Shared}{hid:Addr→Prop}{fa:Addr}{ob:Obj}{fd:FuncData}{body:List Stmt}{vs:List Value}{kw:List (Str×Value)}{binds:List (Str×Value)}{is:List Nat}{ds:List D}{d:D}{F:PF}{E:Value→Shared→Prop}(B:B0 AA mg mb)(O:LX AA Sg fa ob fd body)(hA:B9 (n+1) A)(hb:A3 AA s.heap)(K:D7 hid s.heap)
  (hbind:BindsTo s fd ⟨vs,kw⟩ binds)(ht:∀(j:Nat)(x:Str)(v:Value),binds[j]? =some (x,v)→M3 Sg is j x)(hl:binds.length=is.length)(hd:AJ (AL s.heap hid) (binds.map (·.2)) ds)
  (hP:PS prog w AA n Sg body F)(hF:DB F (A4 (AX Sg.names.length) is ds)=some d):
  wpAny (model prog w) A (call (.ref fa) vs kw) (DP hid d s) E s:=
 wpAny_call (Ai B hA hb K (hb _ _ O.obj) O.data O.co O.gen O.body (Z' hb O.code) O.glob O.bi O.clos O.sc.stoIn (λenv e1 e2 e3=>O.sc.env env e1 e2 e3) hbind ht hl hd hP hF λv s' h1 h2=>⟨h1,h2⟩)
noncomputable def SK(Sg:AP)(x:Str)(i:Nat):Bool:=(Sg.names[i]?).any λp=>p.1==x&&(p.2||Sg.stor.contains x)
def OF(Sg:AP)(xs:List Str)(is:List Nat):Bool:=xs.length==is.length&&(xs.zip is).all λp=>SK Sg p.1 p.2
theorem e8{x:Str}{i:Nat}(h:SK Sg x i=true):∃b,Sg.names[i]? =some (x,b)∧(b=true∨x∈Sg.stor):=
 ((Option.any_eq_true ..).mp h).elim λp q=>HF q.2 λe1 e2=>⟨p.2,q.1.trans (congrArg some (Prod.ext (eq_of_beq e1) rfl)),(Bool.or_eq_true_iff.mp e2).imp_right List.contains_iff_mem.mp⟩
theorem OG{xs:List Str}{is:List Nat}(h:OF Sg xs is=true):xs.length=is.length∧∀(j:Nat)(x:Str),xs[j]? =some x→M3 Sg is j x:=
 HF h λhl ha=>⟨eq_of_beq hl,λj x e=>
  have hj:j<is.length:=eq_of_beq hl▸(List.getElem?_eq_some_iff.mp e).1;have hi:=List.getElem?_eq_getElem hj
  (e8 (List.all_eq_true.mp ha (x,is[j]) (List.mem_of_getElem? (List.getElem?_zip_eq_some.mpr ⟨e,hi⟩)))).elim λb q=>⟨is[j],b,hi,q⟩⟩
theorem n7{A:Around}{s:Shared}{hid:Addr→Prop}{fa:Addr}{ob:Obj}{fd:FuncData}{body:List Stmt}{ws vs:List Value}{kw:List (Str×Value)}{xs:List Str}{is:List Nat}{ds:List D}{d:D}{F:PF}{E:Value→Shared→Prop}(B:B0 AA mg mb)(O:LX AA Sg fa ob fd body)(hA:B9 (n+1) A)(hb:A3 AA s.heap)(K:D7 hid s.heap)
  (ht:OF Sg xs is=true)(hl:ds.length=xs.length)(hbind:vs.length=xs.length→BindsTo s fd ⟨ws,kw⟩ (xs.zip vs))(hd:AJ (AL s.heap hid) vs ds)(hP:PS prog w AA n Sg body F)(hF:DB F (A4 (AX Sg.names.length) is ds)=some d):
  wpAny (model prog w) A (call (.ref fa) ws kw) (DP hid d s) E s:=
 have hvs:vs.length=xs.length:=hd.length.trans hl
 m6 B O hA hb K (hbind hvs) (is:=is) (ds:=ds) (λj x v e=>(OG ht).2 j x (List.getElem?_zip_eq_some.mp e).1) (by rw[List.length_zip,hvs,Nat.min_self,(OG ht).1]) (by rw[List.map_snd_zip (Nat.le_of_eq hvs)];exact hd) hP hF
theorem H0{fa:Addr}{ob:Obj}{fd:FuncData}{body:List Stmt}{xs:List Str}{is:List Nat}{F:PF}{G:DF}(B:B0 AA mg mb)(O:LX AA Sg fa ob fd body)(ht:OF Sg xs is=true)
  (hbind:∀(s:Shared)(vs:List Value),A3 AA s.heap→vs.length=xs.length→BindsTo s fd ⟨vs,[]⟩ (xs.zip vs))(hP:PS prog w AA n Sg body F)
  (hG:∀ds d,G ds=some d→ds.length=xs.length∧DB F (A4 (AX Sg.names.length) is ds)=some d):CK prog w AA (n+1) fa G:=
 λA s hid vs ds d E hA hb K hd hf=>(hG ds d hf).elim λhl hF=>n7 B O hA hb K ht hl (hbind s vs hb) hd hP hF
theorem n6{fa:Addr}{ob:Obj}{fd:FuncData}{body:List Stmt}{xs:List Str}{kn:Str}{is:List Nat}{ik:Nat}{F:PF}{G:KF}(B:B0 AA mg mb)(O:LX AA Sg fa ob fd body)(ht:OF Sg xs is=true)(hk:SK Sg kn ik=true)
  (hbind:∀(s:Shared)(vs:List Value)(u:Value),A3 AA s.heap→vs.length=xs.length→BindsTo s fd ⟨vs,[(kn,u)]⟩ (xs.zip vs++[(kn,u)]))(hP:PS prog w AA n Sg body F)
  (hG:∀ds e d,G ds e=some d→ds.length=xs.length∧DB F (A4 (AX Sg.names.length) (is++[ik]) (ds++[e]))=some d):KD prog w AA (n+1) fa kn G:=
 λA s hid vs ds u e d E hA hb K hd hu hf=>(hG ds e d hf).elim λhl hF=>n7 B O hA hb K (xs:=xs++[kn]) (is:=is++[ik]) (vs:=vs++[u]) (HF ht λa b=>Bool.and_eq_true_iff.mpr ⟨beq_iff_eq.mpr (by rw[List.length_append,List.length_append,eq_of_beq a];rfl),by rw[List.zip_append (eq_of_beq a),List.all_append,b];exact Bool.and_eq_true_iff.mpr ⟨rfl,Bool.and_eq_true_iff.mpr ⟨hk,rfl⟩⟩⟩)
  (by rw[List.length_append,List.length_append,hl];rfl) (λV=>by rw[List.zip_append (hl.symm.trans hd.length.symm)];exact hbind s vs u hb (hd.length.trans hl)) (hd.append (.cons hu .nil)) hP hF
end
theorem Ku:PlainAttrs "re.Pattern":=
 ⟨⟨"object.__getattribute__",by rw[typeLookup_type,builtinLookup_eq_fast];kernel_rfl,by decide+kernel⟩,by rw[typeLookup_type,builtinLookup_eq_fast];kernel_rfl⟩
theorem sG:Slot "re.Pattern" "search" "re.Pattern.search":=
 .of (owner:="re.Pattern") (n:="search") (by rw[typeLookup_type,builtinLookup_eq_fast];kernel_rfl) (by decide+kernel) (by decide+kernel) (by decide+kernel)
  (by first|exact .inl (by decide+kernel)|exact .inr (by decide+kernel)) (by rw[isSubtype_type];kernel_rfl)
theorem Pj:typeOf (.builtin "re.Pattern.search")=pure (.type "method_descriptor"):=by show builtinType _=_;rw[builtinType_eq_fast];kernel_rfl
theorem Cb:entryFor table "re.Pattern.search"=some Builtin.«re.Pattern.search» :=entryFor_of_tree (by kernel_rfl)
theorem xI(a b:Value):argsOk "re.Pattern.search" ⟨[a,b],[]⟩:=by
 rfl
section
variable{prog:Program}{w:World}{AA:Heap}{n:Nat}{Sg:AP}{mg mb:Str→Option Value}{K:Frag}{C:Addr}
structure OO(K:Frag)(prog:Program)(w:World)(ok:Addr→Str→Bool):Prop where
 obj:∀a x,ok a x=true→∃o,K.lookup a=some o∧o.cls=.type "re.Pattern"∧o.dict=none
 run:∀a x,ok a x=true→∀t,peek K ⟨prog,w.params⟩ (Builtin.«re.Pattern.search» ⟨[.ref a,.str x t],[]⟩)=some (.done (.ret .none))
theorem Kr(X:K.In AA){ok:Addr→Str→Bool}(hok:OO K prog w ok){o e:Expr}{apos pos:Pos}{fo fe:EF}(hb:∀env t,attributeBase o "search" env t=t)(ho:PE prog w AA n Sg o fo)(he:PE prog w AA n Sg e fe)
  (hs:∀env,starEach [e] env=(false,eval e env)::starEach [] env)(hline:(apos.endLine==pos.line)=true):
  PE prog w AA n Sg (.Call (.Attribute o "search" apos) [e] [] pos) (λρ=>(fo ρ).bind λa=>(fe ρ).bind λx=>(QW a).bind λa=>(E6 x).bind λx=>if ok a x then some .none else none):=
 λenv A s ρ d hid he' ow la E H hA S hf=>AK hf λa ha hf=>AK hf λx hx hf=>AK hf λa' ea hf=>AK hf λx' ex hf=>CV hf λhk=>by
  rw[xJ ea]at ha;rw[QY ex]at hx;refine(hok.obj a' x' hk).elim λob eo=>?_;have hp:DK [e]:=AO hs AW;refine wpAny_Call_method (hb env _) (NC hp (by simp)) hline Ku sG Pj (wp_g (ho env A s ρ _ hid he' ow la E H hA S ha) λv AB dv A6=>?_);have BS:=S.grows A6.grows;have lC:=X.keeps (BS.base.trans BS.keep);rw[dv.adr_inv];refine⟨⟨ob,lC _ _ eo.1,eo.2.1⟩,λa' q=>Value.ref.inj q▸⟨ob,lC _ _ eo.1,eo.2.2⟩,JX nofun (by rw[HX];exact hp env) (GC hp (wp_g (N6 he hs env A AB ρ [.str x'] hid he' ow la pos E H hA BS (by show(fe ρ).map _=_;rw[hx];rfl)) λvs AF dv AZ=>?_))⟩;have B4:=BS.grows AZ.grows;have lD:=X.keeps (B4.base.trans B4.keep);obtain⟨_,eu,d1⟩:=dv.one_inv;obtain⟨t,eb⟩:=d1.str_inv;rw[eu,eb];exact wpAny_call_entry sG ⟨ob,lD _ _ eo.1,eo.2.1⟩ Cb ((Looks.of_peek (M:=model prog w) lD (hok.run a' x' hk t)).here ⟨.none,rfl,.none,A6.trans AZ⟩) (xI _ _)
theorem Em{name:Str}{e:DictEntry}(h:e.key.isStr name=true):getL name [e]=some (some e.val):=by
 unfold getL;rw[List.find?_cons,h]
theorem fF{A:Around}{s:Shared}{t l dx:Addr}{e:DictEntry}{m:Nat}{Q:Value→Shared→Prop}{E:Value→Shared→Prop}{ex:Bool}(X:K.In s.heap)(c:D1 K C)(a:EC K C "_headers")(h1:s.heap.get? t=some (instObj C dx))(h2:s.heap.get? dx=some (dictOf [e] m))(h3:e.key.isStr "_headers"=true)(h4:e.val=.ref l)
  (h:Q (.ref l) {s with toks:=s.toks+1}):wpAny (model prog w) A (getAttr (.ref t) "_headers" ex) Q E s:=by
 obtain⟨attr,ha,hn⟩:=a;have hv:=Em h3;rw[h4]at hv;exact get_value X (LF h1 h2) c.ga (findObj_own c.dict ha hn hv) rfl h
inductive kM(C:Addr)(env:Env)(hid:Addr→Prop)(ow la:List Addr)(h:Heap)(i:Nat)(x:Str)(b:Bool)(p:Option Addr)(ds:List D):Prop
 |mk (l t dx:Addr) (e:DictEntry) (m:Nat) (vs:List Value) (k:Nat):la[i]? =some l→EG env h x b (.ref t)→l∈ow→l≠env.locals→(p=none∨p=some l)→AL h (AY hid ow) t (instObj C dx)→AL h (AY hid ow) dx (dictOf [e] m)→e.key.isStr "_headers"=true→e.val=.ref l→
  h.get? l=some {cls:=.type "list",data:=.seq (List.toArray vs) k}→AJ (AL h (AY hid ow)) vs ds→kM C env hid ow la h i x b p ds
theorem MQ{env:Env}{hid:Addr→Prop}{he:Heap}{ow la:List Addr}{h:Heap}{ρ:List LV}(S:AV AA Sg env hid he ow la h ρ){i:Nat}{x:Str}{b:Bool}{p:Option Addr}{ds:List D}(hn:Sg.names[i]? =some (x,b))(hv:ρ[i]? =some (.own (.hdr p C) ds)):
  kM C env hid ow la h i x b p ds:=
 (IA S hn hv).elim λl e=>M1.casesOn e.2 λv o a1 a2 a3 a4 a5=>Exists.elim a5.inv λt q=>q.elim λdx q=>q.elim λvs q=>q.elim λn q=>q.elim λm q=>q.elim λen q=>⟨l,t,dx,en,m,vs,n,e.1,q.2.1▸a1,a2,a3,q.1,q.2.2.2.1,q.2.2.2.2.1,q.2.2.2.2.2.1,q.2.2.2.2.2.2.1,q.2.2.1▸a4,q.2.2.2.2.2.2.2⟩
theorem Kx(i:Nat){x:Str}{b:Bool}{px pos:Pos}(X:K.In AA)(c:D1 K C)(a:EC K C "_headers")(hn:Sg.names[i]? =some (x,b)):
  PO prog w AA n Sg (.Attribute (.Name x px) "_headers" pos) (λρ=>GE ρ[i]? λV C' ds=>if C'=C then some (.lst ds)else none):=
 λenv A s ρ d hid he ow la E H hA S hf=>NE hf λp C' ds hv hf=>CV hf λhC=>(MQ S hn hv).casesOn λl t dx e m vs k V h1 V V V h5 h6 h7 h8 h9 h10=>
  QD (λV V=>rfl) (FG H hn h1 (fF (X.keeps (S.base.trans S.keep)) c a (hC▸h5.1) h6.1 h7 h8 ⟨.inr ⟨l,vs,ds,rfl,rfl,⟨k,h9⟩,h10⟩,Kp.toks _ _⟩))
theorem o4{h:Heap}{hid:Addr→Prop}{ow:List Addr}{l t dx:Addr}{e:DictEntry}{m k:Nat}{vs:List Value}{ds:List D}(h5:AL h (AY hid ow) t (instObj C dx))(h6:AL h (AY hid ow) dx (dictOf [e] m))(h7:e.key.isStr "_headers"=true)(h8:e.val=.ref l)(h9:h.get? l=some {cls:=.type "list",data:=.seq (List.toArray vs) k})(h10:AJ (AL h (AY hid ow)) vs ds):
  AQ (AL h (λV=>False)) (.ref t) (.obj C ["_headers"] [.lst ds]):=
 have mono:∀a o,AL h (AY hid ow) a o→AL h (λV=>False) a o:=GN λa q=>q.elim
 .obj (es:=[e]) (vs:=[e.val]) (mono _ _ h5) (mono _ _ h6) rfl ⟨h7,trivial⟩ (.cons (h8▸ .lst ⟨h9,id⟩ (h10.mono mono)) .nil)
theorem oZ{A:Around}{s:Shared}{E:Value→Shared→Prop}{name:Str}{fa t dx:Addr}{ob:Obj}{fd:FuncData}{e:DictEntry}{m:Nat}{pl:Sem Bool}{Q:Value×List Value→Shared→Prop}(X:K.In s.heap)(c:D1 K C)(mo:FC K AA C name fa ob fd)(hne:name≠"_headers")(h5:s.heap.get? t=some (instObj C dx))(h6:s.heap.get? dx=some (dictOf [e] m))(h7:e.key.isStr "_headers"=true)(hQ:Q (.ref fa,[.ref t]) s):
  wpAny (model prog w) A (getMethod (.ref t) name pl) Q E s:=
 method_fn X (LF h5 h6) c.ga c.gt mo.find mo.fn (by show(lookIn name (dictOf [e] m)).map _=_;rw[lookIn_dict,UH (es:=[e]) (ns:=["_headers"]) ⟨h7,trivial⟩ (λq=>hne (List.mem_singleton.mp q))];rfl) hQ
theorem Km(i:Nat){x name:Str}{b:Bool}{fa:Addr}{ob:Obj}{fd:FuncData}{px apos pos:Pos}{args:List Expr}{fs:List LV→Option (List D)}{g:DF}(X:K.In AA)(c:D1 K C)(mo:FC K AA C name fa ob fd)(hne:name≠"_headers")(hn:Sg.names[i]? =some (x,b))
  (hg:CK prog w AA n fa g)(hp:DK args)(hl:args.length<30)(hline:(apos.endLine==pos.line)=true)(hs:FM prog w AA n Sg args fs):
  PE prog w AA n Sg (.Call (.Attribute (.Name x px) name apos) args [] pos) (λρ=>GE ρ[i]? λV C' ds=>if C'=C then(fs ρ).bind λl=>(g (.obj C' ["_headers"] [.lst ds]::l)).bind λd=>if E9 d then some d else none else none):=
 λenv A s ρ d hid he ow la E H hA S hf=>NE hf λp C' ds hv hf=>DM hf λhC hf=>AK hf λus hus hf=>AK hf λd' hd' hf=>(MQ S hn hv).casesOn λl t dx e m vs k V h1 V V V h5 h6 h7 h8 h9 h10=>
  tM (λV V=>rfl) hp hl hline (FG H hn h1 ⟨.ref fa,[.ref t],λpl Q' hQ=>oZ (X.keeps (S.base.trans S.keep)) c mo hne (hC▸h5.1) h6.1 h7 hQ,Calls.callWith_function (o:=ob) (fd:=fd) (GC hp (wp_g (hs env A s ρ us hid he ow la pos E H hA S hus) λvs' AF du AZ=>by
   have B4:=S.grows AZ.grows;have hb:=B4.base.trans B4.keep;refine DM hf λhfl hf=>⟨⟨hb _ _ mo.obj,mo.data⟩,wp_g (hg A AF (λV=>False) (.ref t::vs') (.obj C' ["_headers"] [.lst ds]::us) d' E hA hb (λa q=>q.elim) (.cons (o4 (DJ AZ.grows _ _ h5) (DJ AZ.grows _ _ h6) h7 h8 (AZ.grows _ _ h9) (h10.mono (DJ AZ.grows))) (du.mono (GN λa q=>q.elim))) hd') λv BI q EJ=>DA hf ⟨RH hfl q,AZ.trans EJ⟩⟩))⟩)
theorem d9(i:Nat){x name kn:Str}{b:Bool}{fa:Addr}{ob:Obj}{fd:FuncData}{px apos pos kp:Pos}{a:Expr}{es:List Expr}{ke:Expr}{fk:EF}{fs:List LV→Option (List D)}{g:KF}(X:K.In AA)(c:D1 K C)(mo:FC K AA C name fa ob fd)(hne:name≠"_headers")(hn:Sg.names[i]? =some (x,b))
  (hg:KD prog w AA n fa kn g)(hp:DK (a::es))(hst:∀env,starEach (a::es) env=(false,eval a env)::starEach es env)(hform:∀env,methodCallForm ((a::es).length+1) (backTo pos (starEach (a::es) env)) (backToKw pos (keywordEach [⟨some kn,ke,kp⟩] env))=true)(hline:(apos.endLine==pos.line)=true)(hs:FM prog w AA n Sg (a::es) fs)(hk:PE prog w AA n Sg ke fk):
  PE prog w AA n Sg (.Call (.Attribute (.Name x px) name apos) (a::es) [⟨some kn,ke,kp⟩] pos) (λρ=>GE ρ[i]? λV C' ds=>if C'=C then(fs ρ).bind λl=>(fk ρ).bind λe=>(g (.obj C' ["_headers"] [.lst ds]::l) e).bind λd=>if E9 d then some d else none else none):=
 λenv A s ρ d hid he ow la E H hA S hf=>NE hf λp C' ds hv hf=>DM hf λhC hf=>AK hf λus hus hf=>AK hf λkd hkd hf=>AK hf λd' hd' hf=>(MQ S hn hv).casesOn λl t dx e m vs k V h1 V V V h5 h6 h7 h8 h9 h10=>
  fG (λV V=>rfl) (hform env) hline (FG H hn h1 ⟨.ref fa,[.ref t],λpl Q' hQ=>oZ (X.keeps (S.base.trans S.keep)) c mo hne (hC▸h5.1) h6.1 h7 hQ,callWith_function_kw (o:=ob) (fd:=fd) (RC hp (hst env) (wp_g (hs env A s ρ us hid he ow la pos E H hA S hus) λvs' AF du AZ=>wp_g (hk env A AF ρ kd hid he ow la E H hA (S.grows AZ.grows) hkd) λu BI de EJ=>by
   have kk:=AZ.trans EJ;have DG:=S.grows kk.grows;have hb:=DG.base.trans DG.keep;have mono:∀a o,AL BI.heap (AY hid ow) a o→AL BI.heap (λV=>False) a o:=GN λa q=>q.elim;refine DM hf λhfl hf=>⟨⟨hb _ _ mo.obj,mo.data⟩,wp_g (hg A BI (λV=>False) (.ref t::vs') (.obj C' ["_headers"] [.lst ds]::us) u kd d' E hA hb (λa q=>q.elim) (.cons (o4 (DJ kk.grows _ _ h5) (DJ kk.grows _ _ h6) h7 h8 (kk.grows _ _ h9) (h10.mono (DJ kk.grows))) ((du.mono (DJ EJ.grows)).mono mono)) (de.mono mono) hd') λv CS q LJ=>DA hf ⟨RH hfl q,kk.trans LJ⟩⟩))⟩)
theorem QE{α:Type}{M:Model}{A:Around}{c:Prop}[Decidable c]{a b:Sem α}{Q:α→Shared→Prop}{E:Value→Shared→Prop}{s:Shared}(h:c)(k:wpAny M A a Q E s):wpAny M A (if c then a else b) Q E s:=by rw[if_pos h];exact k
theorem K4{α:Type}{M:Model}{A:Around}{c:Prop}[Decidable c]{a b:Sem α}{Q:α→Shared→Prop}{E:Value→Shared→Prop}{s:Shared}(h:¬c)(k:wpAny M A b Q E s):wpAny M A (if c then a else b) Q E s:=by rw[if_neg h];exact k
theorem Qf{A:Around}{s:Shared}{E:Value→Shared→Prop}{l sl a:Addr}{items new:List Value}{k:Nat}{Q:Unit→Shared→Prop}(ho:s.heap.get? l=some {cls:=.type "list",data:=.seq (List.toArray items) k})(hs:s.heap.IsSliceOf sl .none .none .none)(ha:s.heap.IsList a (List.toArray new))(hne:l≠a)(h1:items.length≤100000)(h2:new.length≤100000)
  (hQ:∀h' k',h'.get? l=some {cls:=.type "list",data:=.seq (List.toArray new) k'}→(∀b o,b≠l→s.heap.get? b=some o→h'.get? b=some o)→Q () {s with heap:=h'}):
  wpAny (model prog w) A (setItem (.ref l) (.ref sl) (.ref a)) Q E s:=by
 have hl:s.heap.IsList l (List.toArray items):=⟨_,ho,rfl,k,rfl⟩;obtain⟨os,hos,hcs,hds⟩:=id hs;have hTs:s.TypeIs (.ref sl) "slice":=⟨os,hos,hcs⟩;obtain⟨oa,hoa,hca,ma,hda⟩:=id ha;have hb:sliceBounds none none none (List.toArray items).size=(0,(items.length:Int),1):=by simp[sliceBounds]
 refine wpAny_holding (wpAny_bind (wpAny_sequenceKey hl.typeIs (by decide) (wpAny_bind (wpAny_callSpecial?_slot (name:=Str.ofString "__setitem__") hl.typeIs slot_list_setitem (wpAny_call_entry slot_list_setitem hl.typeIs entry_list_setitem ?_ (args_list_setitem _ _ _))))));refine(?_:wpAny _ _ (Builtin.List.listSubscript? (.ref sl)>>=_) _ _ s);refine wpAny_bind (wpAny_bind (wpAny_specialOf hTs slice_no_index (wpAny_pure (?_:wpAny _ _ (typeOf (.ref sl)>>=_) _ _ s))));refine wpAny_bind (wpAny_typeOf hTs (K4 (by decide) ?_));rw[listSliceParts_eq];refine wpAny_bind (wpAny_bind (wpAny_field hos hds (x:=.none) rfl (wpAny_bind (wpAny_listPart .none (K4 Bool.false_ne_true (wpAny_bind (wpAny_field hos hds (x:=.none) rfl (wpAny_bind (wpAny_listPart .none (wpAny_bind (wpAny_field hos hds (x:=.none) rfl (wpAny_bind (wpAny_listPart .none (wpAny_pure ?_))))))))))))));refine K4 (by simp[Builtin.List.listSameRef,hne]) (wpAny_bind (m:=Builtin.List.listAllItems (.ref a) _) (wpAny_bind (wpAny_typeOf ⟨oa,hoa,hca⟩ (QE rfl (listItems_at hoa hda (wpAny_bind (m:=Builtin.List.listItems (.ref l)) (listItems_at ho rfl (wpAny_bind (wpAny_of_eq ((sliceIndices_raw none none none (List.toArray items).size (by simp)).trans (congrArg pure hb)) ?_)))))))));refine QE rfl (wpAny_bind (wpAny_rule (K4 (by simp[Builtin.List.listTooLong,sizeLine_eq];lia) ?_)));have pu:=PX (λxs:Array Value=>xs.extract 0 (0:Int).toNat++List.toArray new++xs.extract (max (0:Int) (items.length:Int)).toNat) ⟨k,ho⟩;have hf:(List.toArray items).extract 0 (0:Int).toNat++List.toArray new++(List.toArray items).extract (max (0:Int) (items.length:Int)).toNat=List.toArray new:=by
  rw[show max (0:Int) (items.length:Int)=(items.length:Int)by lia];simp
 refine wpAny_bind (listUpdate_at ho rfl (wpAny_bind (wpAny_letGo (wpAny_bind (wpAny_pure (wpAny_pure ⟨.none,rfl,wpAny_pure ?_⟩))))) (by rw[List.size_toArray,sizeLine_eq];lia) (by rw[hf,List.size_toArray,sizeLine_eq];lia));exact pu.1.elim λk' p1=>hQ _ k' (p1.trans (congrArg (λz=>some ({cls:=.type "list",data:=.seq z k'}:Obj)) hf)) pu.2
theorem o5{env:Env}{s AB:Shared}{hid:Addr→Prop}{he:Heap}{ow la:List Addr}{ρ:List LV}(S:AV AA Sg env hid he ow la AB.heap ρ)(A6:Kp s AB){i:Nat}{x:Str}{b:Bool}(hn:Sg.names[i]? =some (x,b)){p:Option Addr}{ds es:List D}(hv:ρ[i]? =some (.own (.hdr p C) ds)){l:Addr}(h0:la[i]? =some l)(h2:l∈ow){h':Heap}{tk k:Nat}{us:List Value}
  (q1:h'.get? l=some {cls:=.type "list",data:=.seq (List.toArray us) k})(q3:∀b o,b≠l→AB.heap.get? b=some o→h'.get? b=some o)(hd:AJ (AL h' (AY hid ow)) us es):FN AA Sg env hid he ow s (ρ.set i (.own (.hdr p C) es)) .next .next {AB with heap:=h',toks:=tk}:=
 ⟨ow,la,S.ownUpd hn hv h0 q3 q1 (λu o e q=>Exists.elim q.inv λt q=>q.elim λdx q=>q.elim λV q=>q.elim λV q=>q.elim λm q=>q.elim λen q=>q.2.1▸ .hdr q.1 (GP (.inr h2) q3 _ _ q.2.2.2.1) (GP (.inr h2) q3 _ _ q.2.2.2.2.1) q.2.2.2.2.2.1 q.2.2.2.2.2.2.1 hd),trivial,(Mv.of_kp A6).trans ⟨⟨h',tk,rfl⟩,λb o nb e=>q3 b o (λq=>nb (q▸h2)) e,λb hb=>.inl hb⟩⟩
theorem Qs(i:Nat){x:Str}{b:Bool}{px ap sp pos' pos:Pos}{value:Expr}{f:EF}(X:K.In AA)(c:D1 K C)(a:EC K C "_headers")(hn:Sg.names[i]? =some (x,b))(h:PE prog w AA n Sg value f)
  (hs:∀env,swapsWith value (some (.Subscript (.Attribute (.Name x px) "_headers" ap) (.Slice none none none sp) pos')) pos.line env=pure false):
  XS prog w AA n Sg (.Assign [.Subscript (.Attribute (.Name x px) "_headers" ap) (.Slice none none none sp) pos'] value pos) (λρ=>(f ρ).bind λd=>GE ρ[i]? λp C' ds=>(CX d).bind λes=>if C'=C∧ds.length≤100000∧es.length≤100000 then some (.next,ρ.set i (.own (.hdr p C') es))else none):=
 λenv A s ρ ρ' out hid he ow la E H hA S hf=>AK hf λd hd hf=>NE hf λp C' ds hv hf=>AK hf λes ee hf=>DM hf λhC hf=>wpAny_Assign_Subscript (wp_g (h env A s ρ _ hid he ow la E H hA S (L3 ee▸hd)) λv AB dv A6=>by
  have BS:=S.grows A6.grows;refine(MQ BS hn hv).casesOn λl t dx e m vs k h0 h1 h2 V V h5 h6 h7 h8 h9 h10=>QD (λV V=>rfl) (FG H hn h1 (fF (X.keeps (BS.base.trans BS.keep)) c a (hC.1▸h5.1) h6.1 h7 h8 (wpAny_Slice ?_)));rw[evalPart_none];refine Exists.elim dv.inv λa0 q=>q.elim λus q=>q.elim λnn q=>wpAny_pure (wpAny_pure (wpAny_pure ?_));have gg:=A3.push AB.heap {cls:=.type "slice",data:=.fields #[.none,.none,.none]};rw[q.1];refine Qf (s:={AB with heap:=AB.heap.push {cls:=.type "slice",data:=.fields #[.none,.none,.none]},toks:=AB.toks+1}) (gg _ _ h9) (Heap.IsSliceOf.new ..) ⟨_,gg _ _ q.2.1.1,rfl,nn,rfl⟩ (λz=>q.2.1.2 (z▸ .inr h2)) (h10.length▸hC.2.1) (q.2.2.length▸hC.2.2) λh' k' q1 q2=>LR hf ?_;exact o5 BS A6 hn hv h0 h2 q1 (λb o nb e=>q2 b o nb (gg _ _ e)) (q.2.2.mono (GP (.inr h2) λb o nb e=>q2 b o nb (gg _ _ e)))) (hs env)
theorem Qp(i:Nat){x:Str}{b:Bool}{px ap apos pos spos:Pos}{e:Expr}{f:EF}(X:K.In AA)(c:D1 K C)(a:EC K C "_headers")(hn:Sg.names[i]? =some (x,b))(h:PE prog w AA n Sg e f)
  (hst:∀env,starEach [e] env=(false,eval e env)::starEach [] env)(hline:(apos.endLine==pos.line)=true)(hi:∀env:Env,env.scope.kind=.function→interactive env=false):
  XS prog w AA n Sg (.Expr (.Call (.Attribute (.Attribute (.Name x px) "_headers" ap) "append" apos) [e] [] pos) spos) (λρ=>GE ρ[i]? λp C' ds=>if C'=C then(f ρ).bind λd=>(HY ds [d]).map λds'=>(.next,ρ.set i (.own (.hdr p C') ds'))else none):=
 λenv A s ρ ρ' out hid he ow la E H hA S hf=>NE hf λp C' ds hv hf=>DM hf λhC hf=>AK hf λd hd hf=>(MQ S hn hv).casesOn λl t dx en m vs k h0 h1 h2 V V h5 h6 h7 h8 h9 h10=>by
  have hp:DK [e]:=AO hst AW;have LH:Kp s {s with toks:=s.toks+1}:=Kp.toks _ _;have k5:AV AA Sg env hid he ow la ({s with toks:=s.toks+1}:Shared).heap ρ:=S.grows LH.grows;refine wpAny_Expr (wpAny_Call_method rfl (NC hp (by simp)) hline PySem.F.plainAttrs_list PySem.F.slot_list_append PySem.F.type_list_append (QD (λV V=>rfl) (FG H hn h1 (fF (X.keeps (S.base.trans S.keep)) c a (hC▸h5.1) h6.1 h7 h8 ⟨⟨_,h9,rfl⟩,λa' q=>Value.ref.inj q▸⟨_,h9,rfl⟩,
   JX nofun (by rw[HX];exact hp env) (GC hp (wp_g (N6 h hst env A _ ρ [d] hid he ow la pos E H hA k5 (by show(f ρ).map _=_;rw[hd];rfl)) λus AB du A6=>?_))⟩)))) (hi env H.kind) rfl
  have kk:=LH.trans A6;refine KT hf λds' hds'=>BD (NU A AB (AY hid ow) l vs us ds [d] ds' E hA (.inr h2) ⟨k,A6.grows _ _ h9⟩ (h10.mono (DJ kk.grows)) du hds') λv AF x=>?_;obtain⟨ev,vs',h',tk,es2,AZ,hp',hd'⟩:=x;subst ev es2;exact hp'.elim λk' e'=>o5 (k5.grows A6.grows) kk hn hv h0 h2 e' AZ hd'
def JS(prog:Program)(w:World)(AA:Heap)(n:Nat)(fa:Addr)(kn:List Str)(Kd:Addr→BE)(g:GF):Prop:=
 ∀(A:Around)(s:Shared)(he:Heap)(hid:Addr→Prop)(l:Addr)(ol:Obj)(v0:Value)(vs kvs:List Value)(own own' ds kds:List D)(E:Value→Shared→Prop),B9 n A→A3 AA he→A3 he s.heap→D7 hid s.heap→he.get? l=none→¬hid l→s.heap.get? l=some ol→
  DC (AL s.heap (AY hid [l])) (Kd l) v0 l ol own→AJ (AL s.heap (AY hid [l])) vs ds→AJ (AL s.heap (AY hid [l])) kvs kds→kvs.length=kn.length→g own ds kds=some own'→
  wpAny (model prog w) A (call (.ref fa) (v0::vs) (kn.zip kvs)) (λv s'=>v=.none∧∃h' tk,s'={s with heap:=h',toks:=tk}∧(∃u o,h'.get? l=some o∧DC (AL h' (AY hid [l])) (Kd l) u l o own')∧∀b x,b≠l→s.heap.get? b=some x→h'.get? b=some x) E s
theorem dA{fa:Addr}{ob:Obj}{fd:FuncData}{body:List Stmt}{kn:List Str}{Kd:Addr→BE}{x0:Str}{xs:List Str}{i0:Nat}{is:List Nat}{us:List Value→List Value→List Value}{uds:List D→List D→List D}{F:PF}{g:GF}(B:B0 AA mg mb)(O:LX AA Sg fa ob fd body)
  (ht0:SK Sg x0 i0=true)(ht:OF Sg xs is=true)(m k:Nat)
  (hbind:∀(s:Shared)(v0:Value)(vs kvs:List Value),A3 AA s.heap→vs.length=m→kvs.length=kn.length→BindsTo s fd ⟨v0::vs,kn.zip kvs⟩ ((x0,v0)::xs.zip (us vs kvs))∧(us vs kvs).length=xs.length)
  (hu:∀(g:Gm) vs ds kvs kds,AJ g vs ds→AJ g kvs kds→vs.length=m→kvs.length=kn.length→AJ g (us vs kvs) (uds ds kds))
  (hP:PS prog w AA n Sg body F)(hpin:∀l,N7 (Kd l)=some l)
  (hG:∀own ds kds own',g own ds kds=some own'→ds.length=m∧∀l,∃ρ',F (A4 ((AX Sg.names.length).set i0 (.own (Kd l) own)) is (uds ds kds))=some (.next,ρ')∧ρ'[i0]? =some (.own (Kd l) own')):
  JS prog w AA (n+1) fa kn Kd g:=
 λA s he hid l ol v0 vs kvs own own' ds kds E hA hb hg K hl0 hlh hol hown hd hkd hkl hf=>(hG own ds kds own' hf).elim λhlen hF=>(hF l).elim λρ' hF=>(e8 ht0).elim λb0 t0=>
  have hvs:vs.length=m:=hd.length.trans hlen;have hgr:=hb.trans hg;have hbi:=hbind s v0 vs kvs hgr hvs hkl
  wpAny_call (mB (rest:=xs.zip (us vs kvs)) (is:=is) (ds:=uds ds kds) B hA hb hg K (hgr _ _ O.obj) O.data O.co O.gen O.body (Z' hgr O.code) O.glob O.bi O.clos O.sc hbi.1 t0.1 t0.2 (λj x v e=>(OG ht).2 j x (List.getElem?_zip_eq_some.mp e).1) (by rw[List.length_zip,hbi.2,Nat.min_self,(OG ht).1]) hl0 hlh hol hown (by rw[List.map_snd_zip (Nat.le_of_eq hbi.2)];exact hu _ _ _ _ _ hd hkd hvs hkl) hP hF.1 hF.2 (hpin l) λh' tk q1 q2=>⟨rfl,h',tk,rfl,q1,q2⟩)
theorem Jx{M:Model}{A:Around}{E:Value→Shared→Prop}{s:Shared}{x f:Addr}{ox:Obj}{od:Option Obj}{i v:Value}{Q:Unit→Shared→Prop}(X:K.In s.heap)(I:InstAt s.heap x ox C od)(hq:noSeq K C=true)(hs:findIn K (.ref C) "__setitem__"=some (some (.ref f)))(hf:typeIn K (.ref f)=some (.type "function"))
  (h:wpAny M A (call (.ref f) [.ref x,i,v]) (λV s'=>Q () s') E s):wpAny M A (setItem (.ref x) i v) Q E s:=by
 unfold setItem sequenceKey;exact wpAny_holding (wpAny_bind (wpAny_bind (I.type.here (wpAny_bind ((anyM_none X hq).here (QE rfl (wpAny_pure (wpAny_bind (special_fn X I hs hf (BD h λV V z=>wpAny_pure z))))))))))
theorem Jw{M:Model}{A:Around}{E:Value→Shared→Prop}{s:Shared}{x f:Addr}{ox:Obj}{od:Option Obj}{i:Value}{Q:Unit→Shared→Prop}(X:K.In s.heap)(I:InstAt s.heap x ox C od)(hq:noSeq K C=true)(hs:findIn K (.ref C) "__delitem__"=some (some (.ref f)))(hf:typeIn K (.ref f)=some (.type "function"))
  (h:wpAny M A (call (.ref f) [.ref x,i]) (λV s'=>Q () s') E s):wpAny M A (delItem (.ref x) i) Q E s:=by
 unfold delItem sequenceKey;exact wpAny_holding (wpAny_bind (wpAny_bind (I.type.here (wpAny_bind ((anyM_none X hq).here (QE rfl (wpAny_pure (wpAny_bind (special_fn X I hs hf (BD h λV V z=>wpAny_pure z))))))))))
def UK(hid:Addr→Prop)(ow:List Addr)(l:Addr):Addr→Prop:= λa=>AY hid ow a∧a≠l
theorem o7{hid:Addr→Prop}{ow:List Addr}{l:Addr}(hl:l∈ow)(a:Addr):AY (UK hid ow l) [l] a↔AY hid ow a:=
 ⟨λq=>q.elim And.left λq=>.inr (List.mem_singleton.mp q▸hl),λq=>if e:a=l then .inr (List.mem_singleton.mpr e)else .inl ⟨q,e⟩⟩
theorem VP{h:Heap}{hid:Addr→Prop}{ow:List Addr}{l:Addr}(hl:l∈ow):∀a o,AL h (AY hid ow) a o→AL h (AY (UK hid ow l) [l]) a o:=GN λa q=>(o7 hl a).mp q
theorem Pm{h:Heap}{hid:Addr→Prop}{ow:List Addr}{l:Addr}(hl:l∈ow):∀a o,AL h (AY (UK hid ow l) [l]) a o→AL h (AY hid ow) a o:=GN λa q=>(o7 hl a).mpr q
theorem EG.uniq{env:Env}{h:Heap}{x:Str}{b:Bool}{v u:Value}(p:EG env h x b v)(q:EG env h x b u):v=u:=by
 cases b with
 |true=>exact p.elim λm p=>q.elim λm' q=>Option.some.inj (p.2.symm.trans ((congrFun (dR p.1 q.1) x).trans q.2))
 |false=>
  refine p.elim λc p=>q.elim λc' q=>p.2.elim λo r=>q.2.elim λo' t=>?_;have e:=Option.some.inj (p.1.symm.trans q.1);have e2:=Option.some.inj (r.1.symm.trans (e▸t.1));have e3:=r.2.symm.trans (e2▸t.2);exact Option.some.inj (Data.cell.inj e3)
theorem tL{env:Env}{A:Around}{s:Shared}{hid:Addr→Prop}{he:Heap}{ow la:List Addr}{ρ:List LV}{E:Value→Shared→Prop}{Q:Value→Shared→Prop}{fa:Addr}{g:GF}(S:AV AA Sg env hid he ow la s.heap ρ){i:Nat}{x:Str}{b:Bool}{p:Option Addr}{ds ds' es:List D}{us:List Value}(hn:Sg.names[i]? =some (x,b))(hv:ρ[i]? =some (.own (.hdr p C) ds))
  (hA:B9 n A)(hg:JS prog w AA n fa [] (λl=>.hdr (some l) C) g){t:Addr}(ht:EG env s.heap x b (.ref t))(hu:AJ (AL s.heap (AY hid ow)) us es)(hgf:g ds es []=some ds')
  (hQ:∀s',AV AA Sg env hid he ow la s'.heap (ρ.set i (.own (.hdr p C) ds'))→Mv ow ow s s'→Q .none s'):
  wpAny (model prog w) A (call (.ref fa) (.ref t::us)) Q E s:=by
 refine(MQ S hn hv).casesOn λl t' dx en m vs k h0 h1 h2 V h4 h5 h6 h7 h8 h9 h10=>?_;rw[Value.ref.inj (ht.uniq h1)];refine BD (hg A s he (UK hid ow l) l _ (.ref t') us [] ds ds' es [] E hA S.base S.keep (λa q=>S.hidOK a q.1) (S.owr l h2).1 (λq=>q.2 rfl) h9 (.hdr (.inr rfl) (VP h2 _ _ h5) (VP h2 _ _ h6) h7 h8 (h10.mono (VP h2))) (hu.mono (VP h2)) .nil rfl hgf) λv s' x=>x.2.elim λh' x=>x.elim λtk x=>x.2.1.elim λu y=>y.elim λo y=>?_;have q3:=x.2.2;rw[‹v=.none∧_›.1];refine Exists.elim y.2.inv λt2 q=>q.elim λdx2 q=>q.elim λus2 q=>q.elim λk2 q=>q.elim λm2 q=>q.elim λen2 q=>hQ s' ?_ ⟨⟨h',tk,x.1⟩,?_,λb hb=>.inl hb⟩
 ·rw[x.1];exact S.ownUpd hn hv h0 q3 (q.2.2.1▸y.1) λv o' e z=>Exists.elim z.inv λV z=>z.elim λV z=>z.elim λV z=>z.elim λV z=>z.elim λV z=>z.elim λV z=>z.2.1▸ .hdr z.1 (GP (.inr h2) q3 _ _ z.2.2.2.1) (GP (.inr h2) q3 _ _ z.2.2.2.2.1) z.2.2.2.2.2.1 z.2.2.2.2.2.2.1 (q.2.2.2.2.2.2.2.mono (Pm h2))
 ·rw[x.1];exact λb o nb e=>q3 b o (λq=>nb (q▸h2)) e
theorem Qr(i:Nat){x:Str}{b:Bool}{px pos' pos:Pos}{ix value:Expr}{fi fv:EF}{fa:Addr}{g:GF}(X:K.In AA)(hq:noSeq K C=true)(hm:findIn K (.ref C) "__setitem__"=some (some (.ref fa)))(hfn:typeIn K (.ref fa)=some (.type "function"))(hg:JS prog w AA n fa [] (λl=>.hdr (some l) C) g)(hn:Sg.names[i]? =some (x,b))(hi:PE prog w AA n Sg ix fi)(hv:PE prog w AA n Sg value fv)
  (hs:∀env,swapsWith value (some (.Subscript (.Name x px) ix pos')) pos.line env=pure false):
  XS prog w AA n Sg (.Assign [.Subscript (.Name x px) ix pos'] value pos) (λρ=>(fv ρ).bind λd=>(fi ρ).bind λk=>GE ρ[i]? λp C' ds=>if C'=C then(g ds [k,d] []).map λds'=>(.next,ρ.set i (.own (.hdr p C') ds'))else none):=
 λenv A s ρ ρ' out hid he ow la E H hA S hf=>AK hf λd hd hf=>AK hf λk hk hf=>NE hf λp C' ds hρ hf=>DM hf λhC hf=>KT hf λds' hds'=>wpAny_Assign_Subscript (wp_g (hv env A s ρ d hid he ow la E H hA S hd) λv AB dv A6=>
  have BS:=S.grows A6.grows;have hρ:ρ[i]? =some (.own (.hdr p C) ds):=hC▸hρ
  (MQ BS hn hρ).casesOn λl t dx en m vs kk h0 h1 h2 V V h5 h6 h7 h8 h9 h10=>FG H hn h1 (wp_g (hi env A AB ρ _ hid he ow la E H hA BS hk) λiv AF di AZ=>
   have B4:=BS.grows AZ.grows
   Jx (X.keeps (B4.base.trans B4.keep)) (LF (AZ.grows _ _ h5.1) (AZ.grows _ _ h6.1)) hq hm hfn (tL B4 hn hρ hA hg (h1.grows AZ.grows) (.cons di (.cons (dv.mono (DJ AZ.grows)) .nil)) hds' λs' S' m'=>⟨ow,la,hC▸S',trivial,(Mv.of_kp (A6.trans AZ)).trans m'⟩))) (hs env)
theorem Qq(i:Nat){x:Str}{b:Bool}{px pos' pos:Pos}{ix:Expr}{fi:EF}{fa:Addr}{g:GF}(X:K.In AA)(hq:noSeq K C=true)(hm:findIn K (.ref C) "__delitem__"=some (some (.ref fa)))(hfn:typeIn K (.ref fa)=some (.type "function"))(hg:JS prog w AA n fa [] (λl=>.hdr (some l) C) g)(hn:Sg.names[i]? =some (x,b))(hi:PE prog w AA n Sg ix fi):
  XS prog w AA n Sg (.Delete [.Subscript (.Name x px) ix pos'] pos) (λρ=>(fi ρ).bind λk=>GE ρ[i]? λp C' ds=>if C'=C then(g ds [k] []).map λds'=>(.next,ρ.set i (.own (.hdr p C') ds'))else none):=
 λenv A s ρ ρ' out hid he ow la E H hA S hf=>AK hf λk hk hf=>NE hf λp C' ds hρ hf=>DM hf λhC hf=>KT hf λds' hds'=>by
  have hρ:ρ[i]? =some (.own (.hdr p C) ds):=hC▸hρ;refine(MQ S hn hρ).casesOn λl t dx en m vs kk h0 h1 h2 V V h5 h6 h7 h8 h9 h10=>wpAny_Delete (wpAny_deleteEach_cons ?_);rw[arm_delete_Subscript];refine wpAny_bind (FG H hn h1 (wpAny_bind (wpAny_holding (wp_g (hi env A s ρ _ hid he ow la E H hA S hk) λiv AF di AZ=>?_))));have B4:=S.grows AZ.grows;exact wpAny_bind (wpAny_standAt (wpAny_bind (wpAny_holding (Jw (X.keeps (B4.base.trans B4.keep)) (LF (AZ.grows _ _ h5.1) (AZ.grows _ _ h6.1)) hq hm hfn (tL B4 hn hρ hA hg (h1.grows AZ.grows) (.cons di .nil) hds' λs' S' m'=>wpAny_release (wpAny_deleteEach_nil ⟨ow,la,hC▸S',trivial,(Mv.of_kp AZ).trans m'⟩))))))
theorem qO{fa:Addr}{ob:Obj}{fd:FuncData}{body:List Stmt}{x0:Str}{xs:List Str}{i0:Nat}{is:List Nat}{us:List Value→List Value}{uds:List D→List D}{F:PF}{G:DF}(B:B0 AA mg mb)(X:K.In AA)(hm:makesIn K C=true)(mo:FC K AA C "__init__" fa ob fd)(O:LX AA Sg fa ob fd body)
  (ht0:SK Sg x0 i0=true)(ht:OF Sg xs is=true)(m:Nat)
  (hbind:∀(s:Shared)(v0:Value)(vs:List Value),A3 AA s.heap→vs.length=m→BindsTo s fd ⟨v0::vs,[]⟩ ((x0,v0)::xs.zip (us vs))∧(us vs).length=xs.length)
  (hu:∀(g:Gm) vs ds,AJ g vs ds→vs.length=m→AJ g (us vs) (uds ds))(hP:PS prog w AA n Sg body F)
  (hG:∀ds d,G ds=some d→ds.length=m∧∃ns own',d=.obj C ns own'∧∀l:Addr,∃ρ',F (A4 ((AX Sg.names.length).set i0 (.own (.ins (some l) C []) [])) is (uds ds))=some (.next,ρ')∧ρ'[i0]? =some (.own (.ins (some l) C ns) own')):
  CK prog w AA (n+2) C G:=
 λA s hid vs ds d E hA hb Kh hd hf=>(hG ds d hf).elim λhlen q=>q.elim λns q=>q.elim λown' q=>(Classical.axiomOfChoice q.2).elim λρ' hF=>(e8 ht0).elim λb0 t0=>
  have hvs:vs.length=m:=hd.length.trans hlen
  q.1▸Qe (us:=us vs) (ds:=uds ds) (ρ':=ρ') (is:=is) (xs:=xs) B X hA hb Kh hm mo O.co O.gen O.body O.code O.glob O.bi O.clos O.sc (λs v hg=>(hbind s v vs hg hvs).1) (hbind s .none vs hb hvs).2.symm t0.1 t0.2 (OG ht).2 (OG ht).1 (hu _ _ _ hd hvs) hP hF
theorem Ca{es:List DictEntry}{x:Str}(h:G3 es [x]):∃en,es=[en]∧en.key.isStr x=true:=by
 cases es with
 |nil=>exact h.elim
 |cons en r=>cases r with
  |nil=>exact⟨en,rfl,h.1⟩
  |cons=>exact h.2.elim
theorem RU{h:Heap}{a b:Addr}{o o':Obj}(e:h.get? a=some o)(f:h.get? b=some o')(n:o≠o'):a≠b:= λq=>n (Option.some.inj ((q▸e).symm.trans f))
theorem Qv(B:B0 AA mg mb)(i gi:Nat){x hx:Str}{b:Bool}{p p2 pos pos2:Pos}{g:DF}(X:K.In AA)(hk:keepIn K (.ref C)=true)(hn:Sg.names[i]? =some (x,b))(hst:b=true∨x∈Sg.stor)(hgn:Sg.globs[gi]? =some hx)(hv:mg hx=some (.ref C))
  (hg:CK prog w AA n C g)(hg0:g []=some (.obj C ["_headers"] [.lst []]))
  (hs:∀env,CN Sg env→swapsWith (.Call (.Name hx p2) [] [] pos2) (some (.Name x p)) pos.line env=pure false):
  XS prog w AA n Sg (.Assign [.Name x p] (.Call (.Name hx p2) [] [] pos2) pos) (λρ=>some (.next,ρ.set i (.own (.hdr none C) []))):=
 λenv A s ρ ρ' out hid he ow la E H hA S hf=>LR hf (wpAny_Assign_Name (by
  refine(?_:wpAny (model prog w) A (do callWith pos2 (←eval (.Name hx p2) env) [] (backTo pos2 (starEach [] env)) (backToKw pos2 (keywordEach [] env))) _ E s);refine wpAny_bind (IE B H hgn (.inl hv) (S.base.trans S.keep) (callWith_of (P:= λh=>K.In h) (by rfl) (keeps_K hk) (GC AW (wp_g (A5 (prog:=prog) (w:=w) (n:=n) env A s ρ [] hid he ow la pos2 E H hA S rfl) λvs AB dv A6=>?_))));have BS:=S.grows A6.grows;have hb:=BS.base.trans BS.keep;rw[dv.nil_inv];refine⟨X.keeps hb,wp_g (hg A AB (λa=>∃o,AB.heap.get? a=some o) [] [] _ E hA hb (λa q=>q) .nil hg0) λv AF q AZ=>Exists.elim q.inv λt q=>q.elim λdx q=>q.elim λm q=>q.elim λes q=>(Ca q.2.2.2.1).elim λen g4=>?_⟩;have g5:=q.2.2.2.2;have g2:=q.2.2.1;rw[g4.1]at g5 g2;rw[q.1];refine g5.cons_inv.elim λv' z=>z.elim λV z=>Exists.elim z.2.1.inv λl y=>y.elim λus y=>y.elim λk y=>?_;have hev:en.val=.ref l:=(List.cons.inj z.1).1.trans y.1;have q1:=y.2.1;rw[y.2.2.nil_inv]at q1;have fresh:∀{a:Addr},(¬∃o,AB.heap.get? a=some o)→AB.heap.get? a=none:= λ{a} q=>Option.eq_none_iff_forall_ne_some.mpr λo e=>q ⟨o,e⟩;have nl:AB.heap.get? l=none:=fresh q1.2;have vz:∀{a:Addr}{o:Obj},AL AF.heap (λa=>∃o,AB.heap.get? a=some o) a o→a≠l→AL AF.heap (AY hid (l::ow)) a o:= λ{a o} e e2=>⟨e.1,λq=>q.elim (λq=>BS.fresh (fresh e.2) (.inl q)) λq=>(List.mem_cons.mp q).elim e2 λq=>BS.fresh (fresh e.2) (.inr q)⟩;exact SQ H (BS.adopt AZ.grows nl ⟨_,q1.1⟩) hn hst (.head _) (BS.nloc nl) q1.1 (.hdr (.inl rfl) (vz q.2.1 (RU q.2.1.1 q1.1 λz=>nomatch (congrArg Obj.cls z:Value.ref C=.type "list"))) (vz g2 (RU g2.1 q1.1 λz=>nomatch (congrArg Obj.data z:_=Data.seq _ _))) g4.2 hev .nil) (λj V es V he=>BS.now nl he) λBI m V V E4=>⟨l::ow,_,E4,trivial,(Mv.of_kp A6).trans ((Mv.new AZ nl).trans m)⟩) (hs env H))
theorem xC{pos pos':Pos}{c c':Value}(l:List Value)(ht:TriplesOk l)(h:codeAmong pos' (l++[rawInt pos.line,rawInt pos.col,c])=some c'):codeAmong pos' l=some c'∨c'=c:=by
 fun_induction TriplesOk l with
 |case1=>exact .inr (DM (show(if _ then some c else none)=some c' from h) λV e=>(Option.some.inj e).symm)
 |case2 a t b u x r ih=>
  have h:(if(a==pos'.line&&b==pos'.col)=true then some x else codeAmong pos' (r++_))=some c':=h;refine(?_:(if(a==pos'.line&&b==pos'.col)=true then some x else codeAmong pos' r)=some c'∨_);by_cases q:(a==pos'.line&&b==pos'.col)=true
  ·rw[if_pos q]at h⊢;exact .inl h
  ·rw[if_neg q]at h⊢;exact ih ht h
 |case3=>exact ht.elim
noncomputable abbrev LK(params:Arguments)(body:Expr)(scope:Scope)(pm:Value):FuncData:=kla_fn "<lambda>" "" params body scope [] pm .none .none
def Fo(h:Heap)(a:Addr):Prop:=∃vs n,h.get? a=some {cls:=.type "list",data:=.seq (List.toArray vs) n}
inductive k9(env:Env)(hid:Addr→Prop)(ow la:List Addr)(h:Heap)(i:Nat)(x:Str)(b:Bool)(p:Option Addr)(c:Addr)(q:Str)(ds:List D):Prop
 |mk (P:Addr) (v:Value) (ps:Array Value) (d:D):ds=[d]→la[i]? =some P→EG env h x b v→P∈ow→P≠env.locals→(p=none∨p=some P)→h.get? P=some (tabObj ps)→CodeHd h c P→TriplesOk ps.toList→(∀pos c',codeAmong pos ps.toList=some c'→∀h':Heap,(∀b x,AL h (AY hid ow) b x→h'.get? b=some x)→h'.CodeRec c' q)→AQ (AL h (AY hid ow)) v d→k9 env hid ow la h i x b p c q ds
theorem sX{env:Env}{hid:Addr→Prop}{he:Heap}{ow la:List Addr}{h:Heap}{ρ:List LV}(S:AV AA Sg env hid he ow la h ρ){i:Nat}{x:Str}{b:Bool}{p:Option Addr}{c:Addr}{q:Str}{ds:List D}(hn:Sg.names[i]? =some (x,b))(hv:ρ[i]? =some (.own (.tab p c q) ds)):
  k9 env hid ow la h i x b p c q ds:=
 (IA S hn hv).elim λl e=>M1.casesOn e.2 λv o a1 a2 a3 a4 a5=>Exists.elim a5.inv λps z=>z.elim λd z=>⟨l,v,ps,d,z.2.1,e.1,a1,a2,a3,z.1,z.2.2.1▸a4,z.2.2.2.1 _ SO,z.2.2.2.2.1,z.2.2.2.2.2.1,z.2.2.2.2.2.2⟩
theorem Mz{α:Type}{l:List α}{i:Nat}{a:α}(h:l[i]? =some a):l.set i a=l:=List.ext_getElem? λm=>by
 by_cases e:i=m
 ·rw[←e,List.getElem?_set_self (List.getElem?_eq_some_iff.mp h).1,h]
 ·rw[List.getElem?_set_ne e]
theorem tK{env:Env}{A:Around}{s:Shared}{hid:Addr→Prop}{he:Heap}{ow la:List Addr}{ρ:List LV}{E:Value→Shared→Prop}{Q:Value→Shared→Prop}(B:B0 AA mg mb)(BA:∀(h:Heap) P,A3 AA h→AA.get? P=none→h.BuiltinsAt mg P)(H:CN Sg env)(S:AV AA Sg env hid he ow la s.heap ρ){i j:Nat}{x y:Str}{b:Bool}{p:Option Addr}{c:Addr}{q:Str}{ds:List D}{dy:D}(hn:Sg.names[i]? =some (x,b))(hv:ρ[i]? =some (.own (.tab p c (q++"<lambda>")) ds))(hc:Sg.code=some (c,q))(hy:Sg.names[j]? =some (y,false))(hvy:ρ[j]? =some (.d dy))
  {params:Arguments}{body:Expr}{scope:Scope}{pos:Pos}(hdef:∀env,defaultsOf params env=([],[]))(hcl:∀(env:Env)(a:Addr),env.cells.lookup y=some a→closureFor scope env=pure [(y,a)])
  (h:∀f s',AV AA Sg env hid he ow la s'.heap ρ→Mv ow ow s s'→(∀b o,AY hid ow b→(∃l vs n,o={cls:=.type "list",data:=.seq (List.toArray vs) n}∧b=(l:Addr))→s.heap.get? b=some o→s'.heap.get? b=some o)→s.heap.get? f=none→(∃o fd,s'.heap.get? f=some o∧o.data=.func fd)→(∀hz:Addr→Prop,(∀a,hz a→(Fo s'.heap a∨a=env.locals)∧AY hid ow a)→AQ (AL s'.heap hz) (.ref f) (.clo (LK params body scope ((mg "__name__").getD .none)) [y] [dy]))→Q (.ref f) s'):
  wpAny (model prog w) A (eval (.Lambda params body scope pos) env) Q E s:=by
 refine(sX S hn hv).casesOn λP v ps d eds hP hx hPo hPl hp hget hhd htr hrec hden=>(IA S hy hvy).elim λly t=>t.2.elim λvy t=>t.1.elim λcy t1=>t1.2.elim λocy hoc=>kla_eval (hdef env) ?_;have ec:=H.cod c q hc;have hdy:=t.2;have hb:=S.base.trans S.keep;have nH:AA.get? P=none:=FE S.base (S.owr P hPo).1;have hgP:mainGlobals≠P:= λq=>B.ng.elim λo e=>e.elim λV e=>e.elim λV e=>BO nH (q▸e.1);rw[ec.2];have hcyP:cy≠P:=RU hoc.1 hget λz=>nomatch ((congrArg Obj.data z).symm.trans hoc.2:(tabObj ps).data=Data.cell (some vy));have hPh:AY hid ow P:=.inr hPo;have fin:∀(c' ctv:Value)(h1:Heap)(tk:Tok)(ps':Array Value),(∀b o,b≠P→s.heap.get? b=some o→h1.get? b=some o)→s.heap.objs.size≤h1.objs.size→h1.get? P=some (tabObj ps')→TriplesOk ps'.toList→
   (∀pos c',codeAmong pos ps'.toList=some c'→∀h':Heap,(∀b x,AL h1 (AY hid ow) b x→h'.get? b=some x)→h'.CodeRec c' (q++"<lambda>"))→h1.CodeRec c' (q++"<lambda>")→
   Q (.ref h1.objs.size) {s with heap:=h1.push {cls:=.type "function",data:=.func (kla_fn "<lambda>" (q++"<lambda>") params body scope [(y,cy)] ((mg "__name__").getD .none) c' ctv)},toks:=tk}:=by
  intro c' ctv h1 tk ps' hx1 hsz hP1 htr1 hrec1 hcr;have gf:=Heap.get?_push_size h1 (o:={cls:=.type "function",data:=.func (kla_fn "<lambda>" (q++"<lambda>") params body scope [(y,cy)] ((mg "__name__").getD .none) c' ctv)}) rfl;have gp:=A3.push h1 {cls:=.type "function",data:=.func (kla_fn "<lambda>" (q++"<lambda>") params body scope [(y,cy)] ((mg "__name__").getD .none) c' ctv)};have na:s.heap.get? h1.objs.size=none:=Heap.get?_none_of_le hsz;generalize h1.push _=h2 at gf gp⊢
  generalize h1.objs.size=fa at gf na⊢
  have k:∀b o,b≠P→s.heap.get? b=some o→h2.get? b=some o:= λb o nb e=>gp _ _ (hx1 b o nb e);have S':=S.ownUpd (kd':=.tab p c (q++"<lambda>")) (ds':=ds) hn hv hP k (gp _ _ hP1) (λv' o' e r=>Exists.elim r.inv λps2 z=>z.elim λd2 z=>z.2.1▸ .tab z.1 (λh' kk=>z.2.2.2.1 h' λb x e=>kk b x (GP hPh k _ _ e)) htr1 (λpos c' e h' kk=>hrec1 pos c' e h' λb x e=>kk b x ⟨gp _ _ e.1,e.2⟩) (z.2.2.2.2.2.2.mono (GP hPh k)));rw[Mz hv]at S';refine h fa {s with heap:=h2,toks:=tk} S' ⟨⟨_,tk,rfl⟩,λb o nb e=>k b o (λq=>nb (q▸hPo)) e,λb hb=>.inl hb⟩ (λb o V hl e=>k b o (RU e hget λz=>hl.elim λl w=>w.elim λvs w=>w.elim λn w=>nomatch ((congrArg Obj.data w.1).symm.trans (congrArg Obj.data z):Data.seq (List.toArray vs) n=(tabObj ps).data)) e) na ⟨_,_,gf,rfl⟩ λhz hhz=>?_;have nz:∀{a:Addr}{o:Obj},h2.get? a=some o→(∀vs n,o.data≠.seq vs n)→(∀es ep,o.data≠.dict es ep)→¬hz a:= λ{a o} e kk kd z=>(hhz _ z).1.elim (λr=>r.elim λvs r=>r.elim λn r=>kk _ _ (congrArg Obj.data (Option.some.inj (e.symm.trans r)))) λr=>S'.ns.elim λV w=>w.elim λo' w=>w.elim λes w=>w.elim λep w=>kd es ep ((congrArg Obj.data (Option.some.inj ((r▸e).symm.trans w.1))).trans w.2.1);have kc:=k _ _ hcyP hoc.1;exact .clo (fd:=kla_fn "<lambda>" (q++"<lambda>") params body scope [(y,cy)] ((mg "__name__").getD .none) c' ctv) (vs:=[vy]) ⟨gf,nz gf (λV V=>nofun) λV V=>nofun⟩ rfl (λh' kk=>hcr.elim λc2 r=>r.elim λoc2 r=>r.elim λvs2 r=>r.elim λt2 r=>⟨c2,oc2,vs2,t2,r.1,kk _ _ ⟨gp _ _ r.2.1,nz (gp _ _ r.2.1) (λV V e=>nomatch r.2.2.1.symm.trans e) λV V e=>nomatch r.2.2.1.symm.trans e⟩,r.2.2⟩)
   (.cons ⟨kc,nz kc (λV V e=>nomatch hoc.2.symm.trans e) λV V e=>nomatch hoc.2.symm.trans e⟩ hoc.2 .nil) (.cons ((hdy.mono (GP hPh k)).mono (GN λa z=>(hhz a z).2)) .nil)
 cases hf:codeAmong pos ps.toList with
 |some cv=>exact kla_makeFunctionHit (hcl env cy t1.1) H.glob (B.ng.keeps hb) ec.1 hhd hget htr hf (BA _ _ hb nH) λctv h' tk k1 k2=>fin cv ctv h' tk ps (λb o V e=>k1 b o e) k2 (k1 _ _ hget) htr (λpos c' e h2 kk=>hrec pos c' e h2 λb x e=>kk b x (DJ k1 _ _ e)) (Z' k1 (hrec pos cv hf s.heap SO))
 |none=>
  refine kla_makeFunction (hcl env cy t1.1) H.glob (B.ng.keeps hb) ec.1 hhd hget htr hf hgP (BA _ _ hb nH) λc' ctv h' tk hx1 z1 z2 hcr hP1=>?_;have tl:(ps++ #[rawInt pos.line,rawInt pos.col,Value.ref c']).toList=ps.toList++[rawInt pos.line,rawInt pos.col,.ref c']:=by simp
  refine fin (.ref c') ctv h' tk _ hx1 (Nat.le_of_lt (Nat.lt_of_le_of_lt z1 z2)) hP1 (tl▸TriplesOk_snoc _ _ _ _ htr) (λpos' c2 e h2 kk=>(xC _ htr (tl▸e)).elim (λr=>hrec pos' c2 r h2 λb x e=>kk b x (GP hPh (λb o nb e=>hx1 b o nb e) _ _ e)) λr=>hcr.elim λc3 w=>w.elim λoc2 w=>w.elim λvs2 w=>w.elim λt2 w=>⟨c3,oc2,vs2,t2,r.trans w.1,kk _ _ ⟨w.2.1,Value.ref.inj w.1▸S.fresh (Heap.get?_none_of_le z1)⟩,w.2.2⟩) hcr
noncomputable def bU{β:Type}(d:D)(f:FuncData→List Str→List D→Option β):Option β:=D.casesOn (motive_1:= λV=>Option β) d none (λV=>none) (λV=>none) (λV=>none) (λV=>none) (λV=>none) (λV=>none) (λV=>none) (λV=>none) (λV V V=>none) (λV V=>none) f (λV=>none)
theorem oD{β:Type}{d:D}{f:FuncData→List Str→List D→Option β}{b:β}{P:D→Prop}:bU d f=some b→(∀fd xs ds,f fd xs ds=some b→P (.clo fd xs ds))→P d:=
 D.casesOn (motive_1:= λd=>bU d f=some b→(∀fd xs ds,f fd xs ds=some b→P (.clo fd xs ds))→P d) d (λh=>AI h) (λV h=>AI h) (λV h=>AI h) (λV h=>AI h) (λV h=>AI h) (λV h=>AI h) (λV h=>AI h) (λV h=>AI h) (λV h=>AI h) (λV V V h=>AI h) (λV V h=>AI h) (λfd xs ds h k=>k fd xs ds h) (λV h=>AI h)
open Classical in
def GI(fd:FuncData)(y:Str)(f:D→D→Option D)(k:D)(ds:List D):Option D:=bU k λfd' ys dys=>if fd'=fd∧ys=[y]then EO (λd=>EO (f d) dys) ds else none
theorem cT{fd:FuncData}{y:Str}{f:D→D→Option D}(d dy:D):GI fd y f (.clo fd [y] [dy]) [d]=f d dy:=if_pos ⟨rfl,rfl⟩
theorem pL{fd:FuncData}{y:Str}{f:D→D→Option D}(k:D)(ds:List D)(d:D)(h:GI fd y f k ds=some d):∃fd xs l,k=.clo fd xs l:=oD (P:= λk=>∃fd xs l,k=.clo fd xs l) h λfd xs ds V=>⟨fd,xs,ds,rfl⟩
def fO(g:Gm)(cs:List (Str×Addr))(vs:List Value):List Str→Prop
 |[]=>cs=[]∧vs=[]
 |x::xs=>∃c oc v cs' us,cs=(x,c)::cs'∧vs=v::us∧g c oc∧oc.data=.cell (some v)∧HR g cs' xs us
theorem HR.inv{g:Gm}{cs:List (Str×Addr)}{xs:List Str}{vs:List Value}(h:HR g cs xs vs):fO g cs vs xs:=HR.casesOn (motive:= λcs xs vs V=>fO g cs vs xs) h ⟨rfl,rfl⟩ λa b c=>⟨_,_,_,_,_,rfl,rfl,a,b,c⟩
theorem dX{y z:Str}{c c':Addr}(e:List.lookup z [(y,c)]=some c'):z=y∧c=c':=by
 rw[List.lookup_cons]at e;cases hb:z==y with
 |true=>rw[hb]at e;exact⟨eq_of_beq hb,Option.some.inj e⟩
 |false=>rw[hb]at e;exact nomatch e
open Classical in
theorem pH{params:Arguments}{body:Expr}{scope:Scope}{pm:Value}{x y:Str}{f:EF}(B:B0 AA mg mb)
  (hbind:∀(fd:FuncData)(v:Value),fd.params=params→fd.defaults=.none→fd.kwdefaults=.none→bindArgs fd ⟨[v],[]⟩=pure [(x,v)])
  (hco:scope.isCoroutine=false)(hgen:scope.isGenerator=false)(hs:Sg.names=[(x,true),(y,false)])(hsto:Sg.stor=[])(okS:HD Sg scope)(hyn:(y,NameKind.cell)∉scope.names)(hP:PE prog w AA n Sg body f):
  HT prog w AA (n+1) (GI (LK params body scope pm) y λd dy=>f [.d d,.d dy]):=by
 refine λA s hid v k us ds d E hA hb Kh hv hu hf=>oD (P:= λk'=>k=k'→_) hf (λfd' ys dys hf ek=>DM hf λhC hf=>?_) rfl;refine(ek▸hv).clo'.elim λa q=>q.elim λo q=>q.elim λfd2 q=>q.elim λvs q=>?_;have g1:=q.2.1;have g3:=q.2.2.2.1.trans hC.1;have g5:=q.2.2.2.2.2.1;rw[hC.2]at g5;rw[q.1];refine⟨⟨a,o,fd2,rfl,g1.1,q.2.2.1⟩,?_⟩
 revert g5
 refine hu.oneE hf λu d0 du hf=>q.2.2.2.2.2.2.oneE hf λvy dy dvy hf g5=>Exists.elim g5.inv λc w=>w.elim λoc w=>w.elim λv' w=>w.elim λcs w=>w.elim λus w=>?_;have ev:vy=v':=(List.cons.inj w.2.1).1;have ecl:fd2.closure=[(y,c)]:=w.1.trans (congrArg _ (HR.inv w.2.2.2.2).1);have hoc:oc.data=.cell (some vy):=ev▸w.2.2.2.1;have e1:fd2.params=params:=congrArg FuncData.params g3;have e2:fd2.body=.expr body:=congrArg FuncData.body g3;have e3:fd2.scope=scope:=congrArg FuncData.scope g3;have e4:fd2.globals=mainGlobals:=congrArg FuncData.globals g3;have e5:fd2.builtins=builtinsNs:=congrArg FuncData.builtins g3;have hc:=w.2.2.1;refine wpAny_call (kla_callFunE hA.room g1.1 q.2.2.1 (by rw[e3];exact hco) (by rw[e3];exact hgen) e2 (q.2.2.2.2.1 _ SO) ?_);rw[hbind fd2 u e1 (congrArg FuncData.defaults g3) (congrArg FuncData.kwdefaults g3),e3,e4,e5,ecl];refine wpAny_pure (tN (Sg:=Sg) (is:=[0]) (ds:=[d0]) hb Kh ⟨λx' c' e=>⟨_,oc,(dX e).2▸hc.1,hoc⟩,λx1 x2 c' e1 e2=>(dX e1).1.trans (dX e2).1.symm⟩ (by rw[hsto];exact nofun) okS.env (λj z v e=>?_) rfl (.cons du .nil) λenv AB ow la HE S sh hvv hlk=>⟨B.nolim S,kla_codeExpr ?_⟩)
 ·cases j with
  |zero=>exact(Prod.mk.inj (Option.some.inj e)).1▸⟨0,true,rfl,by rw[hs];rfl,.inl rfl⟩
  |succ j=>exact nomatch e
 ·have S':=S.learn (i:=1) (x:=y) (b:=false) (v:=vy) (d:=dy) (by rw[hs];rfl) HE.nod ⟨c,hlk y c hyn List.lookup_cons_self,oc,S.keep _ _ hc.1,hoc⟩ (dvy.mono hvv);rw[show(A4 (AX Sg.names.length) [0] [d0]).set 1 (.d dy)=[.d d0,.d dy]by rw[hs];rfl]at S';exact wp_g (hP env (A.deeper env) AB _ d hid s.heap ow la _ HE hA.deeper S' hf) λr AF dr AZ=>⟨dr.mono (GN λa q=>.inl q),sh.kp (.of_kp AZ) (S.keep.trans AZ.grows)⟩
theorem Kl(B:B0 AA mg mb)(i:Nat){x kn:Str}{fa:Addr}{ob:Obj}{fd:FuncData}{p pos kp:Pos}{a:Expr}{es:List Expr}{ke:Expr}{g:KF}{f:List LV→Option (List D)}{fk:EF}(hn:Sg.globs[i]? =some x)(hv:mg x=some (.ref fa))(ho:AA.get? fa=some ob)(hd:ob.data=.func fd)
  (hg:KD prog w AA n fa kn g)(hp:DK (a::es))(hst:∀env,starEach (a::es) env=(false,eval a env)::starEach es env)(h:L1 prog w AA n Sg (a::es) f)(hk:PE prog w AA n Sg ke fk):
  PE prog w AA n Sg (.Call (.Name x p) (a::es) [⟨some kn,ke,kp⟩] pos) (λρ=>(f ρ).bind λds=>(fk ρ).bind λe=>(g ds e).bind λd=>if E9 d then some d else none):=by
 refine λenv A s ρ d hid he ow la E H hA S hf=>AK hf λds hds hf=>AK hf λek hek hf=>AK hf λd' hd' hf=>DM hf λhfl hf=>(?_:wpAny (model prog w) A (do callWith pos (←eval (.Name x p) env) [] (backTo pos (starEach (a::es) env)) (backToKw pos (keywordEach [⟨some kn,ke,kp⟩] env))) _ E s)
 exact wpAny_bind (IE B H hn (.inl hv) (S.base.trans S.keep) (callWith_function_kw (o:=ob) (fd:=fd) (RC hp (hst env) (BD (h env A s ρ ds hid he ow la pos E H hA S hds) λvs AB x=>wp_g (hk env A AB ρ ek hid he ow la E H hA (S.grows x.k.grows) hek) λu AF du AZ=>
  have hb:=((S.base.trans S.keep).trans x.k.grows).trans AZ.grows
  ⟨⟨hb _ _ ho,hd⟩,wp_g (hg A AF (λV=>False) vs ds u ek d' E hA hb (λa q=>q.elim) (x.d.grows AZ.grows).opn (du.mono (GN λa q=>q.elim)) hd') λv BI q EJ=>DA hf ⟨RH hfl q,(x.k.trans AZ).trans EJ⟩⟩))))
theorem Ds{g g':Gm}{vs:List Value}{ds:List D}(h:ds.all E9=true)(x:AJ g vs ds):AJ g' vs ds:=by
 induction ds generalizing vs with
 |nil=>rw[x.nil_inv];exact .nil
 |cons d ds ih=>exact x.cons_inv.elim λv q=>q.elim λus q=>q.1▸HF h λh1 h2=>.cons (RH h1 q.2.1) (ih h2 q.2.2)
theorem Dt{g g':Gm}{ds:List D}{p r:Option Addr}{l:Addr}{u v:Value}{o o':Obj}{es:List D}(h:ds.all E9=true)(x:DC g (.list r) u l o ds)(y:DC g' (.list p) v l o' es):DC g' (.list p) v l o ds:=
 Exists.elim x.inv λV q=>q.elim λV q=>Exists.elim y.inv λV z=>z.elim λV z=>q.2.2.1▸z.2.1▸ .list z.1 (Ds h q.2.2.2)
theorem Qu(B:B0 AA mg mb)(BA:∀(h:Heap) P,A3 AA h→AA.get? P=none→h.BuiltinsAt mg P)(it j ir gi:Nat){xt y fx rx:Str}{bt br:Bool}{fp rp lpos kp pos spos:Pos}{e:Expr}{params:Arguments}{body:Expr}{scope:Scope}{c:Addr}{q:Str}{fa:Addr}{ob:Obj}{fd:FuncData}{fe:EF}{g:GF}
  (hnt:Sg.names[it]? =some (xt,bt))(hc:Sg.code=some (c,q))(hy:Sg.names[j]? =some (y,false))(hnr:Sg.names[ir]? =some (rx,br))(hgn:Sg.globs[gi]? =some fx)(hv:mg fx=some (.ref fa))(ho:AA.get? fa=some ob)(hd:ob.data=.func fd)
  (hg:JS prog w AA n fa ["key"] (λl=>.list (some l)) g)(he:PE prog w AA n Sg e fe)(hst:∀env,starEach [.Name rx rp,e] env=[(false,eval (.Name rx rp) env),(false,eval e env)])
  (hdef:∀env,defaultsOf params env=([],[]))(hcl:∀(env:Env)(a:Addr),env.cells.lookup y=some a→closureFor scope env=pure [(y,a)])(hi:∀env:Env,env.scope.kind=.function→interactive env=false):
  XS prog w AA n Sg (.Expr (.Call (.Name fx fp) [.Name rx rp,e] [⟨some "key",.Lambda params body scope lpos,kp⟩] pos) spos) (λρ=>NH ρ[it]? λV c' q' V=>(AD j ρ).bind λdy=>D9 ρ[ir]? λp ds=>
   if c'=c∧q'=q++"<lambda>" then(fe ρ).bind λx=>(g ds [x] [.clo (LK params body scope ((mg "__name__").getD .none)) [y] [dy]]).bind λds'=>if ds'.all E9 then some (.next,ρ.set ir (.own (.list p) ds'))else none else none):=
 λenv A s ρ ρ' out hid he' ow la E H hA S hf=>bV hf λpt c' q' dt hvt hf=>AK hf λdy hvy hf=>MC hf λp ds hvr hf=>DM hf λhcq hf=>AK hf λx hx hf=>AK hf λds' hds' hf=>wpAny_Expr (by
  have hs1:∀env,starEach (.Name rx rp::[e]) env=(false,eval (.Name rx rp) env)::starEach [e] env:= λV=>rfl;have hs2:∀env,starEach (e::[]) env=(false,eval e env)::starEach [] env:= λenv=>(List.cons.inj ((hs1 env).symm.trans (hst env))).2;have hp:DK [.Name rx rp,e]:=AO hs1 (AO hs2 AW);refine(?_:wpAny (model prog w) A (do callWith pos (←eval (.Name fx fp) env) [] (backTo pos (starEach [.Name rx rp,e] env)) (backToKw pos (keywordEach [⟨some "key",.Lambda params body scope lpos,kp⟩] env))) _ E s);refine(I3 S hnr hvr).casesOn λl hla hxr hlo hlL vs hpl hdl=>wpAny_bind (IE B H hgn (.inl hv) (S.base.trans S.keep) (callWith_function_kw (o:=ob) (fd:=fd) (RC hp (hs1 env) (wpAny_items_cons (FG H hnr hxr (wp_g (N6 he hs2 env A s ρ [x] hid he' ow la pos E H hA S (by show(fe ρ).map _=_;rw[hx];rfl)) λus AB du A6=>?_)) (hs1 env)))));refine tK B BA H (S.grows A6.grows) hnt (hcq.1▸hcq.2▸hvt) hc hy (O9 hvy) hdef hcl λf AF B4 J7 hkl hfn V hclo=>?_;have hb:=B4.base.trans B4.keep;refine⟨⟨hb _ _ ho,hd⟩,hpl.elim λk hpl=>?_⟩;have o9:=hkl l _ (.inr hlo) ⟨l,vs,k,rfl,rfl⟩ (A6.grows _ _ hpl);have vt:∀a o,AL AB.heap (AY hid ow) a o→AL AF.heap (AY (λV=>False) [l]) a o:= λa o e=>⟨J7.kp a o (λq=>e.2 (.inr q)) e.1,λq=>q.elim id λq=>e.2 (.inr (List.mem_singleton.mp q▸hlo))⟩;have hz:=hclo (AY (λV=>False) [l]) λa q=>q.elim False.elim λq=>List.mem_singleton.mp q▸⟨.inl ⟨vs,k,o9⟩,.inr hlo⟩;refine DM hf λhfl hf=>BD (hg A AF he' (λV=>False) l _ (.ref l) us [.ref f] ds ds' [x] [.clo (LK params body scope ((mg "__name__").getD .none)) [y] [dy]] E hA B4.base B4.keep (λa q=>q.elim) (S.owr l hlo).1 id o9 (.list (.inr rfl) ((hdl.mono (DJ A6.grows)).mono vt)) (du.mono vt) (.cons hz .nil) rfl hds') λv BI x=>?_;obtain⟨ev,h',tk,es',⟨u,o,q1,q2⟩,q3⟩:=x;subst ev es';exact LR hf ⟨ow,la,B4.ownUpd hnr hvr hla q3 q1 (λv' o' e r=>Dt hfl q2 (r.mono (GP (.inr hlo) q3))),trivial,((Mv.of_kp A6).trans J7).trans ⟨⟨h',tk,rfl⟩,λb o nb e=>q3 b o (λq=>nb (q▸hlo)) e,λb hb=>.inl hb⟩⟩) (hi env H.kind) rfl
end
noncomputable def GM{α:Type}(lt:Nat→Nat→Bool):KasT α→α
 |.ret a=>a
 |.ask i j k=>GM lt (k (lt i j))
noncomputable def KU{α:Type}(ok lt:Nat→Nat→Bool):KasT α→Bool
 |.ret _=>true
 |.ask i j k=>ok i j&&KU ok lt (k (lt i j))
theorem rX{α:Type}{cmp:Nat→Nat→(Bool→Shared→Prop)→Shared→Prop}{Q:α→Shared→Prop}{ok lt:Nat→Nat→Bool}{s:Shared}(hc:∀i j (C:Bool→Shared→Prop),ok i j=true→C (lt i j) s→cmp i j C s)(t:KasT α)(ho:KU ok lt t=true)(h:Q (GM lt t) s):t.kasWp cmp Q s:=by
 induction t with
 |ret a=>exact h
 |ask i j k ih=>exact have q:=Bool.and_eq_true_iff.mp ho;hc i j _ q.1 (ih _ q.2 h)
def OV(d:D):Option (Int×Int):=(JC d).bind (I4 λa b=>(B6 a).bind λa=>(B6 b).bind λb=>some (a,b))
def QX(d:D):Option Str:=(JC d).bind (I4 λa V=>E6 a)
theorem ZM{d:D}{p:Int×Int}(h:OV d=some p):d=.tup [.int p.1,.int p.2]:=
 AK h λl el h=>s7 h λa b q h=>AK h λi ei h=>AK h λj ej h=>by rw[QZ el,q,HW ei,HW ej,←Option.some.inj h]
theorem xN{d:D}{a:Str}(h:QX d=some a):∃y,d=.tup [.str a,y]:=
 AK h λl el h=>s7 h λb y q h=>⟨y,by rw[QZ el,q,QY h]⟩
def dE(d e:D):Option Bool:=
 FR ((OV d).bind λp=>(OV e).bind λq=>some (if p.1=q.1 then decide (p.2<q.2)else decide (p.1<q.1)))
  ((QX d).bind λa=>(QX e).bind λc=>if a=c then none else some (decide (a.cps.toList<c.cps.toList)))
def IT(d:D):Bool:=(OV d).isSome
def PC(d:D):Bool:=(QX d).isSome
theorem m9{g:Gm}{v:Value}{d e:D}(h:AQ g v (.tup [d,e])):∃x o n u w,v=.ref x∧g x o∧o.cls=.type "tuple"∧o.data=.seq (List.toArray [u,w]) n∧AQ g u d∧AQ g w e:=by
 obtain⟨x,o,vs,n,hv,g1,c1,d1,l1⟩:=h.inv;obtain⟨u,w,e1,p1,p2⟩:=l1.two_inv;exact⟨x,o,n,u,w,hv,g1,c1,e1▸d1,p1,p2⟩
theorem cE{g:Gm}{v:Value}{d:D}{p:Int×Int}(h:AQ g v d)(e:OV d=some p):∃x o n t1 t2,v=.ref x∧g x o∧o.cls=.type "tuple"∧o.data=.seq (List.toArray [.int p.1 t1,.int p.2 t2]) n:=by
 rw[ZM e]at h;obtain⟨x,o,n,u,w,hv,g1,c1,d1,p1,p2⟩:=m9 h;exact p1.int_inv.elim λt1 q1=>p2.int_inv.elim λt2 q2=>⟨x,o,n,t1,t2,hv,g1,c1,q1▸q2▸d1⟩
theorem e6{g:Gm}{v:Value}{d:D}{a:Str}(h:AQ g v d)(e:QX d=some a):∃x o n t w,v=.ref x∧g x o∧o.cls=.type "tuple"∧o.data=.seq (List.toArray [.str a t,w]) n:=by
 obtain⟨y,e⟩:=xN e;rw[e]at h;obtain⟨x,o,n,u,w,hv,g1,c1,d1,p1,p2⟩:=m9 h;exact p1.str_inv.elim λt1 q1=>⟨x,o,n,t1,w,hv,g1,c1,q1▸d1⟩
noncomputable def JD(ds:List D)(i:Nat):D:=ds.getD i .none
def IX(ks:List D)(i j:Nat):Bool:=(dE (JD ks i) (JD ks j)).getD false
def MJ(ks:List D)(i j:Nat):Bool:=decide (i<ks.length)&&decide (j<ks.length)&&(dE (JD ks i) (JD ks j)).isSome
def MR(ks out:List D):Option (List D):=
 if decide (2≤ks.length)&&decide (ks.length<64)&&(ks.all IT||ks.all PC)&&KU (MJ ks) (IX ks) (kas_sort ks.length)&&decide (ks.length=out.length)&&(GM (IX ks) (kas_sort ks.length)).toList.all (λi=>decide (i<out.length))then some ((GM (IX ks) (kas_sort ks.length)).toList.map λi=>JD out i)else none
structure w8(ks out:List D):Prop where
 ge:2≤ks.length
 lt:ks.length<64
 kind:(ks.all IT||ks.all PC)=true
 ok:KU (MJ ks) (IX ks) (kas_sort ks.length)=true
 len:ks.length=out.length
 ix:∀i∈(GM (IX ks) (kas_sort ks.length)).toList,i<out.length
theorem sH{ks out res:List D}(h:MR ks out=some res):w8 ks out∧res=(GM (IX ks) (kas_sort ks.length)).toList.map λi=>JD out i:=CV h λh=>by
 rw[Bool.and_eq_true,Bool.and_eq_true,Bool.and_eq_true,Bool.and_eq_true,Bool.and_eq_true,List.all_eq_true]at h;exact⟨⟨of_decide_eq_true h.1.1.1.1.1,of_decide_eq_true h.1.1.1.1.2,h.1.1.1.2,h.1.1.2,of_decide_eq_true h.1.2,λi hi=>of_decide_eq_true (h.2 i hi)⟩,rfl⟩
section
variable{prog:Program}{w:World}{AA:Heap}{n:Nat}{Sg:AP}{mg mb:Str→Option Value}{K:Frag}{C:Addr}
theorem getD_some{l:List Value}{i:Nat}{v:Value}(h:l[i]? =some v):l.getD i Value.none=v:=by simp[h]
theorem ZN{l:List D}{i:Nat}(h:i<l.length):l[i]? =some (JD l i):=by simp[JD,h]
theorem lI{A:Around}{s:Shared}{g:Gm}{vs:List Value}{ks:List D}(hg:∀a o,g a o→s.heap.get? a=some o)(hd:AJ g vs ks){i j:Nat}{Cc:Bool→Shared→Prop}(ho:MJ ks i j=true)(h:Cc (IX ks i j) s):
  kas_ask prog w A (tuples' true) vs i j Cc s:=by
 rw[MJ,Bool.and_eq_true,Bool.and_eq_true]at ho;obtain⟨v,hv,dv⟩:=hd.get (ZN (of_decide_eq_true ho.1.1));obtain⟨u,hu,du⟩:=hd.get (ZN (of_decide_eq_true ho.1.2));obtain⟨r,hr⟩:=Option.isSome_iff_exists.mp ho.2;rw[IX,hr]at h;have h:Cc r s:=h;rw[kas_ask,getD_some hv,getD_some hu];refine G7 hr (λhr=>AK hr λp e1 hr=>AK hr λq e2 hr=>?_) λhr=>AK hr λa e1 hr=>AK hr λc e2 hr=>PD hr λhne hr=>?_
 ·rw[←Option.some.inj hr]at h;obtain⟨x,o,n1,t1,t2,ev,g1,_,d1⟩:=cE dv e1;obtain⟨y,o',n2,t3,t4,eu,g2,_,d2⟩:=cE du e2;rw[ev,eu];refine kat_lt (hg _ _ g1) d1 (hg _ _ g2) d2 (kat_cons (wpAny_eqBool_int (kat_go (λe=>kat_yes ?_) λe=>kat_no ?_)))
  ·rw[if_pos (beq_iff_eq.mp e)]at h;refine kat_cons (wpAny_eqBool_int (kat_go (λe'=>kat_yes (kat_nil ?_)) λe'=>kat_no (kat_one _ _ (PyProof.Rows.lt_int h))));rw[beq_iff_eq.mp e',decide_eq_false (Int.lt_irrefl _)]at h;exact h
  ·rw[if_neg λq=>Bool.false_ne_true (e.symm.trans (beq_iff_eq.mpr q))]at h;exact oneLt_int h
 ·rw[←Option.some.inj hr]at h;obtain⟨x,o,n1,t1,t2,ev,g1,_,d1⟩:=e6 dv e1;obtain⟨y,o',n2,t3,t4,eu,g2,_,d2⟩:=e6 du e2;rw[ev,eu];exact kat_lt (hg _ _ g1) d1 (hg _ _ g2) d2 (kat_cons (eqBool_str (kat_go (λe=>absurd (beq_iff_eq.mp e) hne) λe=>kat_no (oneLt_str h))))
theorem s5{g:Gm}{h':Heap}(hg:∀a o,g a o→h'.get? a=some o){P:Value→Prop}{K:D→Bool}(hK:∀{v k},AQ g v k→K k=true→∃x o n u w,v=.ref x∧g x o∧o.cls=.type "tuple"∧o.data=.seq (List.toArray [u,w]) n∧P u)
  {ks:List D}{vs:List Value}(hd:AJ g vs ks)(h:ks.all K=true):∃fs,KatTups h' vs fs∧fs.length=ks.length∧∀v∈fs,P v:=by
 induction ks generalizing vs with
 |nil=>rw[hd.nil_inv];exact⟨[],trivial,rfl,λV h=>nomatch h⟩
 |cons k ks ih=>
  obtain⟨v,us,e,a,r⟩:=hd.cons_inv;have q:=Bool.and_eq_true_iff.mp h;obtain⟨fs,t,l,f⟩:=ih r q.2;obtain⟨x,o,n,u,w,hv,g1,c1,d1,p⟩:=hK a q.1;rw[e];exact⟨u::fs,⟨⟨_,_,_,_,hv,hg _ _ g1,c1,d1,rfl⟩,t⟩,congrArg (· +1) l,D4 p f⟩
theorem pI{M:Model}{A:Around}{E:Value→Shared→Prop}{s:Shared}{g:Gm}(hg:∀a o,g a o→s.heap.get? a=some o){vs:List Value}{ks:List D}(hd:AJ g vs ks)(hk:(ks.all IT||ks.all PC)=true)(h2:2≤ks.length){Q:SortKind→Shared→Prop}(h:Q (tuples' true) s):
  wpAny M A (keyKind' vs.toArray) Q E s:=by
 rcases Bool.or_eq_true_iff.mp hk with q|q
 ·obtain⟨fs,t,l,f⟩:=s5 hg (P:= λv=>∃i t,v=.int i t) (K:=IT) (λ{v k} a z=>(Option.isSome_iff_exists.mp z).elim λp e=>(cE a e).elim λx q=>q.elim λo q=>q.elim λn q=>q.elim λt1 q=>q.elim λt2 q=>⟨x,o,n,_,_,q.1,q.2.1,q.2.2.1,q.2.2.2,_,_,rfl⟩) hd q;exact kat_kind t (by lia) (T:=.type "int") (λv hv=>(f v hv).elim λi q=>q.elim λt q=>by rw[q];exact Looks.of_pure rfl) (by decide) h
 ·obtain⟨fs,t,l,f⟩:=s5 hg (P:= λv=>∃i t,v=.str i t) (K:=PC) (λ{v k} a z=>(Option.isSome_iff_exists.mp z).elim λp e=>(e6 a e).elim λx q=>q.elim λo q=>q.elim λn q=>q.elim λt1 q=>q.elim λt2 q=>⟨x,o,n,_,_,q.1,q.2.1,q.2.2.1,q.2.2.2,_,_,rfl⟩) hd q;exact kat_kind t (by lia) (T:=.type "str") (λv hv=>(f v hv).elim λi q=>q.elim λt q=>by rw[q];exact Looks.of_pure rfl) (by decide) h
theorem rK{g:Gm}{vs:List Value}{out:List D}(hd:AJ g vs out){is:List Nat}(h:∀i∈is,i<out.length):AJ g (is.map λi=>vs.getD i Value.none) (is.map λi=>JD out i):=by
 induction is with
 |nil=>exact .nil
 |cons i is ih=>
  obtain⟨v,hv,dv⟩:=hd.get (ZN (h i (.head _)));exact .cons ((getD_some hv).symm▸dv:AQ g (vs.getD i Value.none) (JD out i)) (ih λj hj=>h j (.tail _ hj))
theorem Eg{A:Around}{s:Shared}{E:Value→Shared→Prop}{t:Sem Value}{P:Value→Heap→Prop}(B:B0 AA mg mb)(hb:A3 AA s.heap)
  (h:∀(L:Addr)(m:Str→Option Value),(L=mainGlobals∨L=builtinsNs)→Fr FW L s.heap m→News FW L s.heap (IO s.heap L)→wpAny (model prog w) A t (λv s'=>∃h' tk,s'={s with heap:=h',toks:=tk}∧P v h'∧∀b o,b≠L→s.heap.get? b=some o→h'.get? b=some o) E s):
  wpAny (model prog w) A t (λv s'=>P v s'.heap∧Kp s s') E s:=by
 have h1:=h mainGlobals mg (.inl rfl) (PM (B.ng.keeps hb)) (KI s.heap mainGlobals);have h2:=h builtinsNs mb (.inr rfl) (PM (B.nb.keeps hb)) (KI s.heap builtinsNs);refine wpAny_mono (fD h1 h2) (λv s'=>?_) λe s' q=>q.1;rintro⟨⟨h',tk,rfl,p1,n1⟩,⟨h'',tk',e,p2,n2⟩⟩;have e':h'=h'':=congrArg Shared.heap e;subst e';refine⟨p1,⟨h',tk,rfl,λb o eb=>?_⟩⟩;by_cases q:b=mainGlobals
 ·exact n2 b o (q▸B.ne) eb
 ·exact n1 b o q eb
theorem Jf(B:B0 AA mg mb){s:Heap}(hb:A3 AA s){L a:Addr}{o:Obj}(hL:L=mainGlobals∨L=builtinsNs)(ho:s.get? a=some o)(hd:∀es ep,o.data≠.dict es ep):a≠L:=by
 have no:∀{b m},AA.Ns b m→a≠b:= λx q=>(x.keeps hb).elim λo' r=>r.elim λes r=>r.elim λep r=>hd es ep (Option.some.inj ((q▸ho).symm.trans r.1)▸r.2.1);exact hL.elim (λq=>q▸no B.ng) λq=>q▸no B.nb
noncomputable def SG(d:D):Bool:=D.rec (motive_1:= λV=>Bool) (motive_2:= λV=>Bool) true (λV=>true) (λV=>true) (λV=>true) (λV=>true) (λV=>false) (λV=>false) (λV r=>r) (λV r=>r) (λV V V V=>false) (λV V=>false) (λV V V V=>false) (λV V=>false) true (λV V a b=>a&&b) d
noncomputable def N9(l:List D):Bool:=D.rec_1 (motive_1:= λV=>Bool) (motive_2:= λV=>Bool) true (λV=>true) (λV=>true) (λV=>true) (λV=>true) (λV=>false) (λV=>false) (λV r=>r) (λV r=>r) (λV V V V=>false) (λV V=>false) (λV V V V=>false) (λV V=>false) true (λV V a b=>a&&b) l
theorem sA{g g':Gm}(hg:∀a o vs n,g a o→o.data=.seq vs n→g' a o){v:Value}{d:D}(h:SG d=true)(x:AQ g v d):AQ g' v d:=
 AQ.rec (motive_1:= λv d V=>SG d=true→AQ g' v d) (motive_2:= λvs ds V=>N9 ds=true→AJ g' vs ds) (λV=>.none) (λb V=>.bool b) (λi t V=>.int i t) (λi t V=>.str i t) (λi t V=>.flt i t) (λV h=>nomatch h) (λV h=>nomatch h)
  (λa b c V ih h=>.tup (hg _ _ _ _ a c) b c (ih h)) (λa V ih h=>.lst (hg _ _ _ _ a rfl) (ih h)) (λV V V V V V h=>nomatch h) (λV V h=>nomatch h) (λV V V V V V h=>nomatch h) (λV V V V V h=>nomatch h)
  (λV=>.nil) (λV V i1 i2 h=>have q:=Bool.and_eq_true_iff.mp h;.cons (i1 q.1) (i2 q.2)) x h
theorem Mq{g g':Gm}(hg:∀a o vs n,g a o→o.data=.seq vs n→g' a o){v:List Value}{d:List D}(h:N9 d=true)(x:AJ g v d):AJ g' v d:=by
 induction d generalizing v with
 |nil=>rw[x.nil_inv];exact .nil
 |cons e d ih=>
  obtain⟨u,us,q,a,b⟩:=x.cons_inv;have h:=Bool.and_eq_true_iff.mp h;rw[q];exact .cons (sA hg h.1 a) (ih h.2 b)
def L6:List D→Option (List D):=EO λd=>(CX d).bind λl=>if N9 l then MR l l else none
theorem T0(B:B0 AA mg mb):TQ prog w AA n (.builtin "sorted") L6:=by
 refine λA s hid vs ds out E hA hb Kh hd hf=>hd.oneE hf λv d dv hf=>AK hf λl el hf=>DM hf λhsq hf=>dv.lstE el λa us hl hdl=>?_;obtain⟨O,ho⟩:=sH hf;have hlen:=hdl.length;have h1:=O.lt;have h2:=O.ge;rw[ho];refine BD (Eg (P:= λv h'=>∃D,v=.ref D∧s.heap.get? D=none∧h'.PlainList D (List.toArray ((GM (IX l) (kas_sort l.length)).toList.map λi=>us.getD i Value.none))) B hb λL m hL F N=>?_)
  λv s' x=>⟨x.1.elim λD q=>⟨D,_,q.1,q.2.1,q.2.2,(rK hdl O.ix).mono λa o e=>⟨x.2.grows _ _ e.1,λr=>r.elim e.2 λr=>BO q.2.1 (List.mem_singleton.mp r▸e.1)⟩⟩,x.2⟩
 refine kat_sorted F N hl (by lia) (by lia) λD e1 h' F' N' hDn=>?_;have hDs:s.heap.get? D=none:=by
  cases e:s.heap.get? D with
  |none=>rfl
  |some o=>exact absurd (hDn (D,o) (JV.mpr ⟨(N' _ (.head _)).2.1,e⟩)) (Nat.lt_irrefl _)
 have hdl':AJ (λa o=>h'.get? a=some o) us l:=Mq (λa o vs n e ed=>(N' (a,o) (.tail _ (JV.mpr ⟨Jf B hb hL e.1 λes ep q=>(nomatch ed.symm.trans q),e.1⟩))).1) hsq hdl;refine pI (s:={s with heap:=h'}) (λa o e=>e) hdl' O.kind O.ge ?_;rw[hlen]
 exact rX (ok:=MJ l) (lt:=IX l) (λi j Cc o1 o2=>lI (λa o e=>e) hdl' o1 o2) _ O.ok (KasFin.intro (news:=(D,seqObj "list" #[] e1)::IO s.heap L) F' N' (.head λp hp=>Nat.ne_of_lt (hDn p hp)) λh2 c F2 N2=>
  ⟨h2,s.toks,rfl,⟨D,rfl,hDs,c,(N2 _ (.head _)).1⟩,λb o nb e=>(N2 (b,o) (.tail _ (JV.mpr ⟨nb,e⟩))).1⟩)
theorem Aj{A:Around}{R:Result→Shared→Prop}{s:Shared}{r S:Addr}{a b c:Int}{t u v:Tok}{k JZ:Nat}(hh:A.handled=none)(hr:IsRange s.heap r a b c t u v)(hsmall:Builtin.Range.small a b c=true)(hn:Builtin.Range.rangeSize a b c=k)(hlen:k≤2^24)(hS:s.heap.get? S=some {cls:=.type "list",data:=.seq #[] JZ})
  (hR:∀h' tk acc' c',(∀b o,b≠S→s.heap.get? b=some o→h'.get? b=some o)→h'.get? S=some {cls:=.type "list",dict:=none,data:=.seq acc' c',slots:= #[]}→
   ItemsOf (λi v=>∃t,v=.int (a+i*c) t) acc' k→R (.ok (.ret (.ref S))) {s with heap:=h',toks:=tk}):codeAny (model prog w) A (.builtin "list.__iadd__" ⟨[.ref S,.ref r],[]⟩) R s:=by
 refine codeAny_builtin entry_list_iadd' ?_;rw[Around.under_plainId (id:="list.__iadd__") (by decide+kernel)];exact wpAny_extend_range (R:=R) hh hr hsmall hn hlen S (.ref S) JZ hS hR
theorem Am{A:Around}{s:Shared}{E:Value→Shared→Prop}{r:Addr}{a b c:Int}{t u v:Tok}{k:Nat}{Q:List Value→Shared→Prop}(hh:A.handled=none)(hr:IsRange s.heap r a b c t u v)(hsmall:Builtin.Range.small a b c=true)(hn:Builtin.Range.rangeSize a b c=k)(hlen:k≤2^24)
  (h:∀h' tk acc',(∀b o,s.heap.get? b=some o→h'.get? b=some o)→ItemsOf (λi v=>∃t,v=.int (a+i*c) t) acc' k→Q acc'.toList {s with heap:=h',toks:=tk}):
  wpAny (model prog w) A (collect (.ref r)) Q E s:=by
 unfold collect;refine wpAny_bind (wpAny_runValue (codeAny_builtin entry_proto_collect' ?_));show wpAny _ _ (do again (.builtin "list.__iadd__" ⟨[←newList [],.ref r],[]⟩)) _ _ s;refine wpAny_bind (wpAny_newList (wpAny_pure ⟨Code.quiet_builtin _ (by decide+kernel),?_⟩));refine Aj (s:={s with heap:=s.heap.push (seqObj "list" #[] 0)}) hh (Heap.get?_push_of_some _ hr) hsmall hn hlen (Heap.get?_push_size _ rfl) λh' tk acc' c' k1 k2 k3=>?_;show wpAny (model prog w) A (do
   let o ←load s.heap.objs.size
   match o.data with
   |.seq xs _=>pure xs.toList
   |_=>unsupported "internal:collect") Q E {s with heap:=h',toks:=tk}
 refine wpAny_bind (wpAny_load k2 ?_);exact wpAny_pure (h h' tk acc' (λb o e=>k1 b o (Nat.ne_of_lt (Heap.lt_size e)) (Heap.get?_push_of_some _ e)) k3)
theorem Ng{A:Around}{s:Shared}{E:Value→Shared→Prop}{x f:Addr}{Q:Value→Shared→Prop}
  (h:wpAny (model prog w) A.in1 (collect (.ref x)) (λvs AB=>vs.length≤100000∧wpAny (model prog w) A.in1.in1 (ksk_tree AB.heap.objs.size (.ref f) false) (λfin AF=>fin=.done (.ret .none)∧Q (.ref AB.heap.objs.size) AF) E {AB with heap:=AB.heap.push (seqObj "list" (List.toArray vs) 0)}) E s):
  wpAny (model prog w) A (call (.builtin "sorted") [.ref x] [("key",.ref f)]) Q E s:=by
 refine call_function_entry_kw kind_sorted plain_sorted entry_sorted (ksk_s1 _ _) ?_;unfold Builtin.«sorted»;refine wpAny_bind (m:=checkCount "sorted" 1 1 _) (wpAny_pure ?_);refine wpAny_bind (BD h λvs AB x=>wpAny_bind (wpAny_newList ?_ (by have:=x.1;rw[sizeLine_eq];lia)));have hoL:(AB.heap.push (seqObj "list" (List.toArray vs) 0)).get? AB.heap.objs.size=some (seqObj "list" (List.toArray vs) 0):=Heap.get?_push_size _ rfl;refine wpAny_bind (wpAny_holding (wpAny_call_entry_kw slot_list_sort ⟨_,hoL,rfl⟩ entry_list_sort ?body (ksk_l1 _ _)))
 case body=>
  show wpAny (model prog w) A.in1.in1 (Builtin.«list.sort» ⟨[.ref AB.heap.objs.size],[(Str.ofString "key",.ref f)]⟩) _ _ _;rw[ksk_t1];exact BD x.2 λfin AF y=>⟨_,y.1,wpAny_pure ⟨_,rfl,y.2⟩⟩
noncomputable def NS(gk:D→List D→Option D)(k:D):List D→Option (List D)
 |[]=>some []
 |d::r=>(gk k [d]).bind λo=>(NS gk k r).map (o::·)
theorem Fj{d:D}(h:IT d=true):SG d=true:=(Option.isSome_iff_exists.mp h).elim λp e=>by rw[ZM e];rfl
theorem Dz{L:Addr}{h:Heap}{m:Str→Option Value}(hn:h.Ns L m){a:Addr}{o:Obj}{vs:Array Value}{k:Nat}(e:h.get? a=some o)(ed:o.data=.seq vs k):a≠L:=
 hn.elim λo' w=>w.elim λes w=>w.elim λep w=>RU e w.1 λz=>nomatch (ed.symm.trans ((congrArg Obj.data z).trans w.2.1):Data.seq vs k=.dict es ep)
structure kR(base:Heap)(L kS Dd e1:Nat)(m:Str→Option Value)(ks:List Value)(kds:List D)(e:Nat)(h:Heap):Prop where
 F:Fr FW L h m
 kb:∀b o,b≠L→base.get? b=some o→h.get? b=some o
 hk:h.get? kS=some (seqObj "list" (List.toArray ks) e)
 hD:h.get? Dd=some (seqObj "list" #[] e1)
 ks:AJ (λa o=>h.get? a=some o∧a≠kS∧a≠Dd∧a≠L) ks kds
theorem Ga{A:Around}{CA:Shared}{base:Heap}{L kS Dd e1 f:Addr}{m:Str→Option Value}{gk:D→List D→Option D}{k:D}{Fin:List Value→Nat→Shared→Prop}(hg:HT prog w AA n gk)(hA:B9 n A)(hb:A3 AA base)(hLH:AA.get? L=none)(hkB:base.get? kS=none)(hLk:kS≠L)(hLD:Dd≠L)(hkD:kS≠Dd)
  (hfk:∀h:Heap,(∀b o,b≠L→base.get? b=some o→h.get? b=some o)→AQ (AL h (λa=>a=kS∨a=Dd)) (.ref f) k){r:List Value}{rd outs kds:List D}{ks:List Value}{e:Nat}{h:Heap}{tk:Nat}(hr:∀g,AJ g r rd)(hm:NS gk k rd=some outs)(ho:outs.all IT=true)
  (I:kR base L kS Dd e1 m ks kds e h)(hfin:∀ks e (h:Heap) tk,kR base L kS Dd e1 m ks (kds++outs) e h→Fin ks e {CA with heap:=h,toks:=tk}):
  KatKeys prog w A FW L m kS (.ref f) Fin r ks e {CA with heap:=h,toks:=tk}:=by
 induction r generalizing rd outs kds ks e h tk with
 |nil=>
  have z:rd=[]:=List.eq_nil_of_length_eq_zero (hr λV V=>False).length.symm;subst z;exact hfin ks e h tk (by rw[←Option.some.inj hm,List.append_nil];exact I)
 |cons v r ih=>
  cases rd with
  |nil=>exact nomatch (hr λV V=>False).nil_inv
  |cons d rd=>
   have hv:∀g,AQ g v d∧AJ g r rd:= λg=>(hr g).cons_inv.elim λV q=>q.elim λV q=>(List.cons.inj q.1).1▸(List.cons.inj q.1).2▸q.2
   revert ho hfin
   refine AK hm λo ho1 hm=>FV hm λouts' hm' ho hfin=>HF ho λho2 ho'=>KatKeys.cons ?_;have hbh:A3 AA h:= λb o' e'=>I.kb b o' (λq=>BO hLH (q▸e')) (hb b o' e');refine BD (hg A {CA with heap:=h,toks:=tk} (λa=>a=kS∨a=Dd) (.ref f) k [v] [d] o _ hA hbh (λa q=>q.elim (λq=>⟨_,q▸I.hk⟩) λq=>⟨_,q▸I.hD⟩) (hfk h I.kb) (.cons (hv _).1 .nil) ho1).2 λrv AB x=>?_;have dr:=x.d;obtain⟨h1,t1,e',g1⟩:=x.k;subst e';have g1:∀b o,h.get? b=some o→h1.get? b=some o:=g1;have hmem:∀b o',b≠L→b≠kS→h1.get? b=some o'→(b,o')∈(IO h1 L).filter (λp=>p.1≠kS):= λb o' n1 n2 e'=>List.mem_filter.mpr ⟨JV.mpr ⟨n1,e'⟩,decide_eq_true n2⟩;refine KatBack.intro (news:=(kS,seqObj "list" (List.toArray ks) e)::(IO h1 L).filter (λp=>p.1≠kS)) (I.F.keeps g1) (D4 ⟨g1 _ _ I.hk,hLk,NV _⟩ λp hp=>KI h1 L p (List.mem_filter.mp hp).1) (.head λp hp=>of_decide_eq_true (List.mem_filter.mp hp).2) λh2 c F2 N2=>?_;have k2:∀b o',b≠L→b≠kS→h1.get? b=some o'→h2.get? b=some o':= λb o' n1 n2 e'=>(N2 _ (.tail _ (hmem b o' n1 n2 e'))).1;refine ih (kds:=kds++[o]) (λg=>(hv g).2) hm' ho' ⟨F2,λb o' n1 e'=>k2 b o' n1 (λq=>BO hkB (q▸e')) (g1 _ _ (I.kb b o' n1 e')),(N2 _ (.head _)).1,k2 _ _ hLD (Ne.symm hkD) (g1 _ _ I.hD),(I.ks.mono λa o' q=>⟨k2 _ _ q.2.2.2 q.2.1 (g1 _ _ q.1),q.2⟩).append (.cons (sA (λa o' vs k' q qd=>?_) (Fj ho2) dr) .nil)⟩ λks' e' h' tk' I'=>hfin ks' e' h' tk' (by rw[List.append_assoc]at I';exact I');have nL:=Dz (I.F.keeps g1).ns q.1 qd;have nk:a≠kS:= λz=>q.2 (.inl z);exact⟨k2 _ _ nL nk q.1,nk,λz=>q.2 (.inr z),nL⟩
theorem AV.keepNs{env:Env}{hid:Addr→Prop}{he:Heap}{ow la:List Addr}{h h':Heap}{ρ:List LV}(S:AV AA Sg env hid he ow la h ρ)(k:∀b o,b≠env.locals→h.get? b=some o→h'.get? b=some o){m:Str→Option Value}(hm:h.Ns env.locals m)(hm':h'.Ns env.locals m):AV AA Sg env hid he ow la h' ρ:=by
 have hcell:∀{c v},h.IsCell c v→h'.IsCell c v:= λt=>t.elim λo e=>⟨o,k _ _ (Ne.symm (dS hm ⟨o,e⟩)) e.1,e.2⟩;have hva:∀x b v,EG env h x b v→EG env h' x b v:= λx b v H=>by
  cases b with
  |true=>exact H.elim λm1 q=>⟨m,hm',dR hm q.1▸q.2⟩
  |false=>exact H.elim λc q=>⟨c,q.1,hcell q.2⟩
 exact{S with
  keep:= λb o e=>k b o (λq=>BO (S.owr _ S.loc).1 (q▸e)) (S.keep b o e)
  hlt:= λb q=>⟨(S.hlt b q).1,(S.hlt b q).2.elim λo e=>⟨o,k b o (λq'=>(S.hlt b q).1 (q'▸S.loc)) e⟩⟩
  owr:= λb m'=>⟨(S.owr b m').1,if q:b=env.locals then hm'.elim λo w=>w.elim λV w=>w.elim λV w=>⟨o,q▸w.1⟩else(S.owr b m').2.elim λo e=>⟨o,k b o q e⟩⟩
  ns:=⟨m,hm'⟩
  cel:= λy c e=>(S.cel y c e).elim λv t=>⟨v,hcell t⟩
  slot:= λj y b' l' lv a1 a2 a3=>(S.slot j y b' l' lv a1 a2 a3).map (hva y b') (λa o e=>⟨k a o (λq=>e.2 (.inr (q▸S.loc))) e.1,e.2⟩) λm ne=>⟨m,ne,λo e V=>k _ _ ne e⟩}
theorem Fu{a b:Int}{acc:Array Value}(h:ItemsOf (λi v=>∃t,v=.int (a+i*1) t) acc (b-a).toNat)(g:Gm):AJ g acc.toList (EQ a b):=
 .of_get (by rw[P1];exact h.1) λi v d hv hd=>(h.2 i v ((Array.getElem?_toList ..).symm.trans hv)).elim λt e=>by rw[e,rU hd,Int.mul_one];exact .int _ _
inductive kZ(AA:Heap)(Sg:AP)(env:Env)(hid:Addr→Prop)(he:Heap)(ow la:List Addr)(ρ:List LV)(res:List D)(s:Shared)(v:Value)(s':Shared):Prop
 |mk (Dd:Addr) (us:List Value):v=.ref Dd→s'.heap.PlainList Dd (List.toArray us)→(∀g,AJ g us res)→AV AA Sg env hid he ow la s'.heap ρ→Mv ow ow s s'→kZ AA Sg env hid he ow la ρ res s v s'
theorem B9.in2{A:Around}(h:B9 (n+1) A):B9 n A.in1.in1:=by
 refine⟨h.1,?_,?_⟩
 ·have:=h.2.1;show A.depth+n≤900;lia
 ·have:=h.2.2;show A.units+1+1+40*n≤9000;lia
theorem Qg{env:Env}{A:Around}{s:Shared}{hid:Addr→Prop}{he:Heap}{ow la:List Addr}{ρ:List LV}{E:Value→Shared→Prop}(B:B0 AA mg mb)(S:AV AA Sg env hid he ow la s.heap ρ)(hA:B9 (n+1) A){r f:Addr}{a b:Int}{t u v:Tok}(hr:IsRange s.heap r a b 1 t u v)(hk:HN a b=true){gk:D→List D→Option D}{k:D}{outs res:List D}(hg:HT prog w AA n gk)
  (hfk:AQ (AL s.heap (λa=>a=env.locals)) (.ref f) k)(hm:NS gk k (EQ a b)=some outs)(ho:outs.all IT=true)(hs:MR outs (EQ a b)=some res):
  wpAny (model prog w) A (call (.builtin "sorted") [.ref r] [("key",.ref f)]) (kZ AA Sg env hid he ow la ρ res s) E s:=by
 have hk:=eE hk;refine Ng (Am hA.1 hr (small_one (by lia) (by lia) (by lia) (by lia)) (eH a b) (by lia) λh1 tk acc k1 k2=>?_);have k1:A3 s.heap h1:=k1;have hdv:= λg=>Fu k2 g;have hvl:acc.toList.length=(EQ a b).length:=(hdv λV V=>False).length;have hvr:acc.toList.length=(b-a).toNat:=hvl.trans (P1 a b);refine⟨by lia,?_⟩;obtain⟨O,hres⟩:=sH hs;have hvo:acc.toList.length=outs.length:=hvl.trans O.len.symm;have h2:=O.ge;have h64:=O.lt;obtain⟨m,hns⟩:=S.ns;have S1:=S.grows k1;have hp:A3 h1 (h1.push (seqObj "list" (List.toArray acc.toList) 0)):=A3.push _ _;have hoD:(h1.push (seqObj "list" (List.toArray acc.toList) 0)).get? h1.objs.size=some (seqObj "list" (List.toArray acc.toList) 0):=Heap.get?_push_size _ rfl;have hLn:h1.get? h1.objs.size=none:=DT _;have lL:h1.objs.size≠env.locals:=S1.nloc hLn;refine(?_:wpAny (model prog w) A.in1.in1 (ksk_tree h1.objs.size (.ref f) false) _ E {s with heap:=h1.push (seqObj "list" (List.toArray acc.toList) 0),toks:=tk});generalize h1.push (seqObj "list" (List.toArray acc.toList) 0)=h1' at hp hoD⊢
 generalize h1.objs.size=Dd at hoD hLn lL⊢
 have frs:∀{a o},s.heap.get? a=some o→a≠Dd:= λe q=>BO hLn (q▸k1 _ _ e);refine kat_keyed (m:=m) (L:=env.locals) (h₀:=FW) (news:=IO h1 env.locals) (vs:=acc.toList) (PM ((hns.keeps k1).keeps hp)) (λp hp'=>⟨hp _ _ (KI h1 env.locals p hp').1,(KI h1 env.locals p hp').2⟩) hoD lL (NV _) (λp hp' q=>BO hLn (q▸(KI h1 env.locals p hp').1)) (by lia) (by lia) λkS e1 h' F' N' l1 l2=>?_;have nk:kS≠env.locals:=(N' _ (.head _)).2.1;have hkB:h1.get? kS=none:=Option.eq_none_iff_forall_ne_some.mpr λo e=>Nat.lt_irrefl _ (l2 (kS,o) (JV.mpr ⟨nk,e⟩));have hkD:kS≠Dd:=Ne.symm (Nat.ne_of_lt l1);have frk:∀{a o},s.heap.get? a=some o→a≠kS:= λe q=>BO hkB (q▸k1 _ _ e);refine Ga (CA:={s with heap:=h1,toks:=tk}) (base:=h1) (Dd:=Dd) (e1:=e1) hg (A:=A.in1.in1) hA.in2 (S1.base.trans S1.keep) (FE S.base (S.owr _ S.loc).1) hkB nk lL hkD (λh kb=>hfk.mono λa' o e=>⟨kb _ _ e.2 (k1 _ _ e.1),λq=>q.elim (frk e.1) (frs e.1)⟩) (kds:=[]) hdv hm ho
  ⟨F',λb o nb e=>(N' (b,o) (.tail _ (.tail _ (JV.mpr ⟨nb,e⟩)))).1,(N' _ (.head _)).1,(N' _ (.tail _ (.head _))).1,.nil⟩ λks e h3 tk3 I=>pI (s:={s with heap:=h3,toks:=tk3}) (λa o e=>e.1) I.ks O.kind O.ge ?_
 rw[show katRev false ks=ks from rfl,hvo];have hfil:∀p∈(IO h3 env.locals).filter (λp=>p.1≠kS∧p.1≠Dd),p.1≠kS∧p.1≠Dd:= λp hp=>of_decide_eq_true (List.mem_filter.mp hp).2;refine rX (ok:=MJ outs) (lt:=IX outs) (λi j Cc o1 o2=>lI (λa o e=>e.1) I.ks o1 o2) _ O.ok (KatFin.intro (news:=(kS,seqObj "list" (List.toArray ks) e)::(Dd,seqObj "list" #[] e1)::(IO h3 env.locals).filter (λp=>p.1≠kS∧p.1≠Dd)) I.F
  (D4 ⟨I.hk,nk,NV _⟩ (D4 ⟨I.hD,lL,NV _⟩ λp hp=>KI h3 env.locals p (List.mem_filter.mp hp).1)) (.head (D4 (Ne.symm hkD) λp hp=>(hfil p hp).1)) λh4 c4 F4 N4=>KasFin.intro (news:=(kS,seqObj "list" #[] c4)::(Dd,seqObj "list" #[] e1)::(IO h3 env.locals).filter (λp=>p.1≠kS∧p.1≠Dd)) F4 N4 (.tail hkD (.head λp hp=>(hfil p hp).2)) λh5 c5 F5 N5=>?_)
 have kept:∀b o,b≠env.locals→s.heap.get? b=some o→h5.get? b=some o:= λb o nb e=>(N5 _ (.tail _ (.tail _ (List.mem_filter.mpr ⟨JV.mpr ⟨nb,I.kb b o nb (k1 _ _ e)⟩,decide_eq_true ⟨frk e,frs e⟩⟩)))).1;refine⟨rfl,Dd,_,rfl,⟨c5,(N5 _ (.tail _ (.head _))).1⟩,λg=>?_,S.keepNs kept hns F5.ns,⟨⟨h5,tk3,rfl⟩,λb o nb e=>kept b o (λq=>nb (q▸S.loc)) e,λb hb=>.inl hb⟩⟩;rw[hres];exact rK (hdv g) O.ix
theorem Fz{f:Value}(hf:∀a,f≠.ref a):keeperOf f=pure .machine:=by
 cases f<;>first|rfl|exact absurd rfl (hf _)
theorem yP{A:Around}{s:Shared}{E:Value→Shared→Prop}{pos:Pos}{f:Value}{first:List Value}{args:List (Bool×Sem Value)}{kws:List (Option Str×Sem Value)}{Q:Value→Shared→Prop}(hf:∀a,f≠.ref a)(hplain:args.any (·.1)=false)(hkw:kws.any (·.1.isNone)=false)
  (h:wpAny (model prog w) A (evalArgs f true args kws) (λa AB=>wpAny (model prog w) A (call f (first++a.pos) a.kw) Q E AB) E s):
  wpAny (model prog w) A (callWith pos f first args kws) Q E s:=by
 unfold callWith;refine wpAny_bind (wpAny_holding (BD h λa AB CT=>wpAny_bind (wpAny_standAt ?_)));simp only[hplain,hkw,Bool.or_false];exact wpAny_bind (wpAny_of_eq (Fz hf) (wpAny_bind (BD CT λr AF hr=>wpAny_bind (wpAny_holding (wpAny_point (wpAny_pure hr))))))
theorem Qt(B:B0 AA mg mb)(BA:∀(h:Heap) P,A3 AA h→AA.get? P=none→h.BuiltinsAt mg P)(it j ir gi:Nat){xt y sx rx:Str}{bt br:Bool}{sp rp lpos kp cpos pos ipos:Pos}{e:Expr}{params:Arguments}{lbody:Expr}{scope:Scope}{c:Addr}{q:Str}{fe:EF}{gk:D→List D→Option D}{body:List Stmt}{G:PF}
  (hnt:Sg.names[it]? =some (xt,bt))(hc:Sg.code=some (c,q))(hy:Sg.names[j]? =some (y,false))(hnr:Sg.names[ir]? =some (rx,br))(hgn:Sg.globs[gi]? =some sx)(hv:BK mg mb sx (.builtin "sorted"))
  (hg:HT prog w AA n gk)(he:PE prog w AA (n+1) Sg e fe)(hst:∀env,starEach (e::[]) env=(false,eval e env)::starEach [] env)
  (hdef:∀env,defaultsOf params env=([],[]))(hcl:∀(env:Env)(a:Addr),env.cells.lookup y=some a→closureFor scope env=pure [(y,a)])(hb:PS prog w AA (n+1) Sg body G):
  XS prog w AA (n+1) Sg (.If (.Compare (.Name rx rp) [.NotEq] [.Call (.Name sx sp) [e] [⟨some "key",.Lambda params lbody scope lpos,kp⟩] pos] cpos) body [] ipos) (λρ=>NH ρ[it]? λV c' q' V=>(AD j ρ).bind λdy=>D9 ρ[ir]? λp ds=>if c'=c∧q'=q++"<lambda>" then(fe ρ).bind λx=>(M5 x).bind λab=>
   if HN ab.1 ab.2 then(NS gk (.clo (LK params lbody scope ((mg "__name__").getD .none)) [y] [dy]) (EQ ab.1 ab.2)).bind λouts=>if outs.all IT then(MR outs (EQ ab.1 ab.2)).bind λres=>(FS (.lst ds) (.lst res)).bind λt=>if t then G ρ else some (.next,ρ)else none else none else none):=by
 refine λenv A s ρ ρ' out hid he' ow la E H hA S hf=>bV hf λpt c' q' dt hvt hf=>AK hf λdy hvy hf=>MC hf λp ds hvr hf=>DM hf λhcq hf=>AK hf λx hfe hf=>AK hf λab ex hf=>DM hf λhk hf=>AK hf λouts houts hf=>DM hf λhII hf=>AK hf λres hres hf=>AK hf λt ht hf=>?_;rw[lH ex]at hfe;refine(I3 S hnr hvr).casesOn λl hla hxr V V V V V=>wpAny_If (wpAny_isTrue_Compare1 (FG H hnr hxr (?_:wpAny (model prog w) A (do callWith pos (←eval (.Name sx sp) env) [] (backTo pos (starEach [e] env)) (backToKw pos (keywordEach [⟨some "key",.Lambda params lbody scope lpos,kp⟩] env))) _ E s)) rfl);have hp:DK [e]:=AO hst AW;refine wpAny_bind (IE B H hgn hv (S.base.trans S.keep) (yP nofun (by rw[HX];exact hp env) rfl (RC hp (hst env) (wp_g (N6 he hst env A s ρ [.rng ab.1 ab.2] hid he' ow la pos E H hA S (by show(fe ρ).map _=_;rw[hfe];rfl)) λus AB du A6=>?_))));obtain⟨_,eu,d1⟩:=du.one_inv;refine tK B BA H (S.grows A6.grows) hnt (hcq.1▸hcq.2▸hvt) hc hy (O9 hvy) hdef hcl λf AF B4 J7 V V V hclo=>?_;rw[eu];refine Exists.elim d1.inv λr w=>w.elim λor w=>w.2.2.elim λt1 z=>z.elim λt2 z=>z.elim λt3 hrr=>?_;rw[w.1];refine BD (Qg B B4 hA (hrr _ (J7.kp r or (λq=>w.2.1.2 (.inr q)) w.2.1.1)) hk hg (hclo (λa=>a=env.locals) λa q=>⟨.inr q,.inr (q▸B4.loc)⟩) houts hII hres) λv BI x=>x.casesOn λDd us ev hDp hDd DG J8=>?_;rw[ev];refine(I3 DG hnr hvr).casesOn λl' hla' V V V vs' hpl' hdl'=>?_;rw[Option.some.inj (hla.symm.trans hla')];refine ID (JY (n:=n+1) A BI (AY hid ow) (.ref l') (.ref Dd) (.lst ds) (.lst res) t E hA (.inr ⟨l',vs',ds,rfl,rfl,hpl',hdl'⟩) (.inr ⟨Dd,us,res,rfl,rfl,hDp,hDd _⟩) ht) λCS LJ=>wpAny_truthy_bool ?_;have m4:=(((Mv.of_kp (ow:=ow) A6).trans J7).trans J8).trans (Mv.of_kp LJ);have E4:=DG.grows LJ.grows;cases t with
 |true=>exact BD (hb env A CS ρ ρ' out hid he' ow la E H hA E4 hf) λfl AF x=>x.pre m4
 |false=>exact LR hf (wpAny_execs_nil ⟨ow,la,E4,trivial,m4⟩)
end
abbrev JU(h:Heap)(z TI TO:Addr)(f0 f1:Value):Prop:=
 h.get? z=some {cls:=.type "zip",dict:=none,data:=.fields #[f0,f1,.bool false,.ref TI,.ref TO],slots:= #[]}
section
variable{prog:Program}{w:World}{A:Around}{E:Value→Shared→Prop}{s:Shared}
theorem Qy{z TI TO T:Addr}{b:Bool}{oT:Obj}{Q:Bool→Shared→Prop}(hz:JU s.heap z TI TO (rawInt T) (.bool b))(hT:s.heap.get? T=some oT)
  (h:∀h',JU h' z TI TO (rawInt T) (.bool true)→Heap.SameBut z s.heap h'→Q false {s with heap:=h'}):wpAny (model prog w) A (Builtin.SmallTypes.ownedTupleIsFree (.ref z)) Q E s:=by
 refine wpAny_bind (m:=field (.ref z) 0) (wpAny_field hz rfl (x:=rawInt T) rfl (wpAny_bind (m:=loadIfAlive ((T:Int)).toNat) ?_));rw[Int.toNat_natCast];refine kdx_alive hT (K4 nofun (wpAny_bind (wpAny_field hz rfl (x:=.bool b) rfl ?_)));cases b with
 |true=>exact K4 (by decide) (wpAny_pure (h s.heap hz (Heap.SameBut.refl _ _)))
 |false=>exact QE (by decide) (wpAny_bind (wpAny_setField_rec hz (by simp) λCT PA H4=>wpAny_pure (h CT PA H4)))
theorem Qa{β:Type}{M:Model}{x y:Value}{init:β}{f:Value→β→Sem (ForInStep β)}{Q:β→Shared→Prop}(h:wpAny M A (f x init) (λr AB=>match r with
   |.done b=>Q b AB
   |.yield b=>wpAny M A (f y b) (λr AF=>match r with
    |.done b=>Q b AF
    |.yield b=>Q b AF) E AB) E s):wpAny M A (forIn #[x,y] init f) Q E s:=by
 rw[←Array.forIn_toList];simp only[List.forIn_cons,List.forIn_nil];refine wpAny_bind (BD h λr AB CT=>?_);cases r with
 |done b=>exact wpAny_pure CT
 |yield b=>
  refine wpAny_bind (BD CT λr AF GG=>?_);cases r<;>exact wpAny_pure GG
theorem t7{z TI TO i1 i2 T:Addr}{b:Bool}{oT:Obj}{Q:Fin→Shared→Prop}(hz:JU s.heap z TI TO (rawInt T) (.bool b))(hT:s.heap.get? T=some oT)(hTI:IsPair s.heap TI (.ref i1) (.ref i2))
  (h:∀h',JU h' z TI TO (rawInt T) (.bool true)→Heap.SameBut z s.heap h'→wpAny (model prog w) A (Builtin.SmallTypes.nextOf (.ref i1)) (λx AB=>wpAny (model prog w) A (Builtin.SmallTypes.nextOf (.ref i2)) (λy AF=>Q (.done (.ret (.ref AF.heap.objs.size))) {AF with heap:=AF.heap.push {cls:=.type "tuple",data:=.seq #[x,y]}}) E AB) E {s with heap:=h'}):
  wpAny (model prog w) A (Builtin.«zip.__next__» ⟨[.ref z],[]⟩) Q E s:=by
 refine wpAny_bind (m:=field (.ref z) 2) (wpAny_field hz rfl (x:=.bool false) rfl (wpAny_bind (m:=field (.ref z) 3) (wpAny_field hz rfl (x:=.ref TI) rfl (wpAny_bind (wpAny_seqItems hTI rfl ?_)))));refine wpAny_bind (m:=Builtin.SmallTypes.ownedTupleIsFree (.ref z)) (Qy hz hT λCT PA H4=>K4 Bool.false_ne_true (wpAny_bind (Qa (wpAny_bind (wpAny_holding (wpAny_bind (m:=Builtin.SmallTypes.nextOf (.ref i1)) (BD (h CT PA H4) λx AB A6=>wpAny_pure (wpAny_pure ?_))))))));exact wpAny_bind (wpAny_holding (wpAny_bind (m:=Builtin.SmallTypes.nextOf (.ref i2)) (BD A6 λy AF AZ=>wpAny_pure (wpAny_pure (wpAny_bind (m:=newTuple [x,y]) (wpAny_newTuple (wpAny_pure AZ)))))))
theorem Re{z TI TO i1 i2 l1 l2 T:Addr}{b:Bool}{oT:Obj}{k1 k2:Nat}{xs ys:Array Value}{x y:Value}{Q:Value→Shared→Prop}(D:ZipApart z TI TO i1 i2 l1 l2)
  (hz:JU s.heap z TI TO (rawInt T) (.bool b))(hT:s.heap.get? T=some oT)(hTI:IsPair s.heap TI (.ref i1) (.ref i2))
  (h1:s.heap.IsListIter i1 l1 k1)(h2:s.heap.IsListIter i2 l2 k2)(hl1:s.heap.IsList l1 xs)(hl2:s.heap.IsList l2 ys)(hx:xs[k1]? =some x)(hy:ys[k2]? =some y)
  (hQ:∀h',JU h' z TI TO (rawInt T) (.bool true)→h'.IsListIter i1 l1 (k1+1)→h'.IsListIter i2 l2 (k2+1)→IsPair h' s.heap.objs.size x y→
   (∀c o,c≠z→c≠i1→c≠i2→s.heap.get? c=some o→h'.get? c=some o)→Q (.ref s.heap.objs.size) {s with heap:=h'}):
  wpAny (model prog w) A (Builtin.«zip.__next__» ⟨[.ref z],[]⟩) (λfin s'=>∃v,fin=.done (.ret v)∧Q v s') E s:=
 t7 hz hT hTI λCT PA H4=>wpAny_nextOf_list_item (h1.extBut H4.extBut D.i1z) (hl1.extBut H4.extBut D.l1z) hx λGG Er NK=>wpAny_nextOf_list_item ((h2.extBut H4.extBut D.i2z).extBut NK.extBut D.i12.symm) ((hl2.extBut H4.extBut D.l2z).extBut NK.extBut D.l2i1) hy λJ3 Es UM=>by
  have hsz:J3.objs.size=s.heap.objs.size:=UM.1.trans (NK.1.trans H4.1);have gp:A3 J3 (J3.push {cls:=.type "tuple",data:=.seq #[x,y]}):=A3.push _ _;have b6:IsPair (J3.push {cls:=.type "tuple",data:=.seq #[x,y]}) J3.objs.size x y:=Heap.get?_push_size _ rfl;refine⟨_,rfl,(?_:Q (.ref J3.objs.size) {s with heap:=J3.push {cls:=.type "tuple",data:=.seq #[x,y]}})⟩;generalize J3.push {cls:=.type "tuple",data:=.seq #[x,y]}=PB at gp b6⊢
  rw[hsz]at b6⊢;exact hQ _ (gp _ _ (UM.extBut _ _ D.i2z.symm (NK.extBut _ _ D.i1z.symm PA))) ((Er.extBut UM.extBut D.i12).at λo e=>gp _ o e) (Es.at λo e=>gp _ o e) b6 λc o c1 c2 c3 e=>gp _ _ (UM.extBut _ _ c3 (NK.extBut _ _ c2 (H4.extBut _ _ c1 e)))
theorem Rd{z TI TO i1 i2 l1 l2 T:Addr}{b:Bool}{oT:Obj}{k1:Nat}{xs:Array Value}{Q:Fin→Shared→Prop}(hh:A.handled=none)(D:ZipApart z TI TO i1 i2 l1 l2)
  (hz:JU s.heap z TI TO (rawInt T) (.bool b))(hT:s.heap.get? T=some oT)(hTI:IsPair s.heap TI (.ref i1) (.ref i2))
  (h1:s.heap.IsListIter i1 l1 k1)(hl1:s.heap.IsList l1 xs)(hx:xs[k1]? =none)
  (hE:∀h' e,(∀c o,c≠z→c≠i1→s.heap.get? c=some o→h'.get? c=some o)→(∃o,h'.get? e=some o∧o.cls=.type "StopIteration")→E (.ref e) {s with heap:=h'}):
  wpAny (model prog w) A (Builtin.«zip.__next__» ⟨[.ref z],[]⟩) Q E s:=
 t7 hz hT hTI λCT PA H4=>wpAny_nextOf_list_end hh (h1.extBut H4.extBut D.i1z) (hl1.extBut H4.extBut D.l1z) hx λGG e NK he=>hE GG e (λc o c1 c2 x=>NK _ _ c2 (H4.extBut _ _ c1 x)) he
inductive ZI(h:Heap)(z TI TO i1 i2 S i:Nat):Prop
 |new:i=0→JU h z TI TO .none (.bool false)→ZI h z TI TO i1 i2 S i
 |old (T:Addr) (b:Bool) (oT:Obj):JU h z TI TO (rawInt (T:Int)) (.bool b)→h.get? T=some oT→T≠z→T≠S→T≠i1→T≠i2→T≠TO→ZI h z TI TO i1 i2 S i
structure KH(h:Heap)(z TI TO i1 i2 l1 l2 S:Addr)(xs ys:Array Value)(i:Nat):Prop where
 ti:IsPair h TI (.ref i1) (.ref i2)
 to:∃a b,IsPair h TO a b
 it1:h.IsListIter i1 l1 i
 it2:h.IsListIter i2 l2 i
 ls1:h.IsList l1 xs
 ls2:h.IsList l2 ys
 out:ZI h z TI TO i1 i2 S i
structure ZH(S z TI TO i1 i2 l1 l2:Addr):Prop where
 z:S≠z
 TI:S≠TI
 TO:S≠TO
 i1:S≠i1
 i2:S≠i2
 l1:S≠l1
 l2:S≠l2
theorem KH.keep{h h':Heap}{z TI TO i1 i2 l1 l2 S:Addr}{xs ys:Array Value}{i:Nat}(F:ZH S z TI TO i1 i2 l1 l2)(x:KH h z TI TO i1 i2 l1 l2 S xs ys i)(k:∀b o,b≠S→h.get? b=some o→h'.get? b=some o):KH h' z TI TO i1 i2 l1 l2 S xs ys i:=
 ⟨k _ _ F.TI.symm x.ti,x.to.elim λa q=>q.elim λb q=>⟨a,b,k _ _ F.TO.symm q⟩,x.it1.at λo e=>k _ o F.i1.symm e,x.it2.at λo e=>k _ o F.i2.symm e,x.ls1.at λo e=>k _ o F.l1.symm e,x.ls2.at λo e=>k _ o F.l2.symm e,
  x.out.casesOn (λe q=>.new e (k _ _ F.z.symm q)) λT b oT q q1 q2 q3 q4 q5 q6=>.old T b oT (k _ _ F.z.symm q) (k _ _ q3 q1) q2 q3 q4 q5 q6⟩
theorem KH.lt{h:Heap}{z TI TO i1 i2 l1 l2 S:Addr}{xs ys:Array Value}{i:Nat}(x:KH h z TI TO i1 i2 l1 l2 S xs ys i):z<h.objs.size∧TO<h.objs.size∧i1<h.objs.size∧i2<h.objs.size:=
 ⟨x.out.casesOn (λV q=>Heap.lt_size q) λV V V q V V V V V V=>Heap.lt_size q,x.to.elim λV q=>q.elim λV q=>Heap.lt_size q,x.it1.elim λV e=>Heap.lt_size e.1,x.it2.elim λV e=>Heap.lt_size e.1⟩
theorem Rg{z TI TO i1 i2 l1 l2 S:Addr}{xs ys:Array Value}{i:Nat}{x y:Value}{Q:Option Value→Shared→Prop}(D:ZipApart z TI TO i1 i2 l1 l2)(hSs:S<s.heap.objs.size)
  (st:KH s.heap z TI TO i1 i2 l1 l2 S xs ys i)(hx:xs[i]? =some x)(hy:ys[i]? =some y)
  (hQ:∀h',KH h' z TI TO i1 i2 l1 l2 S xs ys (i+1)→IsPair h' s.heap.objs.size x y→(∀c o,c≠z→c≠TO→c≠i1→c≠i2→s.heap.get? c=some o→h'.get? c=some o)→Q (some (.ref s.heap.objs.size)) {s with heap:=h'}):
  wpAny (model prog w) A (pyNext (.ref z)) Q E s:=
 have l:=st.lt
 st.to.elim λa q=>q.elim λb a2=>st.out.casesOn
  (λe q=>wpAny_pyNext_zip_item D q st.ti a2 st.it1 st.it2 st.ls1 st.ls2 hx hy λh' b1 b2 b3 b4 b5 V b7=>hQ h' ⟨b7 _ _ D.TIz D.TITO D.TIi1 D.TIi2 st.ti,⟨_,_,b2⟩,b3,b4,st.ls1.at λo e=>b7 _ o D.l1z D.l1TO D.l1i1 D.l1i2 e,st.ls2.at λo e=>b7 _ o D.l2z D.l2TO D.l2i1 D.l2i2 e,.old _ false _ b1 b5 (Nat.ne_of_gt l.1) (Nat.ne_of_gt hSs) (Nat.ne_of_gt l.2.2.1) (Nat.ne_of_gt l.2.2.2) (Nat.ne_of_gt l.2.1)⟩ b5 b7)
  λT bb oT q q1 q2 q3 q4 q5 q6=>
   have hT:s.TypeIs (.ref z) "zip":=⟨_,q,rfl⟩
   wpAny_bind (m:=(callSpecial? (.ref z) "__next__" []).attempt) (wpAny_attempt (wpAny_callSpecial?_slot (name:=Str.ofString "__next__") hT PySem.F.slot_zip_next (wpAny_call_entry PySem.F.slot_zip_next hT PySem.F.entry_zip_next (Re D q q1 st.ti st.it1 st.it2 st.ls1 st.ls2 hx hy λh' b1 b3 b4 b5 b7=>wpAny_pure
    (hQ h' ⟨b7 _ _ D.TIz D.TIi1 D.TIi2 st.ti,⟨_,_,b7 _ _ D.TOz D.TOi1 D.TOi2 a2⟩,b3,b4,st.ls1.at λo e=>b7 _ o D.l1z D.l1i1 D.l1i2 e,st.ls2.at λo e=>b7 _ o D.l2z D.l2i1 D.l2i2 e,.old T true oT b1 (b7 _ _ q2 q4 q5 q1) q2 q3 q4 q5 q6⟩ b5 λc o c1 V c3 c4 e=>b7 c o c1 c3 c4 e)) (PySem.F.args_zip_next_1 _))))
theorem Rf{z TI TO i1 i2 l1 l2 S:Addr}{xs ys:Array Value}{i:Nat}{Q:Option Value→Shared→Prop}(hh:A.handled=none)(D:ZipApart z TI TO i1 i2 l1 l2)
  (st:KH s.heap z TI TO i1 i2 l1 l2 S xs ys i)(hx:xs[i]? =none)
  (hQ:∀h',(∀c o,c≠z→c≠TO→c≠i1→c≠i2→s.heap.get? c=some o→h'.get? c=some o)→Q none {s with heap:=h'}):
  wpAny (model prog w) A (pyNext (.ref z)) Q E s:=
 st.to.elim λa q=>q.elim λb a2=>st.out.casesOn (λV q=>wpAny_pyNext_zip_end hh D q st.ti a2 st.it1 st.it2 st.ls1 st.ls2 (.inl hx) hQ) λT bb oT q q1 q2 q3 q4 q5 q6=>
  have hT:s.TypeIs (.ref z) "zip":=⟨_,q,rfl⟩
  wpAny_bind (m:=(callSpecial? (.ref z) "__next__" []).attempt) (wpAny_attempt (wpAny_callSpecial?_slot (name:=Str.ofString "__next__") hT PySem.F.slot_zip_next
   (wpAny_call_entry PySem.F.slot_zip_next hT PySem.F.entry_zip_next (Rd hh D q q1 st.ti st.it1 st.ls1 hx λh' e hk he=>wpAny_bind (wpAny_isInstance (T:="StopIteration") (b:=true) he isSubtype_stop (wpAny_pure (hQ _ λc o c1 V c3 V e=>hk c o c1 c3 e)))) (PySem.F.args_zip_next_1 _))))
end
section
variable{prog:Program}{w:World}{A:Around}{s:Shared}{R:Result→Shared→Prop}
def NF(S z TO i1 i2 a:Addr):Prop:=a≠S∧a≠z∧a≠TO∧a≠i1∧a≠i2
structure ZL(ok:Addr→Prop)(CT h:Heap)(z TI TO i1 i2 l1 l2 S:Addr)(xs ys:Array Value)(out:List D)(i c:Nat)(acc:Array Value):Prop where
 st:KH h z TI TO i1 i2 l1 l2 S xs ys i
 kp:∀b o,NF S z TO i1 i2 b→CT.get? b=some o→h.get? b=some o
 hS:h.get? S=some {cls:=.type "list",dict:=none,data:=.seq acc c,slots:= #[]}
 sz:acc.size=i
 den:AJ (λa o=>h.get? a=some o∧ok a) acc.toList (out.take i)
theorem Ra{ok:Addr→Prop}{z TI TO i1 i2 l1 l2 S:Addr}{xs ys:Array Value}{as bs:List D}(hh:A.handled=none)(Z:ZipApart z TI TO i1 i2 l1 l2)(F:ZH S z TI TO i1 i2 l1 l2)(hn:xs.size≤100000)(hxy:xs.size=ys.size){CT:Heap}(hok:∀a,ok a→NF S z TO i1 i2 a)(hnw:∀a,CT.get? a=none→NF S z TO i1 i2 a→ok a)
  (hd1:AJ (λa o=>CT.get? a=some o∧ok a) xs.toList as)(hd2:AJ (λa o=>CT.get? a=some o∧ok a) ys.toList bs)
  (hR:∀h' tk acc c,(∀b o,NF S z TO i1 i2 b→CT.get? b=some o→h'.get? b=some o)→h'.get? S=some {cls:=.type "list",dict:=none,data:=.seq acc c,slots:= #[]}→AJ (λa o=>h'.get? a=some o∧ok a) acc.toList (List.zipWith (λa b=>D.tup [a,b]) as bs)→R (.ok (.ret .none)) {s with heap:=h',toks:=tk})
  {i:Nat}{h:Heap}{tk c:Nat}{acc:Array Value}(I:ZL ok CT h z TI TO i1 i2 l1 l2 S xs ys (List.zipWith (λa b=>D.tup [a,b]) as bs) i c acc):
   codeAny (model prog w) A (.builtin "list.extend.loop" ⟨[.ref S,.ref z,.none],[]⟩) R {s with heap:=h,toks:=tk}:=by
 generalize hk:xs.size-i=k
 induction k generalizing i h tk c acc with
 |zero=>
  refine codeAny_builtin PySem.F.entry_extend_loop ?_;rw[Around.under_plainId PySem.F.plain_extend_loop _];refine wpAny_bind (m:=pyNext (.ref z)) (Rf (s:={s with heap:=h,toks:=tk}) (A:=A.in1) hh Z I.st (Array.getElem?_eq_none (Nat.sub_eq_zero_iff_le.mp hk)) λh' he=>wpAny_pure (hR h' tk acc c (λb o n e=>he b o n.2.1 n.2.2.1 n.2.2.2.1 n.2.2.2.2 (I.kp b o n e)) (he S _ F.z F.TO F.i1 F.i2 I.hS) ?_));have d:=I.den;rw[List.take_of_length_le (by rw[List.length_zipWith,←hd1.length];exact Nat.le_trans (Nat.min_le_left _ _) (Nat.sub_eq_zero_iff_le.mp hk))]at d;exact d.mono λa o e=>have n:=hok a e.2;⟨he a o n.2.1 n.2.2.1 n.2.2.2.1 n.2.2.2.2 e.1,e.2⟩
 |succ k ih=>
  have hlt:i<xs.size:=by lia
  have hx:=Array.getElem?_eq_getElem hlt;have hy:=Array.getElem?_eq_getElem (hxy▸hlt);refine codeAny_builtin PySem.F.entry_extend_loop ?_;rw[Around.under_plainId PySem.F.plain_extend_loop _];refine wpAny_bind (m:=pyNext (.ref z)) (Rg (s:={s with heap:=h,toks:=tk}) (S:=S) Z (Heap.lt_size I.hS) I.st hx hy λh' hst' ht hkp=>?_);have hS':=hkp S _ F.z F.TO F.i1 F.i2 I.hS;have hSl:S<h.objs.size:=Heap.lt_size I.hS;have l:=I.st.lt;have hsz:=I.sz;refine(?_:wpAny _ A.in1 (updateSeq S (·.push (Value.ref h.objs.size))>>=_) _ _ {s with heap:=h',toks:=tk});have hkp:∀c o,c≠z→c≠TO→c≠i1→c≠i2→h.get? c=some o→h'.get? c=some o:=hkp;have ht:IsPair h' h.objs.size xs[i] (ys[i]'(hxy▸hlt)):=ht;have up:∀b o,b≠S→h'.get? b=some o→(h'.update S (Obj.mapSeq (·.push (Value.ref h.objs.size)))).get? b=some o:= λb o hb e=>(Heap.get?_update_other _ _ (Ne.symm hb)).trans e;have hS2:=Heap.get?_update_self (Obj.mapSeq (·.push (Value.ref h.objs.size))) hS' rfl;refine wpAny_bind (wpAny_updateSeq hS' rfl (wpAny_pure ⟨plainId_quiet PySem.F.plain_extend_loop _,?_⟩) (by rw[hsz,sizeLine_eq];lia) (by show(acc.push (Value.ref h.objs.size)).size≤sizeLine+1;rw[Array.size_push,hsz,sizeLine_eq];lia));have hnf:NF S z TO i1 i2 h.objs.size:=⟨Nat.ne_of_gt hSl,Nat.ne_of_gt l.1,Nat.ne_of_gt l.2.1,Nat.ne_of_gt l.2.2.1,Nat.ne_of_gt l.2.2.2⟩;generalize h'.update S (Obj.mapSeq (·.push (Value.ref h.objs.size)))=h2 at up hS2⊢
  have to:∀a o,NF S z TO i1 i2 a→h.get? a=some o→h2.get? a=some o:= λa o n e=>up a o n.1 (hkp a o n.2.1 n.2.2.1 n.2.2.2.1 n.2.2.2.2 e);have old:∀a o,CT.get? a=some o∧ok a→h2.get? a=some o∧ok a:= λa o e=>⟨to a o (hok a e.2) (I.kp a o (hok a e.2) e.1),e.2⟩;refine(hd1.get' ((Array.getElem?_toList ..).trans hx)).elim λdx qx=>(hd2.get' ((Array.getElem?_toList ..).trans hy)).elim λdy qy=>ih (c:=_) (acc:=acc.push (.ref h.objs.size)) ⟨hst'.keep F up,λb o n e=>to b o n (I.kp b o n e),hS2,by rw[Array.size_push,hsz],?_⟩ (by lia);rw[Array.toList_push,List.take_add_one,List.getElem?_zipWith,qx.1,qy.1];exact(I.den.mono λa o e=>⟨to a o (hok a e.2) e.1,e.2⟩).append (.cons (.tup ⟨up _ _ hnf.1 ht,hnw _ (Option.eq_none_iff_forall_ne_some.mpr λo e=>BO (DT h) (I.kp _ o hnf e)) hnf⟩ rfl rfl (.cons (qx.2.mono old) (.cons (qy.2.mono old) .nil))) .nil)
theorem Rc:typeLookup (.type "zip") "__len__"=pure none:=by rw[typeLookup_type,builtinLookup_eq_fast];kernel_rfl
theorem Rb:typeLookup (.type "zip") "__length_hint__"=pure none:=by rw[typeLookup_type,builtinLookup_eq_fast];kernel_rfl
theorem Qz{E:Value→Shared→Prop}{z:Addr}(hT:s.TypeIs (.ref z) "zip"){Q:Bool→Shared→Prop}(h:Q true s):wpAny (model prog w) A (Builtin.List.listLengthHint (.ref z)) Q E s:=by
 unfold Builtin.List.listLengthHint;exact wpAny_bind (wpAny_specialOf hT Rc (K4 (by decide) (K4 (by decide) (wpAny_bind (wpAny_specialOf hT Rb (wpAny_pure h))))))
theorem Ak{ok:Addr→Prop}{z TI TO i1 i2 l1 l2 S:Addr}{xs ys:Array Value}{as bs:List D}{JZ:Nat}(hh:A.handled=none)(Z:ZipApart z TI TO i1 i2 l1 l2)(F:ZH S z TI TO i1 i2 l1 l2)(hn:xs.size≤100000)(hxy:xs.size=ys.size)
  (st:KH s.heap z TI TO i1 i2 l1 l2 S xs ys 0)(hz:JU s.heap z TI TO .none (.bool false))(hS:s.heap.get? S=some {cls:=.type "list",data:=.seq #[] JZ})
  (hok:∀a,ok a→NF S z TO i1 i2 a)(hnw:∀a,s.heap.get? a=none→NF S z TO i1 i2 a→ok a)(hd1:AJ (λa o=>s.heap.get? a=some o∧ok a) xs.toList as)(hd2:AJ (λa o=>s.heap.get? a=some o∧ok a) ys.toList bs)
  (hR:∀h' tk acc c,(∀b o,NF S z TO i1 i2 b→s.heap.get? b=some o→h'.get? b=some o)→h'.get? S=some {cls:=.type "list",dict:=none,data:=.seq acc c,slots:= #[]}→AJ (λa o=>h'.get? a=some o∧ok a) acc.toList (List.zipWith (λa b=>D.tup [a,b]) as bs)→R (.ok (.ret .none)) {s with heap:=h',toks:=tk}):
  wpAny (model prog w) A.in1 (Builtin.List.listExtendWith (.ref S) (.ref z) .none)
   (λfin s'=>match fin with|.done f=>R (.ok f) s'|.again c'=>c'.quiet=true∧codeAny (model prog w) A c' R s') (λe s'=>R (.error e) s') s:=by
 have hT:s.TypeIs (.ref z) "zip":=⟨_,hz,rfl⟩;have O':=Heap.get?_update_self (Obj.mapSeq (·.push Value.none)) hS rfl;have Et:=Heap.get?_update_self (Obj.mapSeq (·.pop)) O' rfl;unfold Builtin.List.listExtendWith;refine wpAny_bind (wpAny_typeOf (T:="zip") hT (K4 (by simp[Builtin.List.listSameRef,F.z]) (wpAny_bind (wpAny_pyIter_zip hz (wpAny_bind (wpAny_holding (Qz hT (QE rfl (wpAny_bind (wpAny_rule (wpAny_bind ?_)))))))))));refine wpAny_bind (m:=updateSeq S (·.push .none)) (wpAny_updateSeq hS rfl (wpAny_updateSeq (hz:=by seq_fits) O' rfl (wpAny_pure ⟨plainId_quiet PySem.F.plain_extend_loop _,?_⟩)));have hk:∀b o,b≠S→s.heap.get? b=some o→((s.heap.update S (Obj.mapSeq (·.push Value.none))).update S (Obj.mapSeq (·.pop))).get? b=some o:= λb o hb e=>(Heap.get?_update_other _ _ (Ne.symm hb)).trans ((Heap.get?_update_other _ _ (Ne.symm hb)).trans e);exact Ra (CT:=s.heap) (tk:=s.toks) hh Z F hn hxy hok hnw hd1 hd2 hR ⟨st.keep F hk,λb o n e=>hk b o n.1 e,Et,rfl,.nil⟩
end
section
variable{prog:Program}{w:World}{AA:Heap}{n:Nat}{Sg:AP}{mg mb:Str→Option Value}
theorem Qc{A:Around}{s AB:Shared}{hid:Addr→Prop}{E:Value→Shared→Prop}{z:Addr}{TI TO i1 i2 l1 l2:Addr}{us vs:List Value}{as bs:List D}(hA:B9 n A)(D0:ZipApart z TI TO i1 i2 l1 l2)(hTI:IsPair s.heap TI (.ref i1) (.ref i2))(hTO:∃a b,IsPair s.heap TO a b)(h1:s.heap.IsListIter i1 l1 0)(h2:s.heap.IsListIter i2 l2 0)(hl1:s.heap.IsList l1 us.toArray)(hl2:s.heap.IsList l2 vs.toArray)(hz:JU s.heap z TI TO .none (.bool false))
  (hn:us.length≤100000)(hxy:us.length=vs.length)(hnew:∀b o,AB.heap.get? b=some o→b≠z∧b≠TO∧b≠i1∧b≠i2)(hg:Kp AB s)(hd1:AJ (AL AB.heap hid) us as)(hd2:AJ (AL AB.heap hid) vs bs)(Kh:D7 hid AB.heap):
  wpAny (model prog w) A (call (.type "list") [.ref z]) (λv s'=>(∃l ws,v=.ref l∧AB.heap.get? l=none∧s'.heap.PlainList l (List.toArray ws)∧AJ (AL s'.heap (DU hid [l])) ws (List.zipWith (λa b=>.tup [a,b]) as bs))∧Kp AB s') E s:=by
 refine callType_codes (Q₁:= λobj AF=>obj=.ref s.heap.objs.size∧AF={s with heap:=s.heap.push {cls:=.type "list",data:=.seq #[]}}) PySem.F.called_list (PySem.F.typeCall_list_1 _) PySem.F.entry_list_init
  (code_list_new _ ⟨rfl,rfl⟩) λobj AF GG=>?_
 rw[GG.1,GG.2];have gp:=A3.push s.heap {cls:=.type "list",data:=.seq #[]};have hS:(s.heap.push {cls:=.type "list",data:=.seq #[]}).get? s.heap.objs.size=some {cls:=.type "list",data:=.seq #[]}:=Heap.get?_push_size _ rfl;refine⟨⟨_,hS,rfl⟩,PySem.F.args_list_init_2 _ _,(?_:wpAny _ A.in1.in1 (do let old ←Builtin.List.listItems (.ref s.heap.objs.size);Builtin.List.listUpdate (.ref s.heap.objs.size) (λV=> #[]);letGo old.toList.reverse;Builtin.List.listExtendWith (.ref s.heap.objs.size) (.ref z) .none) _ _ _)⟩;refine wpAny_bind (listItems_at hS rfl (wpAny_bind (listUpdate_at hS rfl (wpAny_bind (wpAny_letGo ?_)) (Nat.zero_le _) (Nat.zero_le _))));have O':=Heap.get?_update_self (Obj.mapSeq (λV=>(#[]:Array Value))) hS rfl;have oth:∀b o,s.heap.get? b=some o→((s.heap.push {cls:=.type "list",data:=.seq #[]}).update s.heap.objs.size (Obj.mapSeq (λV=>(#[]:Array Value)))).get? b=some o:=
  λb o e=>(Heap.get?_update_other _ _ (Nat.ne_of_gt (Heap.lt_size e))).trans (gp b o e)
 have hSn:s.heap.get? s.heap.objs.size=none:=DT _;generalize (s.heap.push {cls:=.type "list",data:=.seq #[]}).update s.heap.objs.size (Obj.mapSeq (λV=>(#[]:Array Value)))=h2' at O' oth⊢
 generalize s.heap.objs.size=S at O' hSn⊢
 have ne:∀{b o},s.heap.get? b=some o→S≠b:= λe q=>BO hSn (q▸e);have nf:∀{b o},AB.heap.get? b=some o→NF S z TO i1 i2 b:= λe=>⟨Ne.symm (ne (hg.grows _ _ e)),hnew _ _ e⟩;have to:∀a o,AL AB.heap hid a o→h2'.get? a=some o∧NF S z TO i1 i2 a∧¬hid a:= λa o e=>⟨oth _ _ (hg.grows _ _ e.1),nf e.1,e.2⟩;exact Ak (A:=A.in1) (s:={s with heap:=h2'}) hA.1 D0 ⟨ne hz,ne hTI,hTO.elim λV q=>q.elim λV q=>ne q,h1.elim λV e=>ne e.1,h2.elim λV e=>ne e.1,hl1.elim λV e=>ne e.1,hl2.elim λV e=>ne e.1⟩ hn hxy
  ⟨oth _ _ hTI,hTO.elim λa q=>q.elim λb q=>⟨a,b,oth _ _ q⟩,h1.at λo e=>oth _ o e,h2.at λo e=>oth _ o e,hl1.at λo e=>oth _ o e,hl2.at λo e=>oth _ o e,.new rfl (oth _ _ hz)⟩ (oth _ _ hz) O' (λV q=>q.1) (λa e n=>⟨n,λq=>(Kh a q).elim λo f=>BO e (oth _ _ (hg.grows _ _ f))⟩) (hd1.mono to) (hd2.mono to) λh' tk acc c k1 k2 k3=>by
   have kk:∀b o,AB.heap.get? b=some o→h'.get? b=some o:= λb o e=>k1 b o (nf e) (oth b o (hg.grows _ _ e));exact⟨rfl,⟨S,acc.toList,rfl,FE hg.grows hSn,⟨c,k2⟩,k3.mono λa o e=>⟨e.1,λq=>q.elim e.2.2 λq=>e.2.1.1 (List.mem_singleton.mp q)⟩⟩,hg.elim λV q=>q.elim λV q=>⟨h',tk,by rw[q.1],kk⟩⟩
theorem Kv(B:B0 AA mg mb)(gl gz:Nat){lx zx:Str}{lp zp pos zpos:Pos}{e1 e2:Expr}{f1 f2:EF}(hnl:Sg.globs[gl]? =some lx)(hvl:BK mg mb lx (.type "list"))(hnz:Sg.globs[gz]? =some zx)(hvz:BK mg mb zx (.type "zip"))(h1:PO prog w AA n Sg e1 f1)(h2:PO prog w AA n Sg e2 f2)
  (hs1:∀env,starEach [e1,e2] env=(false,eval e1 env)::starEach [e2] env)(hs2:∀env,starEach [e2] env=(false,eval e2 env)::starEach [] env)(hs3:∀env,starEach [.Call (.Name zx zp) [e1,e2] [] zpos] env=(false,eval (.Call (.Name zx zp) [e1,e2] [] zpos) env)::starEach [] env):
  PN prog w AA n Sg (.Call (.Name lx lp) [.Call (.Name zx zp) [e1,e2] [] zpos] [] pos) (λρ=>(f1 ρ).bind λa=>(f2 ρ).bind λb=>(CX a).bind λas=>(CX b).bind λbs=>if as.length=bs.length∧as.length≤100000 then some (List.zipWith (λa b=>D.tup [a,b]) as bs)else none):=by
 refine λenv A s ρ out hid he ow la E H hA S hf=>AK hf λa ha hf=>AK hf λb hb hf=>AK hf λas ea hf=>AK hf λbs eb hf=>CV hf λhl=>?_;rw[L3 ea]at ha;rw[L3 eb]at hb;have hp1:DK [.Call (.Name zx zp) [e1,e2] [] zpos]:=AO hs3 AW;have hp2:DK [e1,e2]:=AO hs1 (AO hs2 AW);have gl:=S.base.trans S.keep;refine(?_:wpAny (model prog w) A (do callWith pos (←eval (.Name lx lp) env) [] (backTo pos (starEach [.Call (.Name zx zp) [e1,e2] [] zpos] env)) (backToKw pos (keywordEach [] env))) _ E s);refine wpAny_bind (IE B H hnl hvl gl (JX nofun (by rw[HX];exact hp1 env) (GC hp1 (wpAny_items_cons (?_:wpAny (model prog w) A (do callWith zpos (←eval (.Name zx zp) env) [] (backTo zpos (starEach [e1,e2] env)) (backToKw zpos (keywordEach [] env))) _ E s) (hs3 env)))));refine wpAny_bind (IE B H hnz hvz gl (JX nofun (by rw[HX];exact hp2 env) (GC hp2 (BD ((BT h1 (BT h2 BX hs2) hs1) env A s ρ [.lst as,.lst bs] hid he ow la zpos E H hA S (by show(f1 ρ).bind _=_;rw[ha];show((f2 ρ).bind _).bind _=_;rw[hb];rfl)) λus AB x=>?_))));have A6:=x.k;obtain⟨va,vb,e,da,db⟩:=x.d.two;obtain⟨l1,xs,e1',hl1,hd1⟩:=da.lst;obtain⟨l2,ys,e2',hl2,hd2⟩:=db.lst;rw[e,e1',e2'];refine call_zip_2 hl1 hl2 λh' z1 z2 z3 z4 z5 z6 z7=>wpAny_items_nil ?_;have l1l:l1<AB.heap.objs.size:=hl1.elim λV e=>Heap.lt_size e.1;have l2l:l2<AB.heap.objs.size:=hl2.elim λV e=>Heap.lt_size e.1;exact BD (Qc (AB:=AB) (hid:=AY hid ow) hA (zipApart_new l1l l2l) z2 ⟨_,_,z3⟩ z4 z5 (hl1.at λo e=>z7 _ o e) (hl2.at λo e=>z7 _ o e) z1 (hd1.length▸hl.2) (hd1.length.trans (hl.1.trans hd2.length.symm)) (λb o hb=>(have q:=Heap.lt_size hb;by refine⟨?_,?_,?_,?_⟩<;>lia)) ⟨h',AB.toks,rfl,z7⟩ hd1 hd2 (S.grows A6.grows).hidOK) λv BI y=>U5 A6 y
theorem Qw(ig iff:Nat){gx fx:Str}{bg bf:Bool}{gp fp ap pp pcp tp pos spos:Pos}{k:Nat}{ix e2:Expr}{fi fe:EF}(hgf:ig≠iff)(hng:Sg.names[ig]? =some (gx,bg))(hnf:Sg.names[iff]? =some (fx,bf))(hi:PE prog w AA n Sg ix fi)(he2:PE prog w AA n Sg e2 fe)
  (hs1:∀env,starEach [.Tuple [.Call (.Attribute (.Name fx fp) "pop" pp) [ix] [] pcp,e2] k tp] env=(false,eval (.Tuple [.Call (.Attribute (.Name fx fp) "pop" pp) [ix] [] pcp,e2] k tp) env)::starEach [] env)
  (hs2:∀env,starEach [.Call (.Attribute (.Name fx fp) "pop" pp) [ix] [] pcp,e2] env=(false,eval (.Call (.Attribute (.Name fx fp) "pop" pp) [ix] [] pcp) env)::starEach [e2] env)(hs3:∀env,starEach [e2] env=(false,eval e2 env)::starEach [] env)(hs4:∀env,starEach [ix] env=(false,eval ix env)::starEach [] env)
  (hl1:(ap.endLine==pos.line)=true)(hl2:(pp.endLine==pcp.line)=true)(hint:∀env:Env,env.scope.kind=.function→interactive env=false):
  XS prog w AA n Sg (.Expr (.Call (.Attribute (.Name gx gp) "append" ap) [.Tuple [.Call (.Attribute (.Name fx fp) "pop" pp) [ix] [] pcp,e2] k tp] [] pos) spos) (λρ=>D9 ρ[ig]? λp1 gs=>D9 ρ[iff]? λp2 fs=>(fi ρ).bind λii=>(B6 ii).bind λi=>if H5 i fs then(fs[i.toNat]?).bind λx=>
   (fe (ρ.set iff (.own (.list p2) (fs.eraseIdx i.toNat)))).bind λy=>(HY gs [.tup [x,y]]).map λgs'=>(.next,(ρ.set iff (.own (.list p2) (fs.eraseIdx i.toNat))).set ig (.own (.list p1) gs'))else none):=by
 refine λenv A s ρ ρ' out hid he ow la E H hA S hf=>MC hf λp1 gs hvg hf=>MC hf λp2 fs hvf hf=>AK hf λii hfi hf=>AK hf λi ei hf=>DM hf λhin hf=>AK hf λx hx hf=>AK hf λy hy hf=>KT hf λgs' hgs=>?_;rw[HW ei]at hfi;have hin:=cF hin;have hpt:DK [.Tuple [.Call (.Attribute (.Name fx fp) "pop" pp) [ix] [] pcp,e2] k tp]:=AO hs1 AW;have hpi:DK [ix]:=AO hs4 AW;refine(I3 S hng hvg).casesOn λlg hlag hxg hlog V vg hplg hdg=>(I3 S hnf hvf).casesOn λlf hlaf hxf hlof V vf hplf hdf=>?_;refine wpAny_Expr (wpAny_Call_method rfl (NC hpt (by simp)) hl1 PySem.F.plainAttrs_list PySem.F.slot_list_append PySem.F.type_list_append (FG H hng hxg ⟨hplg.isList.typeIs,λa e=>hplg.elim λk r=>⟨_,Value.ref.inj e▸r,rfl⟩,JX nofun (by rw[HX];exact hpt env) (GC hpt (wpAny_items_cons (wpAny_Tuple (wpAny_items_cons
  (wpAny_Call_method rfl (NC hpi (by simp)) hl2 PySem.F.plainAttrs_list PySem.F.slot_list_pop PySem.F.type_list_pop (FG H hnf hxf ⟨hplf.isList.typeIs,λa e=>hplf.elim λk r=>⟨_,Value.ref.inj e▸r,rfl⟩,JX nofun (by rw[HX];exact hpi env) (GC hpi (wp_g (N6 hi hs4 env A s ρ [.int i] hid he ow la pcp E H hA S (by show(fi ρ).map _=_;rw[hfi];rfl)) λus AB du A6=>?_))⟩)) (hs2 env))) (hs1 env)))⟩)) (hint env H.kind) rfl
 refine du.one_inv.elim λiv wz=>wz.2.int_inv.elim λti et=>hplf.elim λkf hplf=>?_;rw[wz.1,et];have BS:=S.grows A6.grows;have cA:=A6.grows _ _ hplf;have oW:=hdf.mono (DJ A6.grows);have hlen:=hdf.length;have hlt:i.toNat<vf.length:=by lia
 refine(oW.get hx).elim λxv qx=>call_meets PySem.F.slot_list_pop ⟨_,cA,rfl⟩ PySem.F.entry_list_pop (PySem.F.args_list_pop_2 _ _) (PySem.MeetsSeq.list_pop_at lf vf.toArray kf i ti i.toNat xv (PySem.fitsIndex_of hin.1.1 (by lia)) (r0 hin.1.1 hlt) ((List.getElem?_toArray ..).trans qx.1) (by rw[List.size_toArray,sizeLine_eq];lia)) ⟨cA,?_⟩;have pu:=PX (λxs:Array Value=>xs.eraseIdxIfInBounds i.toNat) ⟨kf,cA⟩;rw[show vf.toArray.eraseIdxIfInBounds i.toNat=(vf.eraseIdx i.toNat).toArray by rw[Array.eraseIdxIfInBounds,dif_pos (show i.toNat<vf.toArray.size from hlt),List.eraseIdx_toArray]]at pu;refine(?_:wpAny (model prog w) A _ _ E {AB with heap:=AB.heap.update lf (Obj.mapSeq λxs=>xs.eraseIdxIfInBounds i.toNat)});generalize AB.heap.update lf (Obj.mapSeq λxs=>xs.eraseIdxIfInBounds i.toNat)=h2 at pu⊢
 have v2:=GP (hid:=AY hid ow) (.inr hlof) pu.2;have B4:AV AA Sg env hid he ow la ({AB with heap:=h2}:Shared).heap _:=pu.1.elim λk2 q1=>BS.lstUpd hnf hvf hlaf pu.2 q1 ((oW.erase i.toNat).mono v2);refine wp_g (N6 he2 hs3 env A {AB with heap:=h2} _ [y] hid he ow la tp E H hA B4 (by show(fe _).map _=_;rw[hy];rfl)) λws BI dw EJ=>⟨by rw[List.length_cons,dw.length];show 2≤sizeLine;rw[sizeLine_eq];decide,wpAny_items_nil ?_⟩;have DG:=B4.grows EJ.grows;have dtup:=bD (n:=0) DG.hidOK (AJ.cons ((qx.2.mono v2).mono (DJ EJ.grows)) dw);have LJ:=Kp.push BI {cls:=.type "tuple",data:=.seq (xv::ws).toArray};have E4:=DG.grows LJ.grows;have hvg':(ρ.set iff (.own (.list p2) (fs.eraseIdx i.toNat)))[ig]? =some (.own (.list p1) gs):=(List.getElem?_set_ne (Ne.symm hgf)).trans hvg;refine(I3 E4 hng hvg').casesOn λlg' hlag' V hlog' V vg' hplg' hdg'=>BD (NU (n:=n) A {BI with heap:=BI.heap.push {cls:=.type "tuple",data:=.seq (xv::ws).toArray}} (AY hid ow) lg vg' _ gs [.tup [x,y]] gs' E hA (.inr hlog) (Option.some.inj (hlag'.symm.trans hlag)▸hplg') hdg' (.cons dtup .nil) hgs) λv KC z=>z.casesOn λev vs' h' tk es5 Ge hp' hd'=>?_;rw[ev,es5];exact hp'.elim λk' e'=>qF E4 ((((Mv.of_kp A6).trans ⟨⟨h2,AB.toks,rfl⟩,λb o nb e=>pu.2 b o (λq=>nb (q▸hlof)) e,λb hb=>.inl hb⟩).trans (.of_kp EJ)).trans (.of_kp LJ)) hng hvg' hlag hlog Ge e' hd'
theorem P7{env:Env}(H:CN Sg env){i:Nat}{x:Str}(hn:Sg.names[i]? =some (x,false))(value:Expr)(p:Pos)(line:Nat):swapsWith value (some (.Name x p)) line env=pure false:=by
 have e:∀a b c:Bool,(a&&env.kindOf x==some NameKind.local&&b&&c)=false:= λa b c=>by
  rw[show(env.kindOf x==some NameKind.local)=false from(H.cel i x hn).elim (λq=>by rw[q];rfl) λq=>by rw[q];rfl,Bool.and_false];rfl
 cases value<;>first|rfl|exact congrArg pure (e _ _ _)
def UI(i:Nat)(ρ:List LV):Option D:=NH ρ[i]? λV V V ds=>EO some ds
theorem Ko(i:Nat){x:Str}{b:Bool}{pos:Pos}(hn:Sg.names[i]? =some (x,b)):PE prog w AA n Sg (.Name x pos) (UI i):=
 λenv A s ρ d hid he ow la E H V S hf=>bV hf λp c q ds hv hf=>(sX S hn hv).casesOn λP v ps d0 e0 V h2 V V V V V V V h10=>FG H hn h2 (by
  subst e0;exact⟨Option.some.inj hf▸h10,Kp.refl s⟩)
end
end
noncomputable def qH:List Stmt:=PySem.Challenge.pw_ty0068_01.main.body
noncomputable def C3:Stmt→List Stmt
 |.FunctionDef _ _ b _ _ _ _ _ _ _=>b
 |.ClassDef _ _ _ b _ _ _ _ _ _ _=>b
 |_=>[]
noncomputable def U7:Nat→List Stmt→Stmt
 |_,[]=>.Pass default
 |0,a::_=>a
 |n+1,_::r=>U7 n r
def Dv(k:Nat):Stmt:=U7 k qH
def C9(k j:Nat):Stmt:=U7 j (C3 (U7 k qH))
def DH(k:Nat):List Stmt:=C3 (Dv k)
def GR(prog:Program)(w:World)(AA:Heap)(mg:Str→Option Value)(n:Nat)(x:Str)(G:DF):Prop:=
 ∃fa o fd,mg x=some (.ref fa)∧AA.get? fa=some o∧o.data=.func fd∧CK prog w AA n fa G
section
variable{prog:Program}{w:World}{AA:Heap}{n:Nat}{Sg:AP}{mg mb:Str→Option Value}
theorem MN(B:B0 AA mg mb)(i:Nat){x:Str}{p pos:Pos}{es:List Expr}{g:DF}{f:List LV→Option (List D)}(hn:Sg.globs[i]? =some x)(hf:GR prog w AA mg n x g)(hp:DK es)(h:FM prog w AA n Sg es f):
  PE prog w AA n Sg (.Call (.Name x p) es [] pos) (λρ=>(f ρ).bind g):=by
 obtain⟨fa,o,fd,h1,h2,h3,h4⟩:=hf;exact Kj B i hn h1 h2 h3 h4 hp h
theorem J4:∀env:Env,env.scope.kind=.function→interactive env=false:= λenv h=>by
 unfold interactive;rw[h];rfl
end
section
variable(mg:Str→Option Value)(fdk:FuncData)(yk:Str)(fk:D→D→Option D)(aN:Addr)(aV:Addr)(ok:Addr→Str→Bool)(H:Addr)(W:Addr)(QM:KF)(G1:DF)(G2:DF)(C:Addr)(FD:GF)(Gn:DF)(I7:DF)(IK:DF)(B1:DF)(Gt:DF)(C7:DF)(CL:DF)(D3:DF)(GnW:DF)(QN:DF)(KE:DF)(FH:DF)(EY:DF)(D2:DF)(Gins:GF)(Gbis:DF)(gk2:D→List D→Option D)(E3:DF)(GS:KF)(LD:GF)
def fU:PF:=λρ=>Option.map (λd=>(AC.next,ρ.set 5 (LV.d d))) (((AD 2 ρ).bind λa=>(AD 3 ρ).bind λb=>BW a b).bind λa=>(some (D.int 2)).bind λb=>FO a b)
def VU:PF:=λρ=>(((AD 4 ρ).bind λk=>(((AM 0 ρ).bind λa=>(AD 5 ρ).bind λb=>BL a b).bind λa=>(some []).bind λl=>some (a::l)).bind λds=>GI fdk yk fk k ds).bind λa=>(AM 1 ρ).bind λb=>J0 a b).bind λc=>if c=true then AG (λρ=>Option.map (λd=>(AC.next,ρ.set 2 (LV.d d))) ((AD 5 ρ).bind λa=>(some (D.int 1)).bind λb=>BW a b)) (λρ=>some (AC.next,ρ)) ρ else AG (λρ=>Option.map (λd=>(AC.next,ρ.set 3 (LV.d d))) (AD 5 ρ)) (λρ=>some (AC.next,ρ)) ρ
def fT:PF:=AG (VU fdk yk fk) (λρ=>some (AC.next,ρ))
def SS:PF:=AG fU (fT fdk yk fk)
def fW:PF:=λρ=>Option.map (λd=>(AC.next,ρ.set 5 (LV.d d))) (((AD 2 ρ).bind λa=>(AD 3 ρ).bind λb=>BW a b).bind λa=>(some (D.int 2)).bind λb=>FO a b)
def VV:PF:=λρ=>(((AM 0 ρ).bind λa=>(AD 5 ρ).bind λb=>BL a b).bind λa=>(AM 1 ρ).bind λb=>J0 a b).bind λc=>if c=true then AG (λρ=>Option.map (λd=>(AC.next,ρ.set 2 (LV.d d))) ((AD 5 ρ).bind λa=>(some (D.int 1)).bind λb=>BW a b)) (λρ=>some (AC.next,ρ)) ρ else AG (λρ=>Option.map (λd=>(AC.next,ρ.set 3 (LV.d d))) (AD 5 ρ)) (λρ=>some (AC.next,ρ)) ρ
def fV:PF:=AG VV (λρ=>some (AC.next,ρ))
def ST:PF:=AG fW fV
def QI:PF:=λρ=>((AM 2 ρ).bind λa=>(some (D.int 0)).bind λb=>J0 a b).bind λc=>if c=true then AG (λx=>none) (λρ=>some (AC.next,ρ)) ρ else some (AC.next,ρ)
def QJ:PF:=λρ=>((AM 3 ρ).bind λa=>(some D.none).bind λb=>F8 a b).bind λc=>if c=true then AG (λρ=>Option.map (λd=>(AC.next,ρ.set 3 (LV.d d))) (((AM 0 ρ).bind λa=>(some []).bind λl=>some (a::l)).bind GA)) (λρ=>some (AC.next,ρ)) ρ else some (AC.next,ρ)
def QK:PF:=λρ=>((AM 4 ρ).bind λa=>(some D.none).bind λb=>F8 a b).bind λc=>if c=true then AG (IC (λρ=>(AM 2 ρ).bind λa=>(AM 3 ρ).bind λb=>J0 a b) ST 12) (λρ=>some (AC.next,ρ)) ρ else AG (IC (λρ=>(AM 2 ρ).bind λa=>(AM 3 ρ).bind λb=>J0 a b) (SS fdk yk fk) 12) (λρ=>some (AC.next,ρ)) ρ
def uA:PF:=λρ=>Option.map (λd=>(AC.ret d,ρ)) (AD 2 ρ)
def t9:PF:=AG uA (λρ=>some (AC.next,ρ))
def VX:PF:=AG (QK fdk yk fk) t9
def VW:PF:=AG QJ (VX fdk yk fk)
def QH:PF:=AG QI (VW fdk yk fk)
def gN:PF:=λρ=>((AM 4 ρ).bind λa=>(some D.none).bind λb=>F8 a b).bind λc=>if c=true then AG (λx=>none) (λρ=>some (AC.next,ρ)) ρ else AG (λρ=>Option.map (λd=>(AC.next,ρ.set 2 (LV.d d))) (((AM 0 ρ).bind λa=>(((AD 4 ρ).bind λk=>((AD 1 ρ).bind λa=>(some []).bind λl=>some (a::l)).bind λds=>GI fdk yk fk k ds).bind λa=>((AM 2 ρ).bind λa=>((AM 3 ρ).bind λa=>(some []).bind λl=>some (a::l)).bind λl=>some (a::l)).bind λl=>some (a::l)).bind λl=>some (a::l)).bind λds=>(AD 4 ρ).bind λe=>(QM ds e).bind λd=>if E9 d=true then some d else none)) (λρ=>some (AC.next,ρ)) ρ
def gO:PF:=λρ=>D9 ρ[0]? λp ds=>((AD 2 ρ).bind λa=>((AD 1 ρ).bind λa=>(some []).bind λl=>some (a::l)).bind λl=>some (a::l)).bind λes=>Option.map (λds'=>(AC.next,ρ.set 0 (LV.own (BE.list p) ds'))) (aM ds es)
def gM:PF:=AG gO (λρ=>some (AC.next,ρ))
def OK:PF:=AG (gN fdk yk fk QM) gM
def fX:PF:=λρ=>((((AM 1 ρ).bind λa=>(some []).bind λl=>some (a::l)).bind RB).bind λa=>(some (D.ty "str")).bind λb=>F8 a b).bind λc=>if c=true then AG (λρ=>Option.map (λd=>(AC.next,ρ.set 3 (LV.d d))) (((AD 2 ρ).bind HH).bind λc=>if c=true then some (D.adr aN)else some (D.adr aV))) (AG (λρ=>(((AD 3 ρ).bind λa=>(AD 1 ρ).bind λx=>(QW a).bind λa=>(E6 x).bind λx=>if ok a x=true then some D.none else none).bind HH).bind λc=>if c=true then AG (λx=>none) (λρ=>some (AC.next,ρ)) ρ else some (AC.next,ρ)) (AG (λρ=>Option.map (λd=>(AC.ret d,ρ)) (AD 1 ρ)) λρ=>some (AC.next,ρ))) ρ else some (AC.next,ρ)
noncomputable def uC:PF:=λx=>none
def uB:PF:=AG uC (λρ=>some (AC.next,ρ))
def VY:PF:=AG (fX aN aV ok) uB
noncomputable def uK:PF:=λx=>none
noncomputable def uL:PF:=λx=>none
def uJ:PF:=AG uL (λρ=>some (AC.next,ρ))
def uI:PF:=AG uK uJ
def gE:PF:=λρ=>Option.map (λd=>(AC.next,ρ.set 1 (LV.d d))) (((AM 1 ρ).bind λa=>(some D.none).bind λb=>Option.map (λx=> !x) (F8 a b)).bind λc=>if c=true then AD 1 ρ else(some []).bind λl=>if BG l=true then some (D.lst l)else none)
def gF:PF:=λρ=>((((AM 1 ρ).bind λa=>(some []).bind λl=>some (a::l)).bind RB).bind λa=>(some (D.ty "list")).bind λb=>Option.map (λx=> !x) (F8 a b)).bind λc=>if c=true then AG (λx=>none) (λρ=>some (AC.next,ρ)) ρ else some (AC.next,ρ)
def gG:PF:=λρ=>(AD 1 ρ).bind λd=>J2 ρ[0]? λp C' ns ds=>if C'=C∧¬Str.ofString "_headers"∈ns∧ns.length<900 then some (AC.next,ρ.set 0 (LV.own (BE.ins p C' (ns++[Str.ofString "_headers"])) (ds++[d])))else none
def uM:PF:=λρ=>((some (D.bool true)).bind HH).bind λc=>if c=true then AG (λρ=>((AD 1 ρ).bind DQ).bind λds=>B7 (λρ d=>Option.map (λds=>A4 ρ [2,3] ds) (D5 [2,3].length d)) uI ds ρ) (λρ=>some (AC.next,ρ)) ρ else some (AC.next,ρ)
def gD:PF:=AG uM (λρ=>some (AC.next,ρ))
def gC:PF:=AG (gG C) gD
def gB:PF:=AG gF (gC C)
def V8:PF:=AG gE (gB C)
def gJ:PF:=λρ=>(AD 1 ρ).bind λk=>GE ρ[0]? λp C' ds=>if C'=C then Option.map (λds'=>(AC.next,ρ.set 0 (LV.own (BE.hdr p C') ds'))) (LD ds [k] [])else none
def gK:PF:=λρ=>GE ρ[0]? λp C' ds=>if C'=C then(((GE ρ[0]? λx C' ds=>if C'=C then((AD 1 ρ).bind λa=>(some []).bind λl=>some (a::l)).bind λl=>(some (D.bool true)).bind λe=>(GS (D.obj C' [Str.ofString "_headers"] [D.lst ds]::l) e).bind λd=>if E9 d=true then some d else none else none).bind λa=>((GE ρ[0]? λx C' ds=>if C'=C then((AD 2 ρ).bind λa=>(some []).bind λl=>some (a::l)).bind λl=>(some (D.bool false)).bind λe=>(GS (D.obj C' [Str.ofString "_headers"] [D.lst ds]::l) e).bind λd=>if E9 d=true then some d else none else none).bind λa=>(some []).bind λl=>some (a::l)).bind λl=>some (a::l)).bind λl=>if BG l=true then some (D.tup l)else none).bind λd=>Option.map (λds'=>(AC.next,ρ.set 0 (LV.own (BE.hdr p C') ds'))) (HY ds [d])else none
def gI:PF:=AG (gK C GS) (λρ=>some (AC.next,ρ))
def V':PF:=AG (gJ C LD) (gI C GS)
def V2:EF:=AD 0
def V3:TF:=λρ=>(((AM 0 ρ).bind λa=>(some (D.int 0)).bind λb=>BL a b).bind λr=>if Mine.isStr r=true then(some []).bind λl=>JH (r::l)else none).bind λa=>(AM 1 ρ).bind λb=>FS a b
def f8:PF:=λρ=>Option.map (λd=>(AC.next,ρ.set 1 (LV.d d))) (GE ρ[0]? λx C' ds=>if C'=C then(((AM 1 ρ).bind λr=>if Mine.isStr r=true then(some []).bind λl=>JH (r::l)else none).bind λa=>(some []).bind λl=>some (a::l)).bind λl=>(some (D.bool true)).bind λe=>(GS (D.obj C' [Str.ofString "_headers"] [D.lst ds]::l) e).bind λd=>if E9 d=true then some d else none else none)
def f9:PF:=λρ=>(Option.map D.lst (((GE ρ[0]? λx C' ds=>if C'=C then some (D.lst ds)else none).bind DQ).bind λds=>(C0 ρ [(1,1)] (AX 2)).bind λρi=>B2 (BN (λρ d=>some (ρ.set 0 (LV.d d))) V3 V2 ρi) ds)).bind λd=>GE ρ[0]? λp C' ds=>(CX d).bind λes=>if C'=C∧ds.length≤100000∧es.length≤100000 then some (AC.next,ρ.set 0 (LV.own (BE.hdr p C') es))else none
def f7:PF:=AG (f9 C) (λρ=>some (AC.next,ρ))
def V1:PF:=AG (f8 C GS) (f7 C)
def V5:PF:=λρ=>(((AM 3 ρ).bind λr=>if Mine.isStr r=true then(some []).bind λl=>JH (r::l)else none).bind λa=>(AM 1 ρ).bind λb=>EU a b).bind λc=>if c=true then AG (λρ=>Option.map (λd=>(AC.ret d,ρ)) (AD 4 ρ)) (λρ=>some (AC.next,ρ)) ρ else some (AC.next,ρ)
def SU:PF:=AG V5 (λρ=>some (AC.next,ρ))
def V6:PF:=λρ=>Option.map (λd=>(AC.next,ρ.set 1 (LV.d d))) ((AD 0 ρ).bind λx=>EW x λC' ns ds=>if C'=C∧¬Str.ofString "_convert_string_type"∈ns then(((AM 1 ρ).bind λr=>if Mine.isStr r=true then(some []).bind λl=>JH (r::l)else none).bind λa=>(some []).bind λl=>some (a::l)).bind λl=>(some (D.bool true)).bind λe=>GS (x::l) e else none)
def V7:PF:=λρ=>(((AD 0 ρ).bind (ES C "_headers")).bind DQ).bind λds=>B7 (λρ d=>Option.map (λds=>A4 ρ [3,4] ds) (D5 [3,4].length d)) SU ds ρ
def uH:PF:=λρ=>Option.map (λd=>(AC.ret d,ρ)) (AD 2 ρ)
def uG:PF:=AG uH (λρ=>some (AC.next,ρ))
def gA:PF:=AG (V7 C) uG
def V4:PF:=AG (V6 C GS) (gA C)
def gH:PF:=λρ=>Option.map (λd=>(AC.ret d,ρ)) (((AD 0 ρ).bind (ES C "_headers")).bind aI)
def V9:PF:=AG (gH C) (λρ=>some (AC.next,ρ))
def X3:PF:=λρ=>Option.map (λd=>(AC.next,ρ.set 8 (LV.d d))) (GE ρ[10]? λx C' ds=>if C'=C then(((((some (D.int 97)).bind λa=>(AD 7 ρ).bind λb=>BW a b).bind λa=>(some []).bind λl=>some (a::l)).bind G5).bind λa=>(some []).bind λl=>some (a::l)).bind λl=>(B1 (D.obj C' [Str.ofString "_headers"] [D.lst ds]::l)).bind λd=>if E9 d=true then some d else none else none)
def S9:PF:=λρ=>(((AM 8 ρ).bind λa=>(some D.none).bind λb=>F8 a b).bind λb=>if b=true then some true else(((AD 8 ρ).bind λa=>((AD 6 ρ).bind λa=>((AD 1 ρ).bind λa=>((AD 2 ρ).bind λa=>(some []).bind λl=>some (a::l)).bind λl=>some (a::l)).bind λl=>some (a::l)).bind λl=>some (a::l)).bind Gt).bind HH).bind λc=>if c=true then AG (λρ=>(AD 6 ρ).bind λd=>((((((((AM 6 ρ).bind λr=>if Mine.isStr r=true then((some (D.str "\t")).bind λa=>(some []).bind λl=>some (a::l)).bind λl=>Q6 (r::l)else none).bind λa=>(some (D.int 2)).bind λb=>CZ a b).bind HH).bind λc=>if c=true then some (D.int 65)else some (D.int 97)).bind λa=>(AD 7 ρ).bind λb=>BW a b).bind λa=>(some []).bind λl=>some (a::l)).bind G5).bind λk=>GE ρ[10]? λp C' ds=>if C'=C then Option.map (λds'=>(AC.next,ρ.set 10 (LV.own (BE.hdr p C') ds'))) (FD ds [k,d] [])else none) (AG (λρ=>Option.map (λd=>(AC.next,ρ.set 6 (LV.d d))) (AD 8 ρ)) λρ=>some (AC.next,ρ)) ρ else some (AC.next,ρ)
def i8:PF:=λρ=>((AM 6 ρ).bind λa=>(some D.none).bind λb=>F8 a b).bind λc=>if c=true then AG (λρ=>some (AC.brk,ρ)) (λρ=>some (AC.next,ρ)) ρ else some (AC.next,ρ)
def i9:PF:=λρ=>Option.map (λds=>(AC.next,A4 ρ [6,7] ds)) ((((((AD 3 ρ).bind λa=>(some (D.str "\t")).bind λb=>BW a b).bind λa=>(AD 6 ρ).bind λb=>BW a b).bind λa=>((((AD 7 ρ).bind λa=>(some (D.int 1)).bind λb=>BW a b).bind λa=>(AD 4 ρ).bind λb=>CZ a b).bind λa=>(some []).bind λl=>some (a::l)).bind λl=>some (a::l)).bind λl=>if BG l=true then some (D.tup l)else none).bind (D5 [6,7].length))
def i7:PF:=AG i9 (λρ=>some (AC.next,ρ))
def S8:PF:=AG i8 i7
def i6:PF:=AG (S9 C FD Gt) S8
def S7:PF:=AG (X3 C B1) (i6 C FD Gt)
def jB:PF:=λρ=>Option.map (λds=>(AC.next,A4 ρ [6,7] ds)) (((((((some (D.int 97)).bind λa=>(AD 5 ρ).bind λb=>BW a b).bind λa=>(some []).bind λl=>some (a::l)).bind G5).bind λa=>(((AM 0 ρ).bind λa=>(AD 5 ρ).bind λb=>BL a b).bind λa=>(some []).bind λl=>some (a::l)).bind λl=>some (a::l)).bind λl=>if BG l=true then some (D.tup l)else none).bind (D5 [6,7].length))
def jC:PF:=λρ=>(((AD 4 ρ).bind λa=>(some []).bind λl=>some (a::l)).bind GU).bind λds=>B7 (λρ d=>some (ρ.set 9 (LV.d d))) (S7 C FD B1 Gt) ds ρ
def jA:PF:=AG (jC C FD B1 Gt) (λρ=>some (AC.next,ρ))
def TA:PF:=AG jB (jA C FD B1 Gt)
noncomputable def jE:PF:=λρ=>some (AC.next,ρ.set 10 (LV.own (BE.hdr none C) []))
def X4:PF:=λρ=>(((((AM 0 ρ).bind λa=>(some []).bind λl=>some (a::l)).bind GA).bind λa=>(some []).bind λl=>some (a::l)).bind GU).bind λds=>B7 (λρ d=>some (ρ.set 5 (LV.d d))) (TA C FD B1 Gt) ds ρ
def vQ:PF:=λρ=>Option.map (λd=>(AC.ret d,ρ)) (AD 10 ρ)
def vR:PF:=AG vQ (λρ=>some (AC.next,ρ))
def vM:PF:=NI 10 vR
def jD:PF:=AG (X4 C FD B1 Gt) vM
def X2:PF:=AG (jE C) (jD C FD B1 Gt)
def WA:EF:=λρ=>(((AM 1 ρ).bind λa=>(AD 0 ρ).bind λb=>BL a b).bind λa=>(some []).bind λl=>some (a::l)).bind M8
noncomputable def XH:TF:=λx=>some true
def WL:EF:=λρ=>((AM 1 ρ).bind λa=>(AD 0 ρ).bind λb=>BL a b).bind λx=>EW x λC' ns ds=>if C'=W∧¬Str.ofString "longest_run_of_spaces"∈ns then(some []).bind λl=>CL (x::l)else none
noncomputable def XR:TF:=λx=>some true
def WN:EF:=λρ=>(AM 1 ρ).bind λr=>if Mine.isStr r=true then((some (D.str "\t")).bind λa=>(some []).bind λl=>some (a::l)).bind λl=>Q6 (r::l)else none
noncomputable def iU:TF:=λx=>some true
def WO:EF:=λρ=>Option.map D.lst (((AM 0 ρ).bind DQ).bind λds=>(C0 ρ [] (AX 2)).bind λρi=>B2 (BN (λρ d=>Option.map (λds=>A4 ρ [0,1] ds) (D5 [0,1].length d)) iU WN ρi) ds)
noncomputable def XT:TF:=λx=>some true
def WP:EF:=λρ=>((((((AM 0 ρ).bind λr=>if Mine.isStr r=true then(some []).bind λl=>JH (r::l)else none).bind λa=>(some []).bind λl=>some (a::l)).bind O6).bind λa=>(some (D.int 97)).bind λb=>EN a b).bind λa=>((((((AM 1 ρ).bind λa=>((some (D.int 1)).bind GT).bind λb=>BL a b).bind λa=>(some []).bind λl=>some (a::l)).bind O6).bind λa=>(some (D.int 97)).bind λb=>EN a b).bind λa=>(some []).bind λl=>some (a::l)).bind λl=>some (a::l)).bind λl=>if BG l=true then some (D.tup l)else none
noncomputable def iT:TF:=λx=>some true
def gP:PF:=λρ=>D9 ρ[8]? λp1 gs=>D9 ρ[6]? λp2 fs=>((((AM 6 ρ).bind λa=>(((AM 24 ρ).bind λa=>(AD 1 ρ).bind λb=>BL a b).bind λa=>(some []).bind λl=>some (a::l)).bind λl=>some (a::l)).bind λds=>(Gbis ds).bind λd=>if E9 d=true then some d else none).bind λa=>(((AM 6 ρ).bind λa=>(some []).bind λl=>some (a::l)).bind GA).bind λb=>CZ a b).bind λii=>(B6 ii).bind λi=>if H5 i fs=true then fs[i.toNat]?.bind λx=>(AD 1 (ρ.set 6 (LV.own (BE.list p2) (fs.eraseIdx i.toNat)))).bind λy=>Option.map (λgs'=>(AC.next,(ρ.set 6 (LV.own (BE.list p2) (fs.eraseIdx i.toNat))).set 8 (LV.own (BE.list p1) gs'))) (HY gs [D.tup [x,y]])else none
def SW:PF:=AG (gP Gbis) (λρ=>some (AC.next,ρ))
def WC:EF:=λρ=>(some (D.str " ")).bind λa=>((((AD 0 ρ).bind λa=>(some []).bind λl=>some (a::l)).bind GnW).bind (ES W "nt")).bind λb=>KO a b
def XD:TF:=λρ=>(AM 0 ρ).bind λa=>(some D.none).bind λb=>Option.map (λx=> !x) (F8 a b)
def WD:EF:=λρ=>(AD 1 ρ).bind λx=>EW x λC' ns ds=>if C'=H∧¬Str.ofString "get"∈ns then(((((some (D.int 65)).bind λa=>(((AD 3 ρ).bind λa=>(AD 0 ρ).bind λb=>BW a b).bind λa=>(AD 2 ρ).bind λb=>CZ a b).bind λb=>BW a b).bind λa=>(some []).bind λl=>some (a::l)).bind G5).bind λa=>(some []).bind λl=>some (a::l)).bind λl=>B1 (x::l)else none
noncomputable def XE:TF:=λx=>some true
def gU:PF:=λρ=>Option.map (λd=>(AC.next,ρ.set 20 (LV.d d))) (((AD 24 ρ).bind λa=>((AD 13 ρ).bind λa=>((AD 3 ρ).bind λa=>((AD 7 ρ).bind λa=>((AD 17 ρ).bind λa=>(some []).bind λl=>some (a::l)).bind λl=>some (a::l)).bind λl=>some (a::l)).bind λl=>some (a::l)).bind λl=>some (a::l)).bind EY)
def gV:PF:=λρ=>Option.map (λout=>(AC.next,ρ.set 18 (LV.d (D.lst out)))) ((((AD 17 ρ).bind λa=>(some []).bind λl=>some (a::l)).bind GU).bind λds=>(C0 ρ [(1,20),(2,17),(3,19)] (AX 4)).bind λρi=>B2 (BN (λρ d=>some (ρ.set 0 (LV.d d))) XE (WD H B1) ρi) ds)
def gW:PF:=λρ=>Option.map (λd=>(AC.next,ρ.set 9 (LV.d d))) (((((some (D.str "\t")).bind λr=>if Mine.isStr r=true then((Option.map D.lst (((AM 18 ρ).bind DQ).bind λds=>(C0 ρ [] (AX 1)).bind λρi=>B2 (BN (λρ d=>some (ρ.set 0 (LV.d d))) XD (WC W GnW) ρi) ds)).bind λa=>(some []).bind λl=>some (a::l)).bind λl=>aP (r::l)else none).bind λa=>(some (D.str "x")).bind λb=>BW a b).bind λa=>(some []).bind λl=>some (a::l)).bind GnW)
def gX:PF:=λρ=>((((AD 9 ρ).bind (ES W "n")).bind λa=>(((AD 2 ρ).bind λa=>(some (D.int 1)).bind λb=>EN a b).bind λa=>(((AM 5 ρ).bind λa=>(some []).bind λl=>some (a::l)).bind RA).bind λb=>BW a b).bind λb=>FS a b).bind λb=>if b=true then some true else(Option.map D.lst ((((AD 20 ρ).bind λx=>EW x λC' ns ds=>if C'=H∧¬Str.ofString "items"∈ns then(some []).bind λl=>C7 (x::l)else none).bind λa=>(some []).bind λl=>some (a::l)).bind L6)).bind λa=>(Option.map D.lst ((((AM 4 ρ).bind λa=>(AD 3 ρ).bind λb=>BL a b).bind λa=>(some []).bind λl=>some (a::l)).bind L6)).bind λb=>FS a b).bind λc=>if c=true then AG (λρ=>Option.map (λd=>(AC.ret d,ρ)) (some (D.bool false))) (λρ=>some (AC.next,ρ)) ρ else some (AC.next,ρ)
def gY:PF:=λρ=>D9 ρ[10]? λp ds=>((AD 9 ρ).bind λa=>(some []).bind λl=>some (a::l)).bind λes=>Option.map (λds'=>(AC.next,ρ.set 10 (LV.own (BE.list p) ds'))) (HY ds es)
def gT:PF:=AG gY (λρ=>some (AC.next,ρ))
def gS:PF:=AG (gX H W C7) gT
def gR:PF:=AG (gW W GnW) (gS H W C7)
def gQ:PF:=AG (gV H B1) (gR H W C7 GnW)
def SX:PF:=AG (gU EY) (gQ H W B1 C7 GnW)
def WE:EF:=λρ=>((AD 1 ρ).bind λa=>((AD 2 ρ).bind λa=>((AD 0 ρ).bind λa=>((AD 3 ρ).bind λa=>((AD 4 ρ).bind λa=>((AD 5 ρ).bind λa=>(some []).bind λl=>some (a::l)).bind λl=>some (a::l)).bind λl=>some (a::l)).bind λl=>some (a::l)).bind λl=>some (a::l)).bind λl=>some (a::l)).bind FH
noncomputable def XF:TF:=λx=>some true
def WF:EF:=AD 0
def XG:TF:=λρ=>((AM 0 ρ).bind λa=>(AM 1 ρ).bind λb=>Option.map (λx=> !x) (aK a b)).bind λb=>if b=true then((AM 2 ρ).bind λa=>((AD 0 ρ).bind λa=>(some (D.int 1)).bind λb=>EN a b).bind λb=>BL a b).bind λa=>(some (D.int 0)).bind λb=>EU a b else some false
def WG:EF:=λρ=>((AM 1 ρ).bind λa=>(AD 0 ρ).bind λb=>BL a b).bind λa=>(AD 0 ρ).bind λb=>EN a b
noncomputable def XI:TF:=λx=>some true
noncomputable def WH:EF:=λx=>some (D.int 1)
def XJ:TF:=λρ=>(((AD 3 ρ).bind λa=>(AD 0 ρ).bind λb=>EN a b).bind λa=>(AD 2 ρ).bind λb=>CZ a b).bind λa=>(AM 1 ρ).bind λb=>J0 a b
def S2:EF:=λρ=>((Option.map D.lst (((AM 1 ρ).bind DQ).bind λds=>(C0 ρ [(1,0),(2,2),(3,3)] (AX 4)).bind λρi=>B2 (BN (λρ d=>some (ρ.set 0 (LV.d d))) XJ WH ρi) ds)).bind λa=>(some []).bind λl=>some (a::l)).bind GA
noncomputable def XK:TF:=λx=>some true
def g7:PF:=λρ=>Option.map (λd=>(AC.next,ρ.set 23 (LV.d d))) (Option.map D.lst ((((AD 2 ρ).bind λa=>(some []).bind λl=>some (a::l)).bind GU).bind λds=>(C0 ρ [(1,24),(2,17),(3,16)] (AX 4)).bind λρi=>B2 (BN (λρ d=>some (ρ.set 0 (LV.d d))) XK S2 ρi) ds))
def hJ:PF:=λρ=>D9 ρ[5]? λp ds=>((((Option.map D.lst ((((AD 2 ρ).bind λa=>(some []).bind λl=>some (a::l)).bind GU).bind λds=>(C0 ρ [(1,23)] (AX 2)).bind λρi=>B2 (BN (λρ d=>some (ρ.set 0 (LV.d d))) XI WG ρi) ds)).bind λa=>(some []).bind λl=>some (a::l)).bind M8).bind λa=>(some []).bind λl=>some (a::l)).bind λes=>Option.map (λds'=>(AC.next,ρ.set 5 (LV.own (BE.list p) ds'))) (HY ds es)
def gZ:PF:=AG hJ (λρ=>some (AC.next,ρ))
def SY:PF:=AG g7 gZ
def WI:EF:=λρ=>(AM 1 ρ).bind λr=>if cN r=true then((AM 0 ρ).bind λa=>(some []).bind λl=>some (a::l)).bind λl=>aL (r::l)else none
noncomputable def XM:TF:=λx=>some true
def hM:PF:=λρ=>NH ρ[0]? λx c' q' x_1=>(AD 15 ρ).bind λdy=>D9 ρ[14]? λp ds=>if c'=315∧q'=Str.ofString "law.<locals>."++Str.ofString "<lambda>" then(AD 1 ρ).bind λx=>(Gins ds [x] [D.clo (LK {posonlyargs:=[],args:=[{arg:=Str.ofString "each",annotation:=none,pos:={line:=268,col:=41,endLine:=268,endCol:=45}}],vararg:=none,kwonlyargs:=[],kw_defaults:=[],kwarg:=none,defaults:=[]} (((Expr.Name "seen" {line:=268,col:=47,endLine:=268,endCol:=51}).Subscript (Expr.Name "each" {line:=268,col:=52,endLine:=268,endCol:=56}) {line:=268,col:=47,endLine:=268,endCol:=57}).Subscript (Expr.Constant (Const.int 1) 0 {line:=268,col:=58,endLine:=268,endCol:=59}) {line:=268,col:=47,endLine:=268,endCol:=60}) {kind:=ScopeKind.function,names:=[(Str.ofString "each",NameKind.local),(Str.ofString "seen",NameKind.free)],isGenerator:=false,isCoroutine:=false} ((mg "__name__").getD Value.none)) [Str.ofString "seen"] [dy]]).bind λds'=>if ds'.all E9=true then some (AC.next,ρ.set 14 (LV.own (BE.list p) ds'))else none else none
def SZ:PF:=AG (hM mg Gins) (λρ=>some (AC.next,ρ))
def WJ:EF:=λρ=>((AD 0 ρ).bind λa=>((AD 1 ρ).bind λa=>(some []).bind λl=>some (a::l)).bind λl=>some (a::l)).bind KE
noncomputable def XN:TF:=λx=>some true
def WK:EF:=λρ=>(((AD 0 ρ).bind λa=>((some (D.int 12)).bind λa=>(AD 1 ρ).bind λb=>EH a b).bind λb=>FO a b).bind λa=>(some (D.int 8)).bind λb=>CZ a b).bind λa=>(some (D.int 1)).bind λb=>BW a b
noncomputable def XO:TF:=λx=>some true
def WM:EF:=λρ=>(AD 0 ρ).bind λa=>(AD 1 ρ).bind λb=>CZ a b
noncomputable def XQ:TF:=λx=>some true
def WQ:PF:=λρ=>Option.map (λd=>(AC.next,ρ.set 21 (LV.d d))) (((UI 0 ρ).bind λa=>(some []).bind λl=>some (a::l)).bind QN)
def W1:PF:=λρ=>Option.map (λds=>(AC.next,A4 ρ [17,2,7] ds)) (((((some (D.int 6)).bind λa=>(((AM 21 ρ).bind λa=>(some (D.int 5)).bind λb=>BL a b).bind λa=>(some (D.int 2)).bind λb=>CZ a b).bind λb=>BW a b).bind λa=>(((some (D.int 4)).bind λa=>((((AM 21 ρ).bind λa=>(some (D.int 5)).bind λb=>BL a b).bind λa=>(some (D.int 2)).bind λb=>FO a b).bind λa=>(some (D.int 2)).bind λb=>CZ a b).bind λb=>BW a b).bind λa=>(((some (D.str " ")).bind λa=>((((AM 21 ρ).bind λa=>(some (D.int 5)).bind λb=>BL a b).bind λa=>(some (D.int 4)).bind λb=>FO a b).bind λa=>(some (D.int 3)).bind λb=>CZ a b).bind λb=>KO a b).bind λa=>(some []).bind λl=>some (a::l)).bind λl=>some (a::l)).bind λl=>some (a::l)).bind λl=>if BG l=true then some (D.tup l)else none).bind (D5 [17,2,7].length))
def W6:PF:=λρ=>Option.map (λd=>(AC.next,ρ.set 24 (LV.d d))) (Option.map D.lst ((((AM 21 ρ).bind λa=>(AD 2 ρ).bind λb=>KQ a b).bind DQ).bind λds=>(C0 ρ [(1,17)] (AX 2)).bind λρi=>B2 (BN (λρ d=>some (ρ.set 0 (LV.d d))) XQ WM ρi) ds))
def W7:PF:=λρ=>Option.map (λd=>(AC.next,ρ.set 11 (LV.d d))) (Option.map D.lst ((((AM 21 ρ).bind λa=>(AD 2 ρ).bind λb=>KQ a b).bind DQ).bind λds=>(C0 ρ [(1,17)] (AX 2)).bind λρi=>B2 (BN (λρ d=>some (ρ.set 0 (LV.d d))) XO WK ρi) ds))
def W8:PF:=λρ=>Option.map (λd=>(AC.next,ρ.set 15 (LV.d d))) (Option.map D.lst ((((AM 21 ρ).bind λa=>(AD 2 ρ).bind λb=>KQ a b).bind DQ).bind λds=>(C0 ρ [(1,17)] (AX 2)).bind λρi=>B2 (BN (λρ d=>some (ρ.set 0 (LV.d d))) XN (WJ KE) ρi) ds))
def W9:PF:=λρ=>((AM 15 ρ).bind λa=>(Option.map D.lst ((AM 24 ρ).bind λa=>(AM 11 ρ).bind λb=>(CX a).bind λas=>(CX b).bind λbs=>if as.length=bs.length∧as.length≤100000 then some (List.zipWith (λa b=>D.tup [a,b]) as bs)else none)).bind λb=>FS a b).bind λc=>if c=true then AG (λρ=>Option.map (λd=>(AC.ret d,ρ)) (some (D.bool false))) (λρ=>some (AC.next,ρ)) ρ else some (AC.next,ρ)
def XA:PF:=λρ=>Option.map (λds=>(AC.next,ρ.set 14 (LV.own (BE.list none) ds))) ((some []).bind λl=>if BG l=true then some l else none)
def XB:PF:=λρ=>(((AD 2 ρ).bind λa=>(some []).bind λl=>some (a::l)).bind GU).bind λds=>B7 (λρ d=>some (ρ.set 1 (LV.d d))) (SZ mg Gins) ds ρ
def XC:PF:=λρ=>NH ρ[0]? λx c' q' x_1=>(AD 11 ρ).bind λdy=>D9 ρ[14]? λp ds=>if c'=315∧q'=Str.ofString "law.<locals>."++Str.ofString "<lambda>" then(((AM 2 ρ).bind λa=>(some []).bind λl=>some (a::l)).bind Q9).bind λx=>(M5 x).bind λab=>if HN ab.fst ab.snd=true then(NS gk2 (D.clo (LK {posonlyargs:=[],args:=[{arg:=Str.ofString "each",annotation:=none,pos:={line:=269,col:=46,endLine:=269,endCol:=50}}],vararg:=none,kwonlyargs:=[],kw_defaults:=[],kwarg:=none,defaults:=[]} (Expr.Tuple [(Expr.Name "lights" {line:=269,col:=53,endLine:=269,endCol:=59}).Subscript (Expr.Name "each" {line:=269,col:=60,endLine:=269,endCol:=64}) {line:=269,col:=53,endLine:=269,endCol:=65},Expr.UnaryOp UnaryOp.USub (Expr.Name "each" {line:=269,col:=68,endLine:=269,endCol:=72}) {line:=269,col:=67,endLine:=269,endCol:=72}] 0 {line:=269,col:=52,endLine:=269,endCol:=73}) {kind:=ScopeKind.function,names:=[(Str.ofString "each",NameKind.local),(Str.ofString "lights",NameKind.free)],isGenerator:=false,isCoroutine:=false} ((mg "__name__").getD Value.none)) [Str.ofString "lights"] [dy]) (EQ ab.fst ab.snd)).bind λouts=>if outs.all IT=true then(MR outs (EQ ab.fst ab.snd)).bind λres=>(FS (D.lst ds) (D.lst res)).bind λt=>if t=true then AG (λρ=>Option.map (λd=>(AC.ret d,ρ)) (some (D.bool false))) (λρ=>some (AC.next,ρ)) ρ else some (AC.next,ρ)else none else none else none
def WR:PF:=λρ=>Option.map (λd=>(AC.next,ρ.set 13 (LV.d d))) (Option.map D.lst ((((AD 2 ρ).bind λa=>(some []).bind λl=>some (a::l)).bind GU).bind λds=>(C0 ρ [(1,14)] (AX 2)).bind λρi=>B2 (BN (λρ d=>some (ρ.set 0 (LV.d d))) XM WI ρi) ds))
def WS:PF:=λρ=>Option.map (λds=>(AC.next,ρ.set 5 (LV.own (BE.list none) ds))) ((some []).bind λl=>if BG l=true then some l else none)
def WT:PF:=λρ=>(((AD 17 ρ).bind λa=>(some []).bind λl=>some (a::l)).bind GU).bind λds=>B7 (λρ d=>some (ρ.set 16 (LV.d d))) SY ds ρ
def WU:PF:=λρ=>Option.map (λd=>(AC.next,ρ.set 19 (LV.d d))) ((Option.map D.lst ((((AD 17 ρ).bind λa=>(some []).bind λl=>some (a::l)).bind GU).bind λds=>(C0 ρ [(1,24),(2,5)] (AX 3)).bind λρi=>B2 (BN (λρ d=>some (ρ.set 0 (LV.d d))) XG WF ρi) ds)).bind λa=>(some (D.int 0)).bind λb=>BL a b)
def WV:PF:=λρ=>Option.map (λout=>(AC.next,ρ.set 4 (LV.d (D.lst out)))) ((((some (D.int 3)).bind λa=>(some []).bind λl=>some (a::l)).bind GU).bind λds=>(C0 ρ [(1,24),(2,13),(3,7),(4,17),(5,19)] (AX 6)).bind λρi=>B2 (BN (λρ d=>some (ρ.set 0 (LV.d d))) XF (WE FH) ρi) ds)
def WW:PF:=λρ=>Option.map (λds=>(AC.next,ρ.set 10 (LV.own (BE.list none) ds))) ((some []).bind λl=>if BG l=true then some l else none)
def WX:PF:=λρ=>(((some (D.int 3)).bind λa=>(some []).bind λl=>some (a::l)).bind GU).bind λds=>B7 (λρ d=>some (ρ.set 3 (LV.d d))) (SX H W B1 C7 GnW EY) ds ρ
def WY:PF:=λρ=>(((((AM 17 ρ).bind λa=>(some []).bind λl=>some (a::l)).bind Q9).bind λa=>(some []).bind λl=>some (a::l)).bind aQ).bind λa=>((some []).bind λl=>if BG l=true then some l else none).bind λd=>some (AC.next,(ρ.set 6 (LV.own (BE.list none) a)).set 8 (LV.own (BE.list none) d))
def WZ:PF:=λρ=>(((AM 14 ρ).bind λa=>((some (D.int 1)).bind GT).bind λb=>aX a b).bind DQ).bind λds=>B7 (λρ d=>some (ρ.set 1 (LV.d d))) (SW Gbis) ds ρ
def W0:PF:=λρ=>((Option.map D.lst (((AM 8 ρ).bind λa=>(some []).bind λl=>some (a::l)).bind L6)).bind λa=>(Option.map D.lst (((Option.map D.lst ((((AM 4 ρ).bind λa=>(some (D.int 0)).bind λb=>BL a b).bind DQ).bind λds=>(C0 ρ [] (AX 2)).bind λρi=>B2 (BN (λρ d=>Option.map (λds=>A4 ρ [0,1] ds) (D5 [0,1].length d)) iT WP ρi) ds)).bind λa=>(some []).bind λl=>some (a::l)).bind L6)).bind λb=>FS a b).bind λc=>if c=true then AG (λρ=>Option.map (λd=>(AC.ret d,ρ)) (some (D.bool false))) (λρ=>some (AC.next,ρ)) ρ else some (AC.next,ρ)
def W2:PF:=λρ=>Option.map (λd=>(AC.next,ρ.set 22 (LV.d d))) (Option.map D.lst (((AM 4 ρ).bind DQ).bind λds=>(C0 ρ [] (AX 1)).bind λρi=>B2 (BN (λρ d=>some (ρ.set 0 (LV.d d))) XT WO ρi) ds))
def W3:PF:=λρ=>Option.map (λout=>(AC.next,ρ.set 12 (LV.d (D.lst out)))) (((((some (D.int 1)).bind λa=>((some (D.int 0)).bind λa=>((some (D.int 2)).bind λa=>(some []).bind λl=>some (a::l)).bind λl=>some (a::l)).bind λl=>some (a::l)).bind λl=>if BG l=true then some (D.tup l)else none).bind SN).bind λds=>(C0 ρ [(1,10)] (AX 2)).bind λρi=>B2 (BN (λρ d=>some (ρ.set 0 (LV.d d))) XR (WL W CL) ρi) ds)
def W4:PF:=λρ=>(((AM 12 ρ).bind λa=>(Option.map D.lst (((AM 12 ρ).bind λa=>(some []).bind λl=>some (a::l)).bind UB)).bind λb=>FS a b).bind λb=>if b=true then some true else(AM 12 ρ).bind λa=>(Option.map D.lst (((((some (D.int 1)).bind λa=>((some (D.int 0)).bind λa=>((some (D.int 2)).bind λa=>(some []).bind λl=>some (a::l)).bind λl=>some (a::l)).bind λl=>some (a::l)).bind λl=>if BG l=true then some (D.tup l)else none).bind SN).bind λds=>(C0 ρ [(1,22)] (AX 2)).bind λρi=>B2 (BN (λρ d=>some (ρ.set 0 (LV.d d))) XH WA ρi) ds)).bind λb=>FS a b).bind λc=>if c=true then AG (λρ=>Option.map (λd=>(AC.ret d,ρ)) (some (D.bool false))) (λρ=>some (AC.next,ρ)) ρ else some (AC.next,ρ)
def W5:PF:=λρ=>Option.map (λd=>(AC.ret d,ρ)) ((((AM 10 ρ).bind λa=>(some (D.int 1)).bind λb=>BL a b).bind λx=>EW x λC' ns ds=>if C'=W∧¬Str.ofString "not_equal_witness"∈ns then(((AM 10 ρ).bind λa=>(some (D.int 2)).bind λb=>BL a b).bind λa=>(some []).bind λl=>some (a::l)).bind λl=>D3 (x::l)else none).bind λa=>((((AM 22 ρ).bind λa=>(some (D.int 1)).bind λb=>BL a b).bind λa=>(((AM 22 ρ).bind λa=>(some (D.int 2)).bind λb=>BL a b).bind λa=>(some []).bind λl=>some (a::l)).bind λl=>some (a::l)).bind D2).bind λb=>Option.map D.bool (EU a b))
def iJ:PF:=AG (W5 W D3 D2) (λρ=>some (AC.next,ρ))
def iI:PF:=AG W4 (iJ W D3 D2)
def iV:PF:=AG (W3 W CL) (iI W D3 D2)
def iH:PF:=NI 10 (iV W CL D3 D2)
def iE:PF:=AG W2 (iH W CL D3 D2)
def iD:PF:=AG W0 (iE W CL D3 D2)
def iC:PF:=AG (WZ Gbis) (iD W CL D3 D2)
def iB:PF:=AG WY (iC W CL D3 D2 Gbis)
def iA:PF:=AG (WX H W B1 C7 GnW EY) (iB W CL D3 D2 Gbis)
def hZ:PF:=AG WW (iA H W B1 C7 CL D3 GnW EY D2 Gbis)
def hY:PF:=AG (WV FH) (hZ H W B1 C7 CL D3 GnW EY D2 Gbis)
def iW:PF:=AG WU (hY H W B1 C7 CL D3 GnW FH EY D2 Gbis)
def hX:PF:=NI 5 (iW H W B1 C7 CL D3 GnW FH EY D2 Gbis)
def hV:PF:=AG WT (hX H W B1 C7 CL D3 GnW FH EY D2 Gbis)
def hU:PF:=AG WS (hV H W B1 C7 CL D3 GnW FH EY D2 Gbis)
def iX:PF:=AG WR (hU H W B1 C7 CL D3 GnW FH EY D2 Gbis)
def iR:PF:=NI 14 (iX H W B1 C7 CL D3 GnW FH EY D2 Gbis)
def iQ:PF:=AG (XC mg gk2) (iR H W B1 C7 CL D3 GnW FH EY D2 Gbis)
def iP:PF:=AG (XB mg Gins) (iQ mg H W B1 C7 CL D3 GnW FH EY D2 Gbis gk2)
def iO:PF:=AG XA (iP mg H W B1 C7 CL D3 GnW FH EY D2 Gins Gbis gk2)
def iM:PF:=AG W9 (iO mg H W B1 C7 CL D3 GnW FH EY D2 Gins Gbis gk2)
def iL:PF:=AG (W8 KE) (iM mg H W B1 C7 CL D3 GnW FH EY D2 Gins Gbis gk2)
def iK:PF:=AG W7 (iL mg H W B1 C7 CL D3 GnW KE FH EY D2 Gins Gbis gk2)
def iG:PF:=AG W6 (iK mg H W B1 C7 CL D3 GnW KE FH EY D2 Gins Gbis gk2)
def hN:PF:=AG W1 (iG mg H W B1 C7 CL D3 GnW KE FH EY D2 Gins Gbis gk2)
def SV:PF:=AG (WQ QN) (hN mg H W B1 C7 CL D3 GnW KE FH EY D2 Gins Gbis gk2)
def uZ:PF:=λρ=>((AM 1 ρ).bind λa=>(some (D.flt 0)).bind λb=>EU a b).bind λc=>if c=true then AG (λρ=>Option.map (λd=>(AC.ret d,ρ)) (((AD 2 ρ).bind λa=>((AD 2 ρ).bind λa=>((AD 2 ρ).bind λa=>(some []).bind λl=>some (a::l)).bind λl=>some (a::l)).bind λl=>some (a::l)).bind λl=>if BG l=true then some (D.tup l)else none)) (λρ=>some (AC.next,ρ)) ρ else some (AC.next,ρ)
def u7:PF:=λρ=>Option.map (λd=>(AC.next,ρ.set 4 (LV.d d))) ((((AD 0 ρ).bind λa=>(some (D.flt 4618441417868443648)).bind λb=>EH a b).bind λa=>(some []).bind λl=>some (a::l)).bind mP)
def u8:PF:=λρ=>Option.map (λd=>(AC.next,ρ.set 3 (LV.d d))) (((AD 0 ρ).bind λa=>(some (D.flt 4618441417868443648)).bind λb=>EH a b).bind λa=>(AD 4 ρ).bind λb=>EN a b)
def u9:PF:=λρ=>Option.map (λd=>(AC.next,ρ.set 5 (LV.d d))) ((AD 2 ρ).bind λa=>((some (D.flt 4607182418800017408)).bind λa=>(AD 1 ρ).bind λb=>EN a b).bind λb=>EH a b)
def u':PF:=λρ=>Option.map (λd=>(AC.next,ρ.set 6 (LV.d d))) ((AD 2 ρ).bind λa=>((some (D.flt 4607182418800017408)).bind λa=>((AD 1 ρ).bind λa=>(AD 3 ρ).bind λb=>EH a b).bind λb=>EN a b).bind λb=>EH a b)
def vA:PF:=λρ=>Option.map (λd=>(AC.next,ρ.set 7 (LV.d d))) ((AD 2 ρ).bind λa=>((some (D.flt 4607182418800017408)).bind λa=>((AD 1 ρ).bind λa=>((some (D.flt 4607182418800017408)).bind λa=>(AD 3 ρ).bind λb=>EN a b).bind λb=>EH a b).bind λb=>EN a b).bind λb=>EH a b)
def vD:PF:=λρ=>Option.map (λd=>(AC.next,ρ.set 4 (LV.d d))) ((AD 4 ρ).bind λa=>(some (D.int 6)).bind λb=>CZ a b)
def vE:PF:=λρ=>((AM 4 ρ).bind λa=>(some (D.int 0)).bind λb=>EU a b).bind λc=>if c=true then AG (λρ=>Option.map (λd=>(AC.ret d,ρ)) (((AD 2 ρ).bind λa=>((AD 7 ρ).bind λa=>((AD 5 ρ).bind λa=>(some []).bind λl=>some (a::l)).bind λl=>some (a::l)).bind λl=>some (a::l)).bind λl=>if BG l=true then some (D.tup l)else none)) (λρ=>some (AC.next,ρ)) ρ else some (AC.next,ρ)
def vG:PF:=λρ=>((AM 4 ρ).bind λa=>(some (D.int 1)).bind λb=>EU a b).bind λc=>if c=true then AG (λρ=>Option.map (λd=>(AC.ret d,ρ)) (((AD 6 ρ).bind λa=>((AD 2 ρ).bind λa=>((AD 5 ρ).bind λa=>(some []).bind λl=>some (a::l)).bind λl=>some (a::l)).bind λl=>some (a::l)).bind λl=>if BG l=true then some (D.tup l)else none)) (λρ=>some (AC.next,ρ)) ρ else some (AC.next,ρ)
def u0:PF:=λρ=>((AM 4 ρ).bind λa=>(some (D.int 2)).bind λb=>EU a b).bind λc=>if c=true then AG (λρ=>Option.map (λd=>(AC.ret d,ρ)) (((AD 5 ρ).bind λa=>((AD 2 ρ).bind λa=>((AD 7 ρ).bind λa=>(some []).bind λl=>some (a::l)).bind λl=>some (a::l)).bind λl=>some (a::l)).bind λl=>if BG l=true then some (D.tup l)else none)) (λρ=>some (AC.next,ρ)) ρ else some (AC.next,ρ)
def u4:PF:=λρ=>((AM 4 ρ).bind λa=>(some (D.int 3)).bind λb=>EU a b).bind λc=>if c=true then AG (λρ=>Option.map (λd=>(AC.ret d,ρ)) (((AD 5 ρ).bind λa=>((AD 6 ρ).bind λa=>((AD 2 ρ).bind λa=>(some []).bind λl=>some (a::l)).bind λl=>some (a::l)).bind λl=>some (a::l)).bind λl=>if BG l=true then some (D.tup l)else none)) (λρ=>some (AC.next,ρ)) ρ else some (AC.next,ρ)
def u5:PF:=λρ=>((AM 4 ρ).bind λa=>(some (D.int 4)).bind λb=>EU a b).bind λc=>if c=true then AG (λρ=>Option.map (λd=>(AC.ret d,ρ)) (((AD 7 ρ).bind λa=>((AD 5 ρ).bind λa=>((AD 2 ρ).bind λa=>(some []).bind λl=>some (a::l)).bind λl=>some (a::l)).bind λl=>some (a::l)).bind λl=>if BG l=true then some (D.tup l)else none)) (λρ=>some (AC.next,ρ)) ρ else some (AC.next,ρ)
def u6:PF:=λρ=>((AM 4 ρ).bind λa=>(some (D.int 5)).bind λb=>EU a b).bind λc=>if c=true then AG (λρ=>Option.map (λd=>(AC.ret d,ρ)) (((AD 2 ρ).bind λa=>((AD 5 ρ).bind λa=>((AD 6 ρ).bind λa=>(some []).bind λl=>some (a::l)).bind λl=>some (a::l)).bind λl=>some (a::l)).bind λl=>if BG l=true then some (D.tup l)else none)) (λρ=>some (AC.next,ρ)) ρ else some (AC.next,ρ)
def uQ:PF:=AG u6 (λρ=>some (AC.next,ρ))
def uP:PF:=AG u5 uQ
def uO:PF:=AG u4 uP
def uY:PF:=AG u0 uO
def uX:PF:=AG vG uY
def uW:PF:=AG vE uX
def uV:PF:=AG vD uW
def uU:PF:=AG vA uV
def uT:PF:=AG u' uU
def uS:PF:=AG u9 uT
def uR:PF:=AG u8 uS
def uN:PF:=AG u7 uR
def gL:PF:=AG uZ uN
def wG:PF:=λρ=>Option.map (λd=>(AC.next,ρ.set 6 (LV.d d))) (((AM 0 ρ).bind λa=>((AM 1 ρ).bind λa=>((AM 2 ρ).bind λa=>(some []).bind λl=>some (a::l)).bind λl=>some (a::l)).bind λl=>some (a::l)).bind mU)
def wK:PF:=λρ=>Option.map (λd=>(AC.next,ρ.set 7 (LV.d d))) (((AM 0 ρ).bind λa=>((AM 1 ρ).bind λa=>((AM 2 ρ).bind λa=>(some []).bind λl=>some (a::l)).bind λl=>some (a::l)).bind λl=>some (a::l)).bind mW)
def wL:PF:=λρ=>Option.map (λd=>(AC.next,ρ.set 8 (LV.d d))) ((AD 6 ρ).bind λa=>(AD 7 ρ).bind λb=>EN a b)
def wM:PF:=λρ=>Option.map (λd=>(AC.next,ρ.set 11 (LV.d d))) (AD 6 ρ)
def wN:PF:=λρ=>((AM 7 ρ).bind λa=>(AM 6 ρ).bind λb=>EU a b).bind λc=>if c=true then AG (λρ=>Option.map (λd=>(AC.ret d,ρ)) (((some (D.flt 0)).bind λa=>((some (D.flt 0)).bind λa=>((AD 11 ρ).bind λa=>(some []).bind λl=>some (a::l)).bind λl=>some (a::l)).bind λl=>some (a::l)).bind λl=>if BG l=true then some (D.tup l)else none)) (λρ=>some (AC.next,ρ)) ρ else some (AC.next,ρ)
def wO:PF:=λρ=>Option.map (λd=>(AC.next,ρ.set 10 (LV.d d))) ((AD 8 ρ).bind λa=>(AD 6 ρ).bind λb=>KM a b)
def wP:PF:=λρ=>Option.map (λd=>(AC.next,ρ.set 9 (LV.d d))) (((AD 6 ρ).bind λa=>(AD 0 ρ).bind λb=>EN a b).bind λa=>(AD 8 ρ).bind λb=>KM a b)
def wQ:PF:=λρ=>Option.map (λd=>(AC.next,ρ.set 4 (LV.d d))) (((AD 6 ρ).bind λa=>(AD 1 ρ).bind λb=>EN a b).bind λa=>(AD 8 ρ).bind λb=>KM a b)
def wR:PF:=λρ=>Option.map (λd=>(AC.next,ρ.set 3 (LV.d d))) (((AD 6 ρ).bind λa=>(AD 2 ρ).bind λb=>EN a b).bind λa=>(AD 8 ρ).bind λb=>KM a b)
def wH:PF:=λρ=>((AM 0 ρ).bind λa=>(AM 6 ρ).bind λb=>EU a b).bind λc=>if c=true then AG (λρ=>Option.map (λd=>(AC.next,ρ.set 5 (LV.d d))) ((AD 3 ρ).bind λa=>(AD 4 ρ).bind λb=>EN a b)) (λρ=>some (AC.next,ρ)) ρ else AG (λρ=>((AM 1 ρ).bind λa=>(AM 6 ρ).bind λb=>EU a b).bind λc=>if c=true then AG (λρ=>Option.map (λd=>(AC.next,ρ.set 5 (LV.d d))) (((some (D.flt 4611686018427387904)).bind λa=>(AD 9 ρ).bind λb=>BW a b).bind λa=>(AD 3 ρ).bind λb=>EN a b)) (λρ=>some (AC.next,ρ)) ρ else AG (λρ=>Option.map (λd=>(AC.next,ρ.set 5 (LV.d d))) (((some (D.flt 4616189618054758400)).bind λa=>(AD 4 ρ).bind λb=>BW a b).bind λa=>(AD 9 ρ).bind λb=>EN a b)) (λρ=>some (AC.next,ρ)) ρ) (λρ=>some (AC.next,ρ)) ρ
def wI:PF:=λρ=>Option.map (λd=>(AC.next,ρ.set 5 (LV.d d))) (((AD 5 ρ).bind λa=>(some (D.flt 4618441417868443648)).bind λb=>KM a b).bind λa=>(some (D.flt 4607182418800017408)).bind λb=>CZ a b)
def wJ:PF:=λρ=>Option.map (λd=>(AC.ret d,ρ)) (((AD 5 ρ).bind λa=>((AD 10 ρ).bind λa=>((AD 11 ρ).bind λa=>(some []).bind λl=>some (a::l)).bind λl=>some (a::l)).bind λl=>some (a::l)).bind λl=>if BG l=true then some (D.tup l)else none)
def v7:PF:=AG wJ (λρ=>some (AC.next,ρ))
def v6:PF:=AG wI v7
def wF:PF:=AG wH v6
def wE:PF:=AG wR wF
def wD:PF:=AG wQ wE
def wC:PF:=AG wP wD
def wB:PF:=AG wO wC
def wA:PF:=AG wN wB
def v9:PF:=AG wM wA
def v8:PF:=AG wL v9
def v5:PF:=AG wK v8
def jM:PF:=AG wG v5
def TC:PF:=λρ=>Option.map (λds=>(AC.next,A4 ρ [4,7,8] ds)) (((((((AD 0 ρ).bind λa=>(AD 1 ρ).bind λb=>CZ a b).bind λa=>(AD 1 ρ).bind λb=>KM a b).bind λa=>(((AD 0 ρ).bind λa=>(AD 1 ρ).bind λb=>FO a b).bind λa=>(some (D.int 3)).bind λb=>CZ a b).bind λb=>BW a b).bind λa=>(((((AD 0 ρ).bind λa=>((some (D.int 3)).bind λa=>(AD 1 ρ).bind λb=>EH a b).bind λb=>FO a b).bind λa=>(some (D.int 4)).bind λb=>CZ a b).bind λa=>(some (D.int 1)).bind λb=>BW a b).bind λa=>(((((AD 0 ρ).bind λa=>((some (D.int 12)).bind λa=>(AD 1 ρ).bind λb=>EH a b).bind λb=>FO a b).bind λa=>(some (D.int 8)).bind λb=>CZ a b).bind λa=>(some (D.int 1)).bind λb=>BW a b).bind λa=>(some []).bind λl=>some (a::l)).bind λl=>some (a::l)).bind λl=>some (a::l)).bind λl=>if BG l=true then some (D.tup l)else none).bind (D5 [4,7,8].length))
def vZ:PF:=λρ=>Option.map (λds=>(AC.next,A4 ρ [5,3,2] ds)) ((((AD 4 ρ).bind λa=>(((AD 7 ρ).bind λa=>(some (D.int 4)).bind λb=>KM a b).bind λa=>(((AD 8 ρ).bind λa=>(some (D.int 8)).bind λb=>KM a b).bind λa=>(some []).bind λl=>some (a::l)).bind λl=>some (a::l)).bind λl=>some (a::l)).bind G1).bind (D5 [5,3,2].length))
def v3:PF:=λρ=>Option.map (λd=>(AC.next,ρ.set 6 (LV.d d))) (((AD 5 ρ).bind λa=>((AD 3 ρ).bind λa=>((AD 2 ρ).bind λa=>(some []).bind λl=>some (a::l)).bind λl=>some (a::l)).bind λl=>some (a::l)).bind G2)
def v4:PF:=λρ=>Option.map (λd=>(AC.ret d,ρ)) ((((((((AM 6 ρ).bind λa=>(some (D.int 0)).bind λb=>BL a b).bind λa=>(AD 1 ρ).bind λb=>EH a b).bind λa=>(some []).bind λl=>some (a::l)).bind aZ).bind λa=>(AD 1 ρ).bind λb=>CZ a b).bind λa=>((((((AM 6 ρ).bind λa=>(some (D.int 2)).bind λb=>BL a b).bind λa=>(some (D.int 8)).bind λb=>EH a b).bind λa=>(some []).bind λl=>some (a::l)).bind aZ).bind λa=>(some []).bind λl=>some (a::l)).bind λl=>some (a::l)).bind λl=>if BG l=true then some (D.tup l)else none)
def vX:PF:=AG v4 (λρ=>some (AC.next,ρ))
def vW:PF:=AG (v3 G2) vX
def YA:PF:=AG (vZ G1) (vW G2)
def X':PF:=AG TC (YA G1 G2)
def fY:PF:=λρ=>((AD 2 ρ).bind λa=>(some (D.int 6)).bind λb=>CZ a b).bind λk=>((AD 1 ρ).bind λa=>(some (D.int 1000003)).bind λb=>CZ a b).bind λd=>D9 ρ[3]? λp ds=>(B6 k).bind λk=>(B6 d).bind λe=>if H5 k ds=true then ds[k.toNat]?.bind λx=>(B6 x).bind λo=>some (AC.next,ρ.set 3 (LV.own (BE.list p) (ds.set k.toNat (D.int (o+e)))))else none
def V0:PF:=AG fY (λρ=>some (AC.next,ρ))
def uE:PF:=λρ=>Option.map (λds=>(AC.next,ρ.set 3 (LV.own (BE.list none) ds))) (((some (D.int 170)).bind λa=>((some (D.int 416)).bind λa=>((some (D.int 373)).bind λa=>((some (D.int 37)).bind λa=>((some (D.int 514)).bind λa=>((some (D.int 4)).bind λa=>(some []).bind λl=>some (a::l)).bind λl=>some (a::l)).bind λl=>some (a::l)).bind λl=>some (a::l)).bind λl=>some (a::l)).bind λl=>some (a::l)).bind λl=>if BG l=true then some l else none)
def f6:PF:=λρ=>((AM 0 ρ).bind λa=>(some (D.int 24)).bind λb=>KQ a b).bind λd=>(DQ d).bind λds=>B7 (λρ d=>Option.map (λds=>A4 ρ [2,1] ds) (D5 [2,1].length d)) V0 (L7 0 ds) ρ
def uF:PF:=λρ=>D9 ρ[3]? λx ds=>some (AC.ret (D.lst ds),ρ)
def uD:PF:=AG uF (λρ=>some (AC.next,ρ))
def fZ:PF:=AG f6 uD
def VZ:PF:=AG uE fZ
def X6:EF:=λρ=>(((AD 0 ρ).bind λa=>(AD 1 ρ).bind λb=>FO a b).bind λa=>(some (D.int 1)).bind λb=>BW a b).bind λa=>(AD 1 ρ).bind λb=>EH a b
noncomputable def X8:TF:=λx=>some true
def X7:EF:=λρ=>(((AD 0 ρ).bind λa=>(AD 1 ρ).bind λb=>FO a b).bind λa=>(some (D.int 1)).bind λb=>BW a b).bind λa=>(AD 1 ρ).bind λb=>EH a b
noncomputable def X9:TF:=λx=>some true
def jH:PF:=λρ=>Option.map (λd=>(AC.next,ρ.set 2 (LV.d d))) ((((Option.map D.lst ((((AM 0 ρ).bind λa=>((some (D.int 1)).bind GT).bind λb=>KQ a b).bind DQ).bind λds=>(C0 ρ [(1,3)] (AX 2)).bind λρi=>B2 (BN (λρ d=>some (ρ.set 0 (LV.d d))) X9 X7 ρi) ds)).bind λa=>(some []).bind λl=>some (a::l)).bind RA).bind λa=>((AM 0 ρ).bind λa=>((some (D.int 1)).bind GT).bind λb=>BL a b).bind λb=>BW a b)
def jI:PF:=λρ=>Option.map (λd=>(AC.next,ρ.set 4 (LV.d d))) ((((Option.map D.lst ((((AM 1 ρ).bind λa=>((some (D.int 1)).bind GT).bind λb=>KQ a b).bind DQ).bind λds=>(C0 ρ [(1,3)] (AX 2)).bind λρi=>B2 (BN (λρ d=>some (ρ.set 0 (LV.d d))) X8 X6 ρi) ds)).bind λa=>(some []).bind λl=>some (a::l)).bind RA).bind λa=>((AM 1 ρ).bind λa=>((some (D.int 1)).bind GT).bind λb=>BL a b).bind λb=>BW a b)
def jJ:PF:=λρ=>((AM 2 ρ).bind λa=>(AM 4 ρ).bind λb=>FS a b).bind λc=>if c=true then AG (λρ=>D9 ρ[5]? λp ds=>((((AD 3 ρ).bind λa=>((AD 2 ρ).bind λa=>((AD 4 ρ).bind λa=>(some []).bind λl=>some (a::l)).bind λl=>some (a::l)).bind λl=>some (a::l)).bind λl=>if BG l=true then some (D.tup l)else none).bind λa=>(some []).bind λl=>some (a::l)).bind λes=>Option.map (λds'=>(AC.next,ρ.set 5 (LV.own (BE.list p) ds'))) (HY ds es)) (λρ=>some (AC.next,ρ)) ρ else some (AC.next,ρ)
def jG:PF:=AG jJ (λρ=>some (AC.next,ρ))
def jF:PF:=AG jI jG
def TB:PF:=AG jH jF
def vT:PF:=λρ=>Option.map (λds=>(AC.next,ρ.set 5 (LV.own (BE.list none) ds))) ((some []).bind λl=>if BG l=true then some l else none)
def jL:PF:=λρ=>(((some (D.int 1)).bind λa=>(((((Option.map D.lst ((AM 0 ρ).bind λx=>(AM 1 ρ).bind λy=>(CX x).bind λa=>(CX y).bind λb=>if(BG a&&BG b)=true then some (a++b)else none)).bind λa=>(some []).bind λl=>some (a::l)).bind M8).bind λa=>(some (D.int 2)).bind λb=>BW a b).bind λa=>(some []).bind λl=>some (a::l)).bind λl=>some (a::l)).bind IQ).bind λds=>B7 (λρ d=>some (ρ.set 3 (LV.d d))) TB ds ρ
def vU:PF:=λρ=>D9 ρ[5]? λx ds=>some (AC.ret (D.lst ds),ρ)
def vS:PF:=AG vU (λρ=>some (AC.next,ρ))
def jK:PF:=AG jL vS
def X5:PF:=AG vT jK
def TG:PF:=λρ=>((AM 5 ρ).bind λa=>(AM 2 ρ).bind λb=>EU a b).bind λc=>if c=true then AG (λρ=>Option.map (λd=>(AC.next,ρ.set 7 (LV.d d))) ((AD 7 ρ).bind λa=>(some (D.int 1)).bind λb=>BW a b)) (AG (λρ=>Option.map (λd=>(AC.next,ρ.set 4 (LV.d d))) ((AD 4 ρ).bind λa=>(some (D.int 1)).bind λb=>BW a b)) λρ=>some (AC.next,ρ)) ρ else AG (λρ=>((AM 5 ρ).bind λa=>(AM 3 ρ).bind λb=>EU a b).bind λc=>if c=true then AG (λρ=>Option.map (λd=>(AC.next,ρ.set 7 (LV.d d))) ((AD 7 ρ).bind λa=>(some (D.int 1)).bind λb=>BW a b)) (AG (λρ=>Option.map (λd=>(AC.next,ρ.set 8 (LV.d d))) ((AD 8 ρ).bind λa=>(some (D.int 1)).bind λb=>BW a b)) (AG (λρ=>((AM 4 ρ).bind λa=>(((AM 6 ρ).bind λa=>(some []).bind λl=>some (a::l)).bind GA).bind λb=>O3 a b).bind λc=>if c=true then AG (λρ=>Option.map (λds=>(AC.next,ρ.set 6 (LV.own (BE.list none) ds))) ((AM 6 ρ).bind λx=>(Option.map D.lst ((Option.map D.lst (((some (D.int 0)).bind λa=>(some []).bind λl=>some (a::l)).bind λl=>if BG l=true then some l else none)).bind λx=>(((AD 4 ρ).bind λa=>(((AM 6 ρ).bind λa=>(some []).bind λl=>some (a::l)).bind GA).bind λb=>EN a b).bind λa=>(some (D.int 1)).bind λb=>BW a b).bind λy=>(CX x).bind λa=>(B6 y).bind λk=>if(decide (a.length≤100)&&decide (-100≤k)&&decide (k≤1000)&&decide (0<a.length))=true then some (List.replicate k.toNat a).flatten else none)).bind λy=>(CX x).bind λa=>(CX y).bind λb=>if(BG a&&BG b)=true then some (a++b)else none)) (λρ=>some (AC.next,ρ)) ρ else some (AC.next,ρ)) (AG (λρ=>(((AM 6 ρ).bind λa=>(AD 4 ρ).bind λb=>BL a b).bind λa=>(some (D.int 1)).bind λb=>BW a b).bind λd=>(AD 4 ρ).bind λk=>D9 ρ[6]? λp ds=>(B6 k).bind λk=>if H5 k ds=true then some (AC.next,ρ.set 6 (LV.own (BE.list p) (ds.set k.toNat d)))else none) (AG (λρ=>Option.map (λd=>(AC.next,ρ.set 4 (LV.d d))) (some (D.int 0))) λρ=>some (AC.next,ρ))))) ρ else AG (λρ=>some (AC.brk,ρ)) (λρ=>some (AC.next,ρ)) ρ) (λρ=>some (AC.next,ρ)) ρ
def TD:PF:=AG TG (λρ=>some (AC.next,ρ))
def wT:PF:=λρ=>(AD 1 ρ).bind λd=>J2 ρ[0]? λp C' ns ds=>if C'=C∧¬Str.ofString "raw"∈ns∧ns.length<900 then some (AC.next,ρ.set 0 (LV.own (BE.ins p C' (ns++[Str.ofString "raw"])) (ds++[d])))else none
def wU:PF:=λρ=>Option.map (λds=>(AC.next,A4 ρ [2,3] ds)) ((((some (D.str " ")).bind λa=>((some (D.str "\t")).bind λa=>(some []).bind λl=>some (a::l)).bind λl=>some (a::l)).bind λl=>if BG l=true then some (D.tup l)else none).bind (D5 [2,3].length))
def wV:PF:=λρ=>Option.map (λds=>(AC.next,ρ.set 6 (LV.own (BE.list none) ds))) ((some []).bind λl=>if BG l=true then some l else none)
def wW:PF:=λρ=>some (AC.next,A4 ρ [4,7,8] (List.map (λx=>D.int 0) [4,7,8]))
def j4:PF:=λρ=>((J2 ρ[0]? λx C' ns ds=>if C'=C then(KS "raw" ns).bind λj=>ds[j]? else none).bind Mine.VJ).bind λds=>B7 (λρ d=>some (ρ.set 5 (LV.d d))) TD ds ρ
def wX:PF:=λρ=>(AD 7 ρ).bind λd=>J2 ρ[0]? λp C' ns ds=>if C'=C∧¬Str.ofString "n"∈ns∧ns.length<900 then some (AC.next,ρ.set 0 (LV.own (BE.ins p C' (ns++[Str.ofString "n"])) (ds++[d])))else none
def wY:PF:=λρ=>(AD 8 ρ).bind λd=>J2 ρ[0]? λp C' ns ds=>if C'=C∧¬Str.ofString "nt"∈ns∧ns.length<900 then some (AC.next,ρ.set 0 (LV.own (BE.ins p C' (ns++[Str.ofString "nt"])) (ds++[d])))else none
def j5:PF:=λρ=>(((((AM 6 ρ).bind λa=>(some []).bind λl=>some (a::l)).bind bA).bind λa=>((AD 4 ρ).bind λa=>(some []).bind λl=>some (a::l)).bind λl=>some (a::l)).bind λl=>if BG l=true then some (D.tup l)else none).bind λd=>J2 ρ[0]? λp C' ns ds=>if C'=C∧¬Str.ofString "norm"∈ns∧ns.length<900 then some (AC.next,ρ.set 0 (LV.own (BE.ins p C' (ns++[Str.ofString "norm"])) (ds++[d])))else none
def j6:PF:=λρ=>((((AM 6 ρ).bind λa=>(some []).bind λl=>some (a::l)).bind GA).bind λa=>(some (D.int 1)).bind λb=>Option.map D.bool (Q8 a b)).bind λd=>J2 ρ[0]? λp C' ns ds=>if C'=C∧¬Str.ofString "is_simple"∈ns∧ns.length<900 then some (AC.next,ρ.set 0 (LV.own (BE.ins p C' (ns++[Str.ofString "is_simple"])) (ds++[d])))else none
def j3:PF:=AG (j6 C) (λρ=>some (AC.next,ρ))
def j2:PF:=AG (j5 C) (j3 C)
def j1:PF:=AG (wY C) (j2 C)
def j0:PF:=AG (wX C) (j1 C)
def jZ:PF:=AG (j4 C) (j0 C)
def jY:PF:=AG wW (jZ C)
def jX:PF:=AG wV (jY C)
def jW:PF:=AG wU (jX C)
def YG:PF:=AG (wT C) (jW C)
def kD:PF:=λρ=>Option.map (λds=>(AC.next,A4 ρ [1,2] ds)) (((AD 0 ρ).bind (ES C "norm")).bind (D5 [1,2].length))
def kF:PF:=λρ=>Option.map (λd=>(AC.ret d,ρ)) ((((((AM 1 ρ).bind λa=>(some []).bind λl=>some (a::l)).bind GA).bind λa=>(some (D.int 1)).bind λb=>EN a b).bind λa=>((AM 2 ρ).bind λa=>(some []).bind λl=>some (a::l)).bind λl=>some (a::l)).bind M7)
def kC:PF:=AG kF (λρ=>some (AC.next,ρ))
def YL:PF:=AG (kD C) kC
def jP:PF:=λρ=>Option.map (λd=>(AC.next,ρ.set 4 (LV.d d))) ((AD 4 ρ).bind λa=>(((AD 3 ρ).bind λa=>(AD 1 ρ).bind λb=>FO a b).bind λa=>((AM 2 ρ).bind λa=>(AD 3 ρ).bind λb=>BL a b).bind λb=>EH a b).bind λb=>BW a b)
def YF:PF:=AG jP (λρ=>some (AC.next,ρ))
def jT:PF:=λρ=>Option.map (λds=>(AC.next,A4 ρ [2,5] ds)) (((AD 0 ρ).bind (ES C "norm")).bind (D5 [2,5].length))
noncomputable def wS:PF:=λρ=>Option.map (λd=>(AC.next,ρ.set 4 (LV.d d))) (some (D.int 0))
def jU:PF:=λρ=>(((AD 1 ρ).bind λa=>((((AM 2 ρ).bind λa=>(some []).bind λl=>some (a::l)).bind GA).bind λa=>(some []).bind λl=>some (a::l)).bind λl=>some (a::l)).bind IQ).bind λds=>B7 (λρ d=>some (ρ.set 3 (LV.d d))) YF ds ρ
def jV:PF:=λρ=>Option.map (λd=>(AC.ret d,ρ)) ((AD 5 ρ).bind λa=>((AD 1 ρ).bind λa=>((AD 4 ρ).bind λa=>((AD 0 ρ).bind (ES C "nt")).bind λb=>BW a b).bind λb=>EH a b).bind λb=>BW a b)
def jS:PF:=AG (jV C) (λρ=>some (AC.next,ρ))
def jR:PF:=AG jU (jS C)
def jQ:PF:=AG wS (jR C)
def YE:PF:=AG (jT C) (jQ C)
def jO:PF:=λρ=>Option.map (λd=>(AC.ret d,ρ)) (((AD 0 ρ).bind (ES C "norm")).bind λa=>((AD 1 ρ).bind (ES C "norm")).bind λb=>Option.map D.bool (EU a b))
def YD:PF:=AG (jO C) (λρ=>some (AC.next,ρ))
def kG:PF:=λρ=>(((AD 0 ρ).bind λx=>EW x λC' ns ds=>if C'=C∧¬Str.ofString "indent_level"∈ns then((AD 4 ρ).bind λa=>(some []).bind λl=>some (a::l)).bind λl=>E3 (x::l)else none).bind λa=>((AD 1 ρ).bind λx=>EW x λC' ns ds=>if C'=C∧¬Str.ofString "indent_level"∈ns then((AD 4 ρ).bind λa=>(some []).bind λl=>some (a::l)).bind λl=>E3 (x::l)else none).bind λb=>FS a b).bind λc=>if c=true then AG (λρ=>D9 ρ[2]? λp ds=>((((AD 4 ρ).bind λa=>(((AD 0 ρ).bind λx=>EW x λC' ns ds=>if C'=C∧¬Str.ofString "indent_level"∈ns then((AD 4 ρ).bind λa=>(some []).bind λl=>some (a::l)).bind λl=>E3 (x::l)else none).bind λa=>(((AD 1 ρ).bind λx=>EW x λC' ns ds=>if C'=C∧¬Str.ofString "indent_level"∈ns then((AD 4 ρ).bind λa=>(some []).bind λl=>some (a::l)).bind λl=>E3 (x::l)else none).bind λa=>(some []).bind λl=>some (a::l)).bind λl=>some (a::l)).bind λl=>some (a::l)).bind λl=>if BG l=true then some (D.tup l)else none).bind λa=>(some []).bind λl=>some (a::l)).bind λes=>Option.map (λds'=>(AC.next,ρ.set 2 (LV.own (BE.list p) ds'))) (HY ds es)) (λρ=>some (AC.next,ρ)) ρ else some (AC.next,ρ)
def YN:PF:=AG (kG C E3) (λρ=>some (AC.next,ρ))
def YO:PF:=λρ=>Option.map (λd=>(AC.next,ρ.set 3 (LV.d d))) (((((AD 0 ρ).bind λx=>EW x λC' ns ds=>if C'=C∧¬Str.ofString "longest_run_of_spaces"∈ns then(some []).bind λl=>CL (x::l)else none).bind λa=>(((AD 1 ρ).bind λx=>EW x λC' ns ds=>if C'=C∧¬Str.ofString "longest_run_of_spaces"∈ns then(some []).bind λl=>CL (x::l)else none).bind λa=>(some []).bind λl=>some (a::l)).bind λl=>some (a::l)).bind M7).bind λa=>(some (D.int 1)).bind λb=>BW a b)
def kJ:PF:=λρ=>Option.map (λds=>(AC.next,ρ.set 2 (LV.own (BE.list none) ds))) ((some []).bind λl=>if BG l=true then some l else none)
def YQ:PF:=λρ=>(((some (D.int 1)).bind λa=>(((AD 3 ρ).bind λa=>(some (D.int 1)).bind λb=>BW a b).bind λa=>(some []).bind λl=>some (a::l)).bind λl=>some (a::l)).bind IQ).bind λds=>B7 (λρ d=>some (ρ.set 4 (LV.d d))) (YN C E3) ds ρ
def w4:PF:=λρ=>D9 ρ[2]? λx ds=>some (AC.ret (D.lst ds),ρ)
def w3:PF:=AG w4 (λρ=>some (AC.next,ρ))
def kI:PF:=AG (YQ C E3) w3
def kH:PF:=AG kJ (kI C E3)
def YM:PF:=AG (YO C CL) (kH C E3)
def YI:PF:=λρ=>(((AD 0 ρ).bind λx=>EW x λC' ns ds=>if C'=C∧¬Str.ofString "indent_level"∈ns then((AD 3 ρ).bind λa=>(some []).bind λl=>some (a::l)).bind λl=>E3 (x::l)else none).bind λa=>((AD 1 ρ).bind λx=>EW x λC' ns ds=>if C'=C∧¬Str.ofString "indent_level"∈ns then((AD 3 ρ).bind λa=>(some []).bind λl=>some (a::l)).bind λl=>E3 (x::l)else none).bind λb=>O3 a b).bind λc=>if c=true then AG (λρ=>Option.map (λd=>(AC.ret d,ρ)) (some (D.bool false))) (λρ=>some (AC.next,ρ)) ρ else some (AC.next,ρ)
def TH:PF:=AG (YI C E3) (λρ=>some (AC.next,ρ))
def TJ:PF:=λρ=>(((AD 0 ρ).bind (ES C "n")).bind λa=>((AD 1 ρ).bind (ES C "n")).bind λb=>O3 a b).bind λc=>if c=true then AG (λρ=>Option.map (λd=>(AC.ret d,ρ)) (some (D.bool false))) (λρ=>some (AC.next,ρ)) ρ else some (AC.next,ρ)
def TL:PF:=λρ=>((((AD 0 ρ).bind (ES C "is_simple")).bind HH).bind λb=>if b=true then((AD 1 ρ).bind (ES C "is_simple")).bind HH else some false).bind λc=>if c=true then AG (λρ=>Option.map (λd=>(AC.ret d,ρ)) (((AD 0 ρ).bind (ES C "nt")).bind λa=>((AD 1 ρ).bind (ES C "nt")).bind λb=>Option.map D.bool (Q8 a b))) (λρ=>some (AC.next,ρ)) ρ else some (AC.next,ρ)
def YJ:PF:=λρ=>Option.map (λd=>(AC.next,ρ.set 2 (LV.d d))) (((((AD 0 ρ).bind λx=>EW x λC' ns ds=>if C'=C∧¬Str.ofString "longest_run_of_spaces"∈ns then(some []).bind λl=>CL (x::l)else none).bind λa=>(((AD 1 ρ).bind λx=>EW x λC' ns ds=>if C'=C∧¬Str.ofString "longest_run_of_spaces"∈ns then(some []).bind λl=>CL (x::l)else none).bind λa=>(some []).bind λl=>some (a::l)).bind λl=>some (a::l)).bind M7).bind λa=>(some (D.int 1)).bind λb=>BW a b)
def YK:PF:=λρ=>(((some (D.int 2)).bind λa=>(((AD 2 ρ).bind λa=>(some (D.int 1)).bind λb=>BW a b).bind λa=>(some []).bind λl=>some (a::l)).bind λl=>some (a::l)).bind IQ).bind λds=>B7 (λρ d=>some (ρ.set 3 (LV.d d))) (TH C E3) ds ρ
noncomputable def w0:PF:=λρ=>Option.map (λd=>(AC.ret d,ρ)) (some (D.bool true))
def wZ:PF:=AG w0 (λρ=>some (AC.next,ρ))
def j9:PF:=AG (YK C E3) wZ
def j8:PF:=AG (YJ C CL) (j9 C E3)
def j7:PF:=AG (TL C) (j8 C CL E3)
def YH:PF:=AG (TJ C) (j7 C CL E3)
def XY:EF:=λρ=>(((AD 1 ρ).bind λa=>(((AD 4 ρ).bind λa=>((AM 5 ρ).bind λa=>(AD 0 ρ).bind λb=>BL a b).bind λb=>EN a b).bind λa=>(AD 3 ρ).bind λb=>CZ a b).bind λb=>EH a b).bind λa=>(((AM 2 ρ).bind λa=>(AD 0 ρ).bind λb=>BL a b).bind λa=>((AD 0 ρ).bind λa=>(some []).bind λl=>some (a::l)).bind λl=>some (a::l)).bind λl=>some (a::l)).bind λl=>if BG l=true then some (D.tup l)else none
noncomputable def X0:TF:=λx=>some true
def XZ:EF:=AD 0
def X1:TF:=λρ=>((AM 2 ρ).bind λa=>(AD 0 ρ).bind λb=>BL a b).bind λa=>(AM 1 ρ).bind λb=>EU a b
def S5:PF:=λρ=>Option.map (λd=>(AC.next,ρ.set 10 (LV.d d))) (((AD 5 ρ).bind λa=>(AD 11 ρ).bind λb=>BW a b).bind λa=>(AD 4 ρ).bind λb=>CZ a b)
def S6:PF:=λρ=>D9 ρ[7]? λp ds=>((Option.map D.lst ((((((AM 0 ρ).bind λa=>(some []).bind λl=>some (a::l)).bind GA).bind λa=>(some []).bind λl=>some (a::l)).bind GU).bind λds=>(C0 ρ [(1,10),(2,0)] (AX 3)).bind λρi=>B2 (BN (λρ d=>some (ρ.set 0 (LV.d d))) X1 XZ ρi) ds)).bind λa=>(some []).bind λl=>some (a::l)).bind λes=>Option.map (λds'=>(AC.next,ρ.set 7 (LV.own (BE.list p) ds'))) (T9 ds es)
def XW:PF:=λρ=>((AM 7 ρ).bind λa=>((some []).bind λl=>if BG l=true then some (D.lst l)else none).bind λb=>FS a b).bind λc=>if c=true then AG (λρ=>Option.map (λd=>(AC.next,ρ.set 6 (LV.d d))) ((((Option.map D.lst (((AM 7 ρ).bind DQ).bind λds=>(C0 ρ [(1,9),(2,1),(3,4),(4,10),(5,0)] (AX 6)).bind λρi=>B2 (BN (λρ d=>some (ρ.set 0 (LV.d d))) X0 XY ρi) ds)).bind λa=>(some []).bind λl=>some (a::l)).bind aR).bind λa=>(some (D.int 2)).bind λb=>BL a b)) (AG (λρ=>D9 ρ[7]? λp ds=>((AD 6 ρ).bind λa=>(some []).bind λl=>some (a::l)).bind λes=>Option.map (λds'=>(AC.next,ρ.set 7 (LV.own (BE.list p) ds'))) (UA ds es)) (AG (λρ=>Option.map (λd=>(AC.next,ρ.set 12 (LV.d d))) (((AD 10 ρ).bind λa=>((AM 0 ρ).bind λa=>(AD 6 ρ).bind λb=>BL a b).bind λb=>EN a b).bind λa=>(AD 4 ρ).bind λb=>CZ a b)) (AG (λρ=>D9 ρ[8]? λp ds=>((((((((((AD 12 ρ).bind λa=>(some (D.int 2)).bind λb=>CZ a b).bind HH).bind λc=>if c=true then some (D.int 65)else some (D.int 97)).bind λa=>(AD 10 ρ).bind λb=>BW a b).bind λa=>(some []).bind λl=>some (a::l)).bind G5).bind λa=>(((((AD 3 ρ).bind λa=>(some (D.str "\t")).bind λb=>BW a b).bind λa=>(AD 12 ρ).bind λb=>KO a b).bind λa=>((((some (D.int 97)).bind λa=>(AD 6 ρ).bind λb=>BW a b).bind λa=>(some []).bind λl=>some (a::l)).bind G5).bind λb=>BW a b).bind λa=>(some []).bind λl=>some (a::l)).bind λl=>some (a::l)).bind λl=>if BG l=true then some (D.tup l)else none).bind λa=>(some []).bind λl=>some (a::l)).bind λes=>Option.map (λds'=>(AC.next,ρ.set 8 (LV.own (BE.list p) ds'))) (HY ds es)) λρ=>some (AC.next,ρ)))) ρ else some (AC.next,ρ)
def XV:PF:=AG XW (λρ=>some (AC.next,ρ))
def iY:PF:=AG S6 XV
def S3:PF:=AG S5 iY
def i4:PF:=λρ=>Option.map (λd=>(AC.next,ρ.set 9 (LV.d d))) ((((some (D.int 0)).bind λa=>((some (D.int 1)).bind λa=>(((some (D.int 1)).bind GT).bind λa=>(some []).bind λl=>some (a::l)).bind λl=>some (a::l)).bind λl=>some (a::l)).bind λl=>if BG l=true then some (D.lst l)else none).bind λa=>(AD 2 ρ).bind λb=>BL a b)
def vJ:PF:=λρ=>((some []).bind λl=>if BG l=true then some l else none).bind λa=>((some []).bind λl=>if BG l=true then some l else none).bind λd=>some (AC.next,(ρ.set 7 (LV.own (BE.list none) a)).set 8 (LV.own (BE.list none) d))
def i5:PF:=λρ=>(((some (D.int 1)).bind λa=>((AD 4 ρ).bind λa=>(some []).bind λl=>some (a::l)).bind λl=>some (a::l)).bind IQ).bind λds=>B7 (λρ d=>some (ρ.set 11 (LV.d d))) S3 ds ρ
def vL:PF:=λρ=>D9 ρ[8]? λx ds=>some (AC.ret (D.lst ds),ρ)
def vH:PF:=AG vL (λρ=>some (AC.next,ρ))
def i3:PF:=AG i5 vH
def iZ:PF:=AG vJ i3
def XU:PF:=AG i4 iZ
def QL:PF:=λρ=>((AM 3 ρ).bind λa=>(some (D.int 0)).bind λb=>Q7 a b).bind λc=>if c=true then AG (λρ=>Option.map (λds=>(AC.next,A4 ρ [5,4] ds)) ((((((AD 0 ρ).bind λa=>(some []).bind λl=>some (a::l)).bind Gn).bind λa=>((((AD 1 ρ).bind λa=>(some []).bind λl=>some (a::l)).bind Gn).bind λa=>(some []).bind λl=>some (a::l)).bind λl=>some (a::l)).bind λl=>if BG l=true then some (D.tup l)else none).bind (D5 [5,4].length))) (AG (λρ=>(Option.map (λx=> !x) (((AD 5 ρ).bind λx=>EW x λC' ns ds=>if C'=C∧¬Str.ofString "equal"∈ns then((AD 4 ρ).bind λa=>(some []).bind λl=>some (a::l)).bind λl=>I7 (x::l)else none).bind HH)).bind λc=>if c=true then AG (λρ=>Option.map (λd=>(AC.ret d,ρ)) (((AM 3 ρ).bind λa=>(some (D.int 1)).bind λb=>EU a b).bind λc=>if c=true then(AD 5 ρ).bind λx=>EW x λC' ns ds=>if C'=C∧¬Str.ofString "less"∈ns then((AD 4 ρ).bind λa=>(some []).bind λl=>some (a::l)).bind λl=>IK (x::l)else none else(AD 4 ρ).bind λx=>EW x λC' ns ds=>if C'=C∧¬Str.ofString "less"∈ns then((AD 5 ρ).bind λa=>(some []).bind λl=>some (a::l)).bind λl=>IK (x::l)else none)) (λρ=>some (AC.next,ρ)) ρ else some (AC.next,ρ)) λρ=>some (AC.next,ρ)) ρ else some (AC.next,ρ)
def jN:PF:=λρ=>Option.map (λd=>(AC.ret d,ρ)) (((AM 2 ρ).bind λa=>(((((AM 1 ρ).bind λa=>((some (D.int 1)).bind GT).bind λb=>BL a b).bind λa=>(some []).bind λl=>some (a::l)).bind O6).bind λa=>(some (D.int 97)).bind λb=>EN a b).bind λb=>BL a b).bind λa=>((AM 2 ρ).bind λa=>(((((AM 0 ρ).bind λa=>((some (D.int 1)).bind GT).bind λb=>BL a b).bind λa=>(some []).bind λl=>some (a::l)).bind O6).bind λa=>(some (D.int 97)).bind λb=>EN a b).bind λb=>BL a b).bind λb=>Option.map D.bool (Q7 a b))
def YC:PF:=AG jN (λρ=>some (AC.next,ρ))
def YB:PF:=AG (QL C Gn I7 IK) YC
end
section
variable{prog:Program}{w:World}{AA:Heap}{n:Nat}{Sg:AP}{mg mb:Str→Option Value}
set_option maxHeartbeats 4000000
noncomputable def YU:AP:=⟨[("a",true),("x",true),("lo",true),("hi",true),("key",true),("mid",true)],["ValueError","len"],[],none⟩
theorem rM(B:B0 AA mg mb)(g_len:BK mg mb "len" (.builtin "len")){fdk:FuncData}{yk:Str}{fk:D→D→Option D}(hK:HT prog w AA n (GI fdk yk fk)):PS prog w AA n YU (DH 8) (QH fdk yk fk):=
 (AH (C5 (CD O1 (AR 2 rfl) (A7 (A1 _)) rfl) (AH OJ
 A2) A2)
 (AH (C5 (CD O0 (AR 3 rfl) (A7 N3) rfl) (AH (BZ 3 rfl (.inl rfl) (CW B 1 rfl g_len (by intro a q;cases q) KL (AO (λV=>rfl) AW) (BT (AR 0 rfl) BX (λV=>rfl))) (λV V=>rfl))
 A2) A2)
 (AH (C5 (CD O0 (AR 4 rfl) (A7 N3) rfl) (AH (tZ 12 (CD O1 (AR 2 rfl) (AR 3 rfl) rfl) (AH (BZ 5 rfl (.inl rfl) (AU JW (AU CI (AE 2 rfl) (AE 3 rfl)) (A1 _)) (λV V=>rfl))
 (AH (C5 (CD O1 (A7 (C2 (AR 0 rfl) (AE 5 rfl) (λV V=>rfl))) (AR 1 rfl) rfl) (AH (BZ 2 rfl (.inl rfl) (AU CI (AE 5 rfl) (A1 _)) (λV V=>rfl))
 A2) (AH (BZ 3 rfl (.inl rfl) (AE 5 rfl) (λV V=>rfl))
 A2))
 A2)))
 A2) (AH (tZ 12 (CD O1 (AR 2 rfl) (AR 3 rfl) rfl) (AH (BZ 5 rfl (.inl rfl) (AU JW (AU CI (AE 2 rfl) (AE 3 rfl)) (A1 _)) (λV V=>rfl))
 (AH (C5 (CD O1 (A7 (rG 4 rfl hK pL (AO (λV=>rfl) AW) (AN (C2 (AR 0 rfl) (AE 5 rfl) (λV V=>rfl)) A5 (λV=>rfl)))) (AR 1 rfl) rfl) (AH (BZ 2 rfl (.inl rfl) (AU CI (AE 5 rfl) (A1 _)) (λV V=>rfl))
 A2) (AH (BZ 3 rfl (.inl rfl) (AE 5 rfl) (λV V=>rfl))
 A2))
 A2)))
 A2))
 (AH (DZ (AE 2 rfl))
 A2))))
noncomputable def Y3:AP:=⟨[("a",true),("x",true),("lo",true),("hi",true),("key",true)],["bisect_left"],[],none⟩
theorem Ln(B:B0 AA mg mb){fdk:FuncData}{yk:Str}{fk:D→D→Option D}(hK:HT prog w AA n (GI fdk yk fk)){NA:Addr}{R1:Obj}{bN:FuncData}{QM:KF}(fB:mg "bisect_left"=some (.ref NA))(dT:AA.get? NA=some R1)(bC:R1.data=.func bN)(bI:KD prog w AA n NA "key" QM):PS prog w AA n Y3 (DH 7) (OK fdk yk fk QM):=
 (AH (C5 (CD O0 (AR 4 rfl) (A7 N3) rfl) (AH OJ
 A2) (AH (BZ 2 rfl (.inl rfl) (Kl B 0 rfl fB dT bC bI (AO (λV=>rfl) (AO (λV=>rfl) (AO (λV=>rfl) (AO (λV=>rfl) AW)))) (λV=>rfl) (BT (AR 0 rfl) (BT (A7 (rG 4 rfl hK pL (AO (λV=>rfl) AW) (AN (AE 1 rfl) A5 (λV=>rfl)))) (BT (AR 2 rfl) (BT (AR 3 rfl) BX (λV=>rfl)) (λV=>rfl)) (λV=>rfl)) (λV=>rfl)) (AE 4 rfl)) (λV V=>rfl))
 A2))
 (AH (MW 0 rfl Ja PySem.F.slot_list_insert PySem.F.type_list_insert (AO (λV=>rfl) (AO (λV=>rfl) AW)) (by decide) rfl (AN (AE 2 rfl) (AN (AE 1 rfl) A5 (λV=>rfl)) (λV=>rfl)) J4)
 A2))
noncomputable def YV:AP:=⟨[("self",true),("value",true),("name",true),("regex",true)],["AssertionError","ValueError","_name_disallowed_re","_value_disallowed_re","repr","str","type"],[],none⟩
theorem Lf(B:B0 AA mg mb){K:Frag}(X:K.In AA)(g_type:BK mg mb "type" (.type "type"))(g_str:BK mg mb "str" (.type "str")){aN aV:Addr}(Ej:BK mg mb "_name_disallowed_re" (.ref aN))(Ek:BK mg mb "_value_disallowed_re" (.ref aV)){ok:Addr→Str→Bool}(hok:OO K prog w ok):PS prog w AA n YV (C3 (C9 5 1)) (VY aN aV ok):=
 (AH (C5 (CD O0 (A7 (CW B 6 rfl g_type (by intro a q;cases q) lU (AO (λV=>rfl) AW) (BT (AR 1 rfl) BX (λV=>rfl)))) (A7 (VB B 5 rfl g_str (λg=>.ty _))) rfl) (AH (BZ 3 rfl (.inl rfl) (R8 (LQ (AE 2 rfl) (λV V=>rfl)) (VB B 2 rfl Ej (λg=>.adr _)) (VB B 3 rfl Ek (λg=>.adr _))) (λV V=>rfl))
 (AH (C5 (LQ (Kr X hok (λV V=>rfl) (AE 3 rfl) (AE 1 rfl) (λV=>rfl) rfl) (λV V=>rfl)) (AH OJ
 A2) A2)
 (AH (DZ (AE 1 rfl))
 A2))) A2)
 (AH OJ
 A2))
noncomputable def YZ:AP:=⟨[("self",true),("headers",true),("k",true),("v",true)],["TypeError","TypeError","list","type"],[],none⟩
theorem Lj(B:B0 AA mg mb){K:Frag}{C:Addr}(X:K.In AA)(c:D1 K C)(sc:QR K C)(Oq:takerIn K C "_headers"=some none)(g_type:BK mg mb "type" (.type "type"))(g_list:BK mg mb "list" (.type "list")):PS prog w AA n YZ (C3 (C9 5 0)) (V8 C):=
 (AH (BZ 1 rfl (.inl rfl) (R8 (CD aG (AR 1 rfl) (A7 N3) rfl) (AE 1 rfl) (d7 A5)) (λV V=>rfl))
 (AH (C5 (CD aG (A7 (CW B 3 rfl g_type (by intro a q;cases q) lU (AO (λV=>rfl) AW) (BT (AR 1 rfl) BX (λV=>rfl)))) (A7 (VB B 2 rfl g_list (λg=>.ty _))) rfl) (AH OJ
 A2) A2)
 (AH (QG B 0 X c sc Oq rfl (AE 1 rfl) (λV=>rfl))
 (AH (C5 (LQ (IY _) (λV V=>rfl)) (AH (IG (SL (.cons 2 rfl (.inl rfl) (.cons 3 rfl (.inl rfl) .nil))) (LN (AE 1 rfl)) (AH OJ
 (AH OJ
 A2)) (λV V=>rfl))
 A2) A2)
 A2))))
noncomputable def Y1:AP:=⟨[("self",true),("name",true),("val",true)],[],[],none⟩
theorem Ll(B:B0 AA mg mb){K:Frag}{C:Addr}(X:K.In AA)(c:D1 K C)(L2:EC K C "_headers"){L8:Addr}{R0:Obj}{RF:FuncData}{GS:KF}(PK:FC K AA C "_convert_string_type" L8 R0 RF)(O7:KD prog w AA n L8 "name" GS)(nq:noSeq K C=true){bK:Addr}{LD:GF}(Io:findIn K (.ref C) "__delitem__"=some (some (.ref bK)))(fn_del:typeIn K (.ref bK)=some (.type "function"))(Cm:JS prog w AA n bK [] (λl=>.hdr (some l) C) LD):PS prog w AA n Y1 (C3 (C9 5 3)) (V' C GS LD):=
 (AH (Qq 0 X nq Io fn_del Cm rfl (AE 1 rfl))
 (AH (Qp 0 X c L2 rfl (EP (AN (d9 0 X c PK (by decide) rfl O7 (AO (λV=>rfl) AW) (λV=>rfl) (λV=>rfl) rfl (AN (AE 1 rfl) A5 (λV=>rfl)) (IY _)) (AN (d9 0 X c PK (by decide) rfl O7 (AO (λV=>rfl) AW) (λV=>rfl) (λV=>rfl) rfl (AN (AE 2 rfl) A5 (λV=>rfl)) (IY _)) A5 (λV=>rfl)) (λV=>rfl)) (by decide)) (λV=>rfl) rfl J4)
 A2))
noncomputable def YX:AP:=⟨[("self",true),("name",false)],[],["name"],none⟩
theorem Lh(B:B0 AA mg mb){K:Frag}{C:Addr}(X:K.In AA)(c:D1 K C)(L2:EC K C "_headers"){L8:Addr}{R0:Obj}{RF:FuncData}{GS:KF}(PK:FC K AA C "_convert_string_type" L8 R0 RF)(O7:KD prog w AA n L8 "name" GS):PS prog w AA n YX (C3 (C9 5 4)) (V1 C GS):=
 (AH (BZ 1 rfl (.inr (by decide)) (d9 0 X c PK (by decide) rfl O7 (AO (λV=>rfl) AW) (λV=>rfl) (λV=>rfl) rfl (AN (LM (λV V=>rfl) (AR 1 rfl) LS PySem.F.plainAttrs_str PySem.F.slot_str_lower PySem.F.type_str_lower Q2 AW (by decide) rfl BX) A5 (λV=>rfl)) (IY _)) (λV V=>rfl))
 (AH (Qs 0 X c L2 rfl (EK (GK ⟨[("kv",true),("name",false)],[],[],none⟩ [0] [(1,1)] (E2 (by decide+kernel)) (by decide+kernel) (by decide+kernel) (PU (Kx 0 X c L2 rfl)) (DX 0 rfl (.inl rfl)) (SA (CD JY (A7 (LM (λV V=>rfl) (A7 (C2 (AR 0 rfl) (A1 _) (λV V=>rfl))) LS PySem.F.plainAttrs_str PySem.F.slot_str_lower PySem.F.type_str_lower Q2 AW (by decide) rfl BX)) (AR 1 rfl) rfl)) (AE 0 rfl) (λV V=>rfl))) (λV=>rfl))
 A2))
noncomputable def YY:AP:=⟨[("self",true),("name",true),("default",true),("k",true),("v",true)],[],[],none⟩
theorem Li(B:B0 AA mg mb){K:Frag}{C:Addr}(X:K.In AA)(c:D1 K C)(L2:EC K C "_headers"){L8:Addr}{R0:Obj}{RF:FuncData}{GS:KF}(PK:FC K AA C "_convert_string_type" L8 R0 RF)(O7:KD prog w AA n L8 "name" GS):PS prog w AA n YY (C3 (C9 5 8)) (V4 C GS):=
 (AH (BZ 1 rfl (.inl rfl) (Kn X c PK (λV V=>rfl) (AE 0 rfl) O7 (AO (λV=>rfl) AW) (λV=>rfl) (λV=>rfl) rfl (AN (LM (λV V=>rfl) (AR 1 rfl) LS PySem.F.plainAttrs_str PySem.F.slot_str_lower PySem.F.type_str_lower Q2 AW (by decide) rfl BX) A5 (λV=>rfl)) (IY _)) (λV V=>rfl))
 (AH (IG (SL (.cons 3 rfl (.inl rfl) (.cons 4 rfl (.inl rfl) .nil))) (LN (HM X c L2 (λV V=>rfl) (AE 0 rfl))) (AH (C5 (CD F7 (A7 (LM (λV V=>rfl) (AR 3 rfl) LS PySem.F.plainAttrs_str PySem.F.slot_str_lower PySem.F.type_str_lower Q2 AW (by decide) rfl BX)) (AR 1 rfl) rfl) (AH (DZ (AE 4 rfl))
 A2) A2)
 A2) (λV V=>rfl))
 (AH (DZ (AE 2 rfl))
 A2)))
noncomputable def Y0:AP:=⟨[("self",true)],[],[],none⟩
theorem Lk(B:B0 AA mg mb){K:Frag}{C:Addr}(X:K.In AA)(c:D1 K C)(L2:EC K C "_headers"):PS prog w AA n Y0 (C3 (C9 5 11)) (V9 C):=
 (AH (DZ (Kg (A7 (HM X c L2 (λV V=>rfl) (AE 0 rfl)))))
 A2)
noncomputable def Y5:AP:=⟨[("wishes",true),("ranks",true),("custom",true),("gap",true),("spots",true),("car",true),("comes",true),("spot",true),("stands",true),("step",true),("table",true)],["Headers","_law_takes","chr","len","range"],[],none⟩
theorem Lq(B:B0 AA mg mb){K:Frag}{C:Addr}(X:K.In AA)(c:D1 K C)(k_C:keepIn K (.ref C)=true)(OH:mg "Headers"=some (.ref C)){Gn:DF}(UC:CK prog w AA n C Gn)(Cr:Gn []=some (.obj C ["_headers"] [.lst []]))(nq:noSeq K C=true){bM:Addr}{FD:GF}(It:findIn K (.ref C) "__setitem__"=some (some (.ref bM)))(fn_set:typeIn K (.ref bM)=some (.type "function"))(Cu:JS prog w AA n bM [] (λl=>.hdr (some l) C) FD){RD:Addr}{dU:Obj}{bO:FuncData}{B1:DF}(dG:FC K AA C "get" RD dU bO)(bJ:CK prog w AA n RD B1)(g_range:BK mg mb "range" (.type "range"))(g_len:BK mg mb "len" (.builtin "len"))(g_chr:BK mg mb "chr" (.builtin "chr")){Gt:DF}(Cl:GR prog w AA mg n "_law_takes" Gt):PS prog w AA n Y5 (DH 18) (X2 C FD B1 Gt):=
 (AH (Qv B 10 0 X k_C rfl (.inl rfl) rfl OH UC Cr (λV V=>rfl))
 (AH (IG (DX 5 rfl (.inl rfl)) (JL B 4 rfl g_range (AO (λV=>rfl) AW) (AN (CW B 3 rfl g_len (by intro a q;cases q) KL (AO (λV=>rfl) AW) (BT (AR 0 rfl) BX (λV=>rfl))) A5 (λV=>rfl)) _) (AH (LU (.cons 6 rfl (.inl rfl) (.cons 7 rfl (.inl rfl) .nil)) (by decide) rfl (EP (AN (CW B 2 rfl g_chr (by intro a q;cases q) OY (AO (λV=>rfl) AW) (BT (A7 (AU CI (A1 _) (AE 5 rfl))) BX (λV=>rfl))) (AN (C2 (AR 0 rfl) (AE 5 rfl) (λV V=>rfl)) A5 (λV=>rfl)) (λV=>rfl)) (by decide)) (λV=>rfl))
 (AH (IG (DX 9 rfl (.inl rfl)) (JL B 4 rfl g_range (AO (λV=>rfl) AW) (AN (AE 4 rfl) A5 (λV=>rfl)) _) (AH (BZ 8 rfl (.inl rfl) (Km 10 X c dG (by decide) rfl bJ (AO (λV=>rfl) AW) (by decide) rfl (AN (CW B 2 rfl g_chr (by intro a q;cases q) OY (AO (λV=>rfl) AW) (BT (A7 (AU CI (A1 _) (AE 7 rfl))) BX (λV=>rfl))) A5 (λV=>rfl))) (λV V=>rfl))
 (AH (C5 (eA (CD O0 (AR 8 rfl) (A7 N3) rfl) (LQ (MN B 1 rfl Cl (AO (λV=>rfl) (AO (λV=>rfl) (AO (λV=>rfl) (AO (λV=>rfl) AW)))) (AN (AE 8 rfl) (AN (AE 6 rfl) (AN (AE 1 rfl) (AN (AE 2 rfl) A5 (λV=>rfl)) (λV=>rfl)) (λV=>rfl)) (λV=>rfl))) (λV V=>rfl))) (AH (Qr 10 X nq It fn_set Cu rfl (CW B 2 rfl g_chr (by intro a q;cases q) OY (AO (λV=>rfl) AW) (BT (A7 (AU CI (R8 (LQ (AU E8 (LM (λV V=>rfl) (AR 6 rfl) LS PySem.F.plainAttrs_str PySem.F.slot_str_count PySem.F.type_str_count lR (AO (λV=>rfl) AW) (by decide) rfl (BT (A7 (MO _)) BX (λV=>rfl))) (A1 _)) (λV V=>rfl)) (A1 _) (A1 _)) (AE 7 rfl))) BX (λV=>rfl))) (AE 6 rfl) (λV=>rfl))
 (AH (BZ 6 rfl (.inl rfl) (AE 8 rfl) (λV V=>rfl))
 A2)) A2)
 (AH (C5 (CD O0 (AR 6 rfl) (A7 N3) rfl) (AH tX
 A2) A2)
 (AH (LU (.cons 6 rfl (.inl rfl) (.cons 7 rfl (.inl rfl) .nil)) (by decide) rfl (EP (AN (AU CI (AU CI (AE 3 rfl) (MO _)) (AE 6 rfl)) (AN (AU E8 (AU CI (AE 7 rfl) (A1 _)) (AE 4 rfl)) A5 (λV=>rfl)) (λV=>rfl)) (by decide)) (λV=>rfl))
 A2)))) (λV V=>rfl))
 A2)) (λV V=>rfl))
 (VE 10 (AH (DZ (AE 10 rfl))
 A2))))
set_option maxHeartbeats 4000000
theorem l9{scope:Scope}{y:Str}(h:scope.names.filter (λp=>p.2==NameKind.free)=[(y,NameKind.free)]):∀(env:Env)(a:Addr),env.cells.lookup y=some a→closureFor scope env=pure [(y,a)]:=by
 intro env a ha;unfold closureFor;have key:∀(l:List (Str×NameKind))(acc:List (Str×Addr)),l.filter (λp=>p.2==NameKind.free)=[]→(forIn l acc (λ(p:Str×NameKind) cs=>if(p.2==NameKind.free)=true then(do let a ←cellOf env p.1;pure (ForInStep.yield ((p.1,a)::cs)))else pure (ForInStep.yield cs)):Sem (List (Str×Addr)))=pure acc:=by
  intro l
  induction l with
  |nil=>intro acc _;rfl
  |cons p l ih=>
   intro acc hp;rw[List.forIn_cons];by_cases hk:(p.2==NameKind.free)=true
   ·rw[List.filter_cons,if_pos hk]at hp;cases hp
   ·rw[if_neg hk];rw[List.filter_cons,if_neg hk]at hp;exact ih acc hp
 have key2:∀(l:List (Str×NameKind))(acc:List (Str×Addr)),l.filter (λp=>p.2==NameKind.free)=[(y,NameKind.free)]→(forIn l acc (λ(p:Str×NameKind) cs=>if(p.2==NameKind.free)=true then(do let a ←cellOf env p.1;pure (ForInStep.yield ((p.1,a)::cs)))else pure (ForInStep.yield cs)):Sem (List (Str×Addr)))=pure ((y,a)::acc):=by
  intro l
  induction l with
  |nil=>intro acc hp;cases hp
  |cons p l ih=>
   intro acc hp;rw[List.forIn_cons];by_cases hk:(p.2==NameKind.free)=true
   ·rw[List.filter_cons,if_pos hk]at hp;injection hp with e1 e2
    subst e1;rw[if_pos (by rfl)];have hc:cellOf env y=pure a:=by unfold cellOf;rw[ha]
    rw[show cellOf env (y,NameKind.free).1=pure a from hc];exact key l ((y,a)::acc) e2
   ·rw[if_neg hk];rw[List.filter_cons,if_neg hk]at hp;exact ih acc hp
 show(forIn scope.names [] _>>=_)=_;rw[show(forIn scope.names [] _:Sem (List (Str×Addr)))=pure [(y,a)]from key2 scope.names [] h];rfl
noncomputable def OP:AP:=⟨[("script",true),("car",true),("count",true),("custom",true),("dealt",true),("drives",false),("free",true),("gap",false),("given",true),("lead",true),("leads",false),("lights",false),("longest",true),("ranks",false),("row",false),("seen",false),("spot",false),("spots",false),("stands",true),("start",false),("table",false),("totals",true),("ways",false),("wished",false),("wishes",false)],["Whitespace","_law_drawn","_law_parked","_law_parting","bisect_left","insort_left","len","list","max","range","sorted","sum","zip"],["drives","gap","leads","lights","ranks","row","seen","spot","spots","start","table","ways","wished","wishes"],some (315,"law.<locals>.")⟩
theorem Lo(B:B0 AA mg mb)(BA:∀(h:Heap) P,A3 AA h→AA.get? P=none→h.BuiltinsAt mg P){K:Frag}{H W:Addr}(X:K.In AA)(c_H:D1 K H)(c_W:D1 K W)(OS:EC K W "nt")(TV:EC K W "n"){RD:Addr}{dU:Obj}{bO:FuncData}{B1:DF}(dG:FC K AA H "get" RD dU bO)(bJ:CK prog w AA (n+1) RD B1){nR:Addr}{Jj:Obj}{Cy:FuncData}{C7:DF}(Iq:FC K AA H "items" nR Jj Cy)(Cq:CK prog w AA (n+1) nR C7){L9:Addr}{R2:Obj}{RG:FuncData}{CL:DF}(NR:FC K AA W "longest_run_of_spaces" L9 R2 RG)(M':CK prog w AA (n+1) L9 CL){nT:Addr}{Jl:Obj}{Da:FuncData}{D3:DF}(Ir:FC K AA W "not_equal_witness" nT Jl Da)(Cs:CK prog w AA (n+1) nT D3)(k_W:keepIn K (.ref W)=true)(s8:mg "Whitespace"=some (.ref W)){GnW:DF}(nO:CK prog w AA (n+1) W GnW){QN:DF}(Cg:GR prog w AA mg (n+1) "_law_drawn" QN){KE:DF}(Ck:GR prog w AA mg (n+1) "_law_read" KE){FH:DF}(Ch:GR prog w AA mg (n+1) "_law_line" FH){EY:DF}(Ci:GR prog w AA mg (n+1) "_law_parked" EY){D2:DF}(Cj:GR prog w AA mg (n+1) "_law_parting" D2){bL:Addr}{qT:Obj}{Cx:FuncData}(Pl:mg "insort_left"=some (.ref bL))(Jh:AA.get? bL=some qT)(Bp:qT.data=.func Cx){Gins:GF}(Cp:JS prog w AA (n+1) bL ["key"] (λl=>.list (some l)) Gins){NA:Addr}{R1:Obj}{bN:FuncData}(fB:mg "bisect_left"=some (.ref NA))(dT:AA.get? NA=some R1)(bC:R1.data=.func bN){Gbis:DF}(bI:CK prog w AA (n+1) NA Gbis){gk2:D→List D→Option D}(hK2:HT prog w AA n gk2)(g_range:BK mg mb "range" (.type "range"))(g_list:BK mg mb "list" (.type "list"))(g_zip:BK mg mb "zip" (.type "zip"))(g_len:BK mg mb "len" (.builtin "len"))(g_max:BK mg mb "max" (.builtin "max"))(g_sum:BK mg mb "sum" (.builtin "sum"))(g_sorted:BK mg mb "sorted" (.builtin "sorted"))(g_chr:BK mg mb "chr" (.builtin "chr"))(g_ord:BK mg mb "ord" (.builtin "ord")):PS prog w AA (n+1) OP (DH 21) (SV mg H W B1 C7 CL D3 GnW QN KE FH EY D2 Gins Gbis gk2):=
 (AH (BZ 21 rfl (.inl rfl) (MN B 1 rfl Cg (AO (λV=>rfl) AW) (AN (Ko 0 rfl) A5 (λV=>rfl))) (λV V=>rfl))
 (AH (LU (.cons 17 rfl (.inr (by decide)) (.cons 2 rfl (.inl rfl) (.cons 7 rfl (.inr (by decide)) .nil))) (by decide) rfl (EP (AN (AU CI (A1 _) (AU E8 (C2 (AR 21 rfl) (A1 _) (λV V=>rfl)) (A1 _))) (AN (AU CI (A1 _) (AU E8 (AU JW (C2 (AR 21 rfl) (A1 _) (λV V=>rfl)) (A1 _)) (A1 _))) (AN (AU Z4 (MO _) (AU E8 (AU JW (C2 (AR 21 rfl) (A1 _) (λV V=>rfl)) (A1 _)) (A1 _))) A5 (λV=>rfl)) (λV=>rfl)) (λV=>rfl)) (by decide)) (λV=>rfl))
 (AH (BZ 24 rfl (.inr (by decide)) (EK (GK ⟨[("x",true),("spots",false)],[],[],none⟩ [0] [(1,17)] (E2 (by decide+kernel)) (by decide+kernel) (by decide+kernel) (LN (PR (AR 21 rfl) (AE 2 rfl))) (DX 0 rfl (.inl rfl)) HA (AU E8 (AE 0 rfl) (AE 1 rfl)) (λV V=>rfl))) (λenv H=>P7 H (i:=24) rfl _ _ _))
 (AH (BZ 11 rfl (.inr (by decide)) (EK (GK ⟨[("x",true),("spots",false)],[],[],none⟩ [0] [(1,17)] (E2 (by decide+kernel)) (by decide+kernel) (by decide+kernel) (LN (PR (AR 21 rfl) (AE 2 rfl))) (DX 0 rfl (.inl rfl)) HA (AU CI (AU E8 (AU JW (AE 0 rfl) (AU F6 (A1 _) (AE 1 rfl))) (A1 _)) (A1 _)) (λV V=>rfl))) (λenv H=>P7 H (i:=11) rfl _ _ _))
 (AH (BZ 15 rfl (.inr (by decide)) (EK (GK ⟨[("x",true),("spots",false)],["_law_read"],[],none⟩ [0] [(1,17)] (E2 (by decide+kernel)) (by decide+kernel) (by decide+kernel) (LN (PR (AR 21 rfl) (AE 2 rfl))) (DX 0 rfl (.inl rfl)) HA (MN B 0 rfl Ck (AO (λV=>rfl) (AO (λV=>rfl) AW)) (AN (AE 0 rfl) (AN (AE 1 rfl) A5 (λV=>rfl)) (λV=>rfl))) (λV V=>rfl))) (λenv H=>P7 H (i:=15) rfl _ _ _))
 (AH (C5 (CD JY (AR 15 rfl) (A7 (EK (Kv B 7 12 rfl g_list rfl g_zip (AR 24 rfl) (AR 11 rfl) (λV=>rfl) (λV=>rfl) (λV=>rfl)))) rfl) (AH (DZ (IY _))
 A2) A2)
 (AH (MX 14 rfl (.inr (by decide)) (J' A5) (λV V=>rfl))
 (AH (IG (DX 1 rfl (.inl rfl)) (JL B 9 rfl g_range (AO (λV=>rfl) AW) (AN (AE 2 rfl) A5 (λV=>rfl)) _) (AH (Qu B BA 0 15 14 5 rfl rfl rfl rfl rfl Pl Jh Bp Cp (AE 1 rfl) (λV=>rfl) (λV=>rfl) (l9 rfl) J4)
 A2) (λV V=>rfl))
 (AH (Qt B BA 0 11 14 10 rfl rfl rfl rfl rfl g_sorted hK2 (CW B 9 rfl g_range (by intro a q;cases q) lS (AO (λV=>rfl) AW) (BT (AR 2 rfl) BX (λV=>rfl))) (λV=>rfl) (λV=>rfl) (l9 rfl) (AH (DZ (IY _))
 A2))
 (VE 14 (AH (BZ 13 rfl (.inr (by decide)) (EK (GK ⟨[("car",true),("row",false)],[],[],none⟩ [0] [(1,14)] (E2 (by decide+kernel)) (by decide+kernel) (by decide+kernel) (JL B 9 rfl g_range (AO (λV=>rfl) AW) (AN (AE 2 rfl) A5 (λV=>rfl)) true) (DX 0 rfl (.inl rfl)) HA (LM (λV V=>rfl) (AR 1 rfl) qE PySem.F.plainAttrs_list PySem.F.slot_list_index PySem.F.type_list_index yC (AO (λV=>rfl) AW) (by decide) rfl (BT (AR 0 rfl) BX (λV=>rfl))) (λV V=>rfl))) (λenv H=>P7 H (i:=13) rfl _ _ _))
 (AH (MX 5 rfl (.inr (by decide)) (J' A5) (λV V=>rfl))
 (AH (IG (DX 16 rfl (.inr (by decide))) (JL B 9 rfl g_range (AO (λV=>rfl) AW) (AN (AE 17 rfl) A5 (λV=>rfl)) _) (AH (BZ 23 rfl (.inr (by decide)) (EK (GK ⟨[("far",false),("wishes",false),("spots",false),("spot",false)],["len"],["far"],none⟩ [0] [(1,24),(2,17),(3,16)] (E2 (by decide+kernel)) (by decide+kernel) (by decide+kernel) (JL B 9 rfl g_range (AO (λV=>rfl) AW) (AN (AE 2 rfl) A5 (λV=>rfl)) true) (DX 0 rfl (.inr (by decide))) HA (CW B 0 rfl g_len (by intro a q;cases q) KL (AO (λV=>rfl) AW) (BT (A7 (EK (GK ⟨[("wish",true),("far",false),("spots",false),("spot",false)],[],[],none⟩ [0] [(1,0),(2,2),(3,3)] (E2 (by decide+kernel)) (by decide+kernel) (by decide+kernel) (PU (AR 1 rfl)) (DX 0 rfl (.inl rfl)) (SA (CD O1 (A7 (AU E8 (AU E0 (AE 3 rfl) (AE 0 rfl)) (AE 2 rfl))) (AR 1 rfl) rfl)) (A1 _) (λV V=>rfl)))) BX (λV=>rfl))) (λV V=>rfl))) (λenv H=>P7 H (i:=23) rfl _ _ _))
 (AH (MW 5 rfl NU PySem.F.slot_list_append PySem.F.type_list_append (AO (λV=>rfl) AW) (by decide) rfl (AN (CW B 8 rfl g_max (by intro a q;cases q) Z1 (AO (λV=>rfl) AW) (BT (A7 (EK (GK ⟨[("far",true),("wished",false)],[],[],none⟩ [0] [(1,23)] (E2 (by decide+kernel)) (by decide+kernel) (by decide+kernel) (JL B 9 rfl g_range (AO (λV=>rfl) AW) (AN (AE 2 rfl) A5 (λV=>rfl)) true) (DX 0 rfl (.inl rfl)) HA (AU E0 (C2 (AR 1 rfl) (AE 0 rfl) (λV V=>rfl)) (AE 0 rfl)) (λV V=>rfl)))) BX (λV=>rfl))) A5 (λV=>rfl)) J4)
 A2)) (λV V=>rfl))
 (VE 5 (AH (BZ 19 rfl (.inr (by decide)) (C2 (A7 (EK (GK ⟨[("spot",true),("wishes",false),("drives",false)],[],[],none⟩ [0] [(1,24),(2,5)] (E2 (by decide+kernel)) (by decide+kernel) (by decide+kernel) (JL B 9 rfl g_range (AO (λV=>rfl) AW) (AN (AE 17 rfl) A5 (λV=>rfl)) true) (DX 0 rfl (.inl rfl)) (SA (rO (CD Av (AR 0 rfl) (AR 1 rfl) rfl) (CD F7 (A7 (C2 (AR 2 rfl) (AU E0 (AE 0 rfl) (A1 _)) (λV V=>rfl))) (A7 (A1 _)) rfl))) (AE 0 rfl) (λV V=>rfl)))) (A1 _) (λV V=>rfl)) (λV V=>rfl))
 (AH (fM 4 ⟨[("custom",true),("wishes",false),("ranks",false),("gap",false),("spots",false),("start",false)],["_law_line"],[],none⟩ [0] [(1,24),(2,13),(3,7),(4,17),(5,19)] rfl (E2 (by decide+kernel)) (by decide+kernel) (by decide+kernel) (JL B 9 rfl g_range (AO (λV=>rfl) AW) (AN (A1 _) A5 (λV=>rfl)) true) (DX 0 rfl (.inl rfl)) HA (MN B 0 rfl Ch (AO (λV=>rfl) (AO (λV=>rfl) (AO (λV=>rfl) (AO (λV=>rfl) (AO (λV=>rfl) (AO (λV=>rfl) AW)))))) (AN (AE 1 rfl) (AN (AE 2 rfl) (AN (AE 0 rfl) (AN (AE 3 rfl) (AN (AE 4 rfl) (AN (AE 5 rfl) A5 (λV=>rfl)) (λV=>rfl)) (λV=>rfl)) (λV=>rfl)) (λV=>rfl)) (λV=>rfl))) (λV V=>rfl) rfl)
 (AH (MX 10 rfl (.inr (by decide)) (J' A5) (λV V=>rfl))
 (AH (IG (DX 3 rfl (.inl rfl)) (JL B 9 rfl g_range (AO (λV=>rfl) AW) (AN (A1 _) A5 (λV=>rfl)) _) (AH (BZ 20 rfl (.inr (by decide)) (MN B 2 rfl Ci (AO (λV=>rfl) (AO (λV=>rfl) (AO (λV=>rfl) (AO (λV=>rfl) (AO (λV=>rfl) AW))))) (AN (AE 24 rfl) (AN (AE 13 rfl) (AN (AE 3 rfl) (AN (AE 7 rfl) (AN (AE 17 rfl) A5 (λV=>rfl)) (λV=>rfl)) (λV=>rfl)) (λV=>rfl)) (λV=>rfl))) (λV V=>rfl))
 (AH (fM 18 ⟨[("step",true),("table",false),("spots",false),("start",false)],["chr"],[],none⟩ [0] [(1,20),(2,17),(3,19)] rfl (E2 (by decide+kernel)) (by decide+kernel) (by decide+kernel) (JL B 9 rfl g_range (AO (λV=>rfl) AW) (AN (AE 17 rfl) A5 (λV=>rfl)) true) (DX 0 rfl (.inl rfl)) HA (GX X c_H dG (λV V=>rfl) (AE 1 rfl) bJ (AO (λV=>rfl) AW) (by decide) rfl (AN (CW B 0 rfl g_chr (by intro a q;cases q) OY (AO (λV=>rfl) AW) (BT (A7 (AU CI (A1 _) (AU E8 (AU CI (AE 3 rfl) (AE 0 rfl)) (AE 2 rfl)))) BX (λV=>rfl))) A5 (λV=>rfl))) (λV V=>rfl) rfl)
 (AH (BZ 9 rfl (.inl rfl) (VC B 0 X k_W rfl s8 nO (AO (λV=>rfl) AW) (AN (AU CI (LM (λV V=>rfl) (A7 (MO _)) LS PySem.F.plainAttrs_str PySem.F.slot_str_join PySem.F.type_str_join yE (AO (λV=>rfl) AW) (by decide) rfl (BT (A7 (EK (GK ⟨[("told",true)],["Whitespace"],[],none⟩ [0] [] (E2 (by decide+kernel)) (by decide+kernel) (by decide+kernel) (PU (AR 18 rfl)) (DX 0 rfl (.inl rfl)) (SA (CD aG (AR 0 rfl) (A7 N3) rfl)) (AU Z4 (MO _) (HM X c_W OS (λV V=>rfl) (VC B 0 X k_W rfl s8 nO (AO (λV=>rfl) AW) (AN (AE 0 rfl) A5 (λV=>rfl))))) (λV V=>rfl)))) BX (λV=>rfl))) (MO _)) A5 (λV=>rfl))) (λV V=>rfl))
 (AH (C5 (eA (CD JY (A7 (HM X c_W TV (λV V=>rfl) (AE 9 rfl))) (A7 (AU CI (AU E0 (AE 2 rfl) (A1 _)) (CW B 11 rfl g_sum (by intro a q;cases q) Z2 (AO (λV=>rfl) AW) (BT (AR 5 rfl) BX (λV=>rfl))))) rfl) (CD JY (A7 (EK (PY B 10 rfl g_sorted (by intro a q;cases q) (T0 B) (AO (λV=>rfl) AW) (BT (A7 (GX X c_H Iq (λV V=>rfl) (AE 20 rfl) Cq AW (by decide) rfl A5)) BX (λV=>rfl))))) (A7 (EK (PY B 10 rfl g_sorted (by intro a q;cases q) (T0 B) (AO (λV=>rfl) AW) (BT (A7 (C2 (AR 4 rfl) (AE 3 rfl) (λV V=>rfl))) BX (λV=>rfl))))) rfl)) (AH (DZ (IY _))
 A2) A2)
 (AH (MW 10 rfl NU PySem.F.slot_list_append PySem.F.type_list_append (AO (λV=>rfl) AW) (by decide) rfl (AN (AE 9 rfl) A5 (λV=>rfl)) J4)
 A2))))) (λV V=>rfl))
 (AH (tY 6 8 (by decide) rfl rfl (.inl rfl) (.inl rfl) (PY B 7 rfl g_list (by intro a q;cases q) yJ (AO (λV=>rfl) AW) (BT (A7 (CW B 9 rfl g_range (by intro a q;cases q) lS (AO (λV=>rfl) AW) (BT (AR 17 rfl) BX (λV=>rfl)))) BX (λV=>rfl))) (J' A5) rfl (λV=>rfl) (λV=>rfl) (λV=>rfl))
 (AH (IG (DX 1 rfl (.inl rfl)) (LN (Kq (AR 14 rfl) (KW (A1 _)))) (AH (Qw 8 6 (by decide) rfl rfl (AU E8 (Kk B 4 rfl fB dT bC bI (AO (λV=>rfl) (AO (λV=>rfl) AW)) (BT (AR 6 rfl) (BT (A7 (C2 (AR 24 rfl) (AE 1 rfl) (λV V=>rfl))) BX (λV=>rfl)) (λV=>rfl))) (CW B 6 rfl g_len (by intro a q;cases q) KL (AO (λV=>rfl) AW) (BT (AR 6 rfl) BX (λV=>rfl)))) (AE 1 rfl) (λV=>rfl) (λV=>rfl) (λV=>rfl) (λV=>rfl) rfl rfl J4)
 A2) (λV V=>rfl))
 (AH (C5 (CD JY (A7 (EK (PY B 10 rfl g_sorted (by intro a q;cases q) (T0 B) (AO (λV=>rfl) AW) (BT (AR 8 rfl) BX (λV=>rfl))))) (A7 (EK (PY B 10 rfl g_sorted (by intro a q;cases q) (T0 B) (AO (λV=>rfl) AW) (BT (A7 (EK (GK ⟨[("name",true),("told",true)],["ord"],[],none⟩ [0,1] [] (E2 (by decide+kernel)) (by decide+kernel) (by decide+kernel) (LN (C2 (AR 4 rfl) (A1 _) (λV V=>rfl))) (SL (.cons 0 rfl (.inl rfl) (.cons 1 rfl (.inl rfl) .nil))) HA (EP (AN (AU E0 (CW B 0 rfl g_ord (by intro a q;cases q) TZ (AO (λV=>rfl) AW) (BT (A7 (LM (λV V=>rfl) (AR 0 rfl) LS PySem.F.plainAttrs_str PySem.F.slot_str_lower PySem.F.type_str_lower Q2 AW (by decide) rfl BX)) BX (λV=>rfl))) (A1 _)) (AN (AU E0 (CW B 0 rfl g_ord (by intro a q;cases q) TZ (AO (λV=>rfl) AW) (BT (A7 (C2 (AR 1 rfl) (KW (A1 _)) (λV V=>rfl))) BX (λV=>rfl))) (A1 _)) A5 (λV=>rfl)) (λV=>rfl)) (by decide)) (λV V=>rfl)))) BX (λV=>rfl))))) rfl) (AH (DZ (IY _))
 A2) A2)
 (AH (BZ 22 rfl (.inr (by decide)) (EK (GK ⟨[("pairs",true)],[],[],none⟩ [0] [] (E2 (by decide+kernel)) (by decide+kernel) (by decide+kernel) (PU (AR 4 rfl)) (DX 0 rfl (.inl rfl)) HA (EK (GK ⟨[("name",true),("told",true)],[],[],none⟩ [0,1] [] (E2 (by decide+kernel)) (by decide+kernel) (by decide+kernel) (PU (AR 0 rfl)) (SL (.cons 0 rfl (.inl rfl) (.cons 1 rfl (.inl rfl) .nil))) HA (LM (λV V=>rfl) (AR 1 rfl) LS PySem.F.plainAttrs_str PySem.F.slot_str_count PySem.F.type_str_count lR (AO (λV=>rfl) AW) (by decide) rfl (BT (A7 (MO _)) BX (λV=>rfl))) (λV V=>rfl))) (λV V=>rfl))) (λenv H=>P7 H (i:=22) rfl _ _ _))
 (VE 10 (AH (fM 12 ⟨[("custom",true),("leads",false)],[],[],none⟩ [0] [(1,10)] rfl (E2 (by decide+kernel)) (by decide+kernel) (by decide+kernel) (rI (EP (AN (A1 _) (AN (A1 _) (AN (A1 _) A5 (λV=>rfl)) (λV=>rfl)) (λV=>rfl)) (by decide)) true) (DX 0 rfl (.inl rfl)) HA (GX X c_W NR (λV V=>rfl) (C2 (AR 1 rfl) (AE 0 rfl) (λV V=>rfl)) M' AW (by decide) rfl A5) (λV V=>rfl) rfl)
 (AH (C5 (eA (CD JY (AR 12 rfl) (A7 (EK (PY B 10 rfl g_sorted (by intro a q;cases q) (yK B) (AO (λV=>rfl) AW) (BT (AR 12 rfl) BX (λV=>rfl))))) rfl) (CD JY (AR 12 rfl) (A7 (EK (GK ⟨[("custom",true),("ways",false)],["max"],[],none⟩ [0] [(1,22)] (E2 (by decide+kernel)) (by decide+kernel) (by decide+kernel) (rI (EP (AN (A1 _) (AN (A1 _) (AN (A1 _) A5 (λV=>rfl)) (λV=>rfl)) (λV=>rfl)) (by decide)) true) (DX 0 rfl (.inl rfl)) HA (CW B 0 rfl g_max (by intro a q;cases q) Z1 (AO (λV=>rfl) AW) (BT (A7 (C2 (AR 1 rfl) (AE 0 rfl) (λV V=>rfl))) BX (λV=>rfl))) (λV V=>rfl)))) rfl)) (AH (DZ (IY _))
 A2) A2)
 (AH (DZ (R7 F7 (A7 (GX X c_W Ir (λV V=>rfl) (C2 (AR 10 rfl) (A1 _) (λV V=>rfl)) Cs (AO (λV=>rfl) AW) (by decide) rfl (AN (C2 (AR 10 rfl) (A1 _) (λV V=>rfl)) A5 (λV=>rfl)))) (A7 (MN B 3 rfl Cj (AO (λV=>rfl) (AO (λV=>rfl) AW)) (AN (C2 (AR 22 rfl) (A1 _) (λV V=>rfl)) (AN (C2 (AR 22 rfl) (A1 _) (λV V=>rfl)) A5 (λV=>rfl)) (λV=>rfl)))) rfl))
 A2))))))))))))))))))))))))))
set_option maxHeartbeats 4000000
noncomputable def Y2:AP:=⟨[("h",true),("s",true),("v",true),("f",true),("i",true),("p",true),("q",true),("t",true)],["int"],[],none⟩
theorem Lm(B:B0 AA mg mb)(g_int:BK mg mb "int" (.type "int")):PS prog w AA n Y2 (DH 11) (gL):=
 (AH (C5 (CD F7 (AR 1 rfl) (A7 (IZ _)) rfl) (AH (DZ (EP (AN (AE 2 rfl) (AN (AE 2 rfl) (AN (AE 2 rfl) A5 (λV=>rfl)) (λV=>rfl)) (λV=>rfl)) (by decide)))
 A2) A2)
 (AH (BZ 4 rfl (.inl rfl) (CW B 0 rfl g_int (by intro a q;cases q) yD (AO (λV=>rfl) AW) (BT (A7 (AU F6 (AE 0 rfl) (IZ _))) BX (λV=>rfl))) (λV V=>rfl))
 (AH (BZ 3 rfl (.inl rfl) (AU E0 (AU F6 (AE 0 rfl) (IZ _)) (AE 4 rfl)) (λV V=>rfl))
 (AH (BZ 5 rfl (.inl rfl) (AU F6 (AE 2 rfl) (AU E0 (IZ _) (AE 1 rfl))) (λV V=>rfl))
 (AH (BZ 6 rfl (.inl rfl) (AU F6 (AE 2 rfl) (AU E0 (IZ _) (AU F6 (AE 1 rfl) (AE 3 rfl)))) (λV V=>rfl))
 (AH (BZ 7 rfl (.inl rfl) (AU F6 (AE 2 rfl) (AU E0 (IZ _) (AU F6 (AE 1 rfl) (AU E0 (IZ _) (AE 3 rfl))))) (λV V=>rfl))
 (AH (BZ 4 rfl (.inl rfl) (AU E8 (AE 4 rfl) (A1 _)) (λV V=>rfl))
 (AH (C5 (CD F7 (AR 4 rfl) (A7 (A1 _)) rfl) (AH (DZ (EP (AN (AE 2 rfl) (AN (AE 7 rfl) (AN (AE 5 rfl) A5 (λV=>rfl)) (λV=>rfl)) (λV=>rfl)) (by decide)))
 A2) A2)
 (AH (C5 (CD F7 (AR 4 rfl) (A7 (A1 _)) rfl) (AH (DZ (EP (AN (AE 6 rfl) (AN (AE 2 rfl) (AN (AE 5 rfl) A5 (λV=>rfl)) (λV=>rfl)) (λV=>rfl)) (by decide)))
 A2) A2)
 (AH (C5 (CD F7 (AR 4 rfl) (A7 (A1 _)) rfl) (AH (DZ (EP (AN (AE 5 rfl) (AN (AE 2 rfl) (AN (AE 7 rfl) A5 (λV=>rfl)) (λV=>rfl)) (λV=>rfl)) (by decide)))
 A2) A2)
 (AH (C5 (CD F7 (AR 4 rfl) (A7 (A1 _)) rfl) (AH (DZ (EP (AN (AE 5 rfl) (AN (AE 6 rfl) (AN (AE 2 rfl) A5 (λV=>rfl)) (λV=>rfl)) (λV=>rfl)) (by decide)))
 A2) A2)
 (AH (C5 (CD F7 (AR 4 rfl) (A7 (A1 _)) rfl) (AH (DZ (EP (AN (AE 7 rfl) (AN (AE 5 rfl) (AN (AE 2 rfl) A5 (λV=>rfl)) (λV=>rfl)) (λV=>rfl)) (by decide)))
 A2) A2)
 (AH (C5 (CD F7 (AR 4 rfl) (A7 (A1 _)) rfl) (AH (DZ (EP (AN (AE 2 rfl) (AN (AE 5 rfl) (AN (AE 6 rfl) A5 (λV=>rfl)) (λV=>rfl)) (λV=>rfl)) (by decide)))
 A2) A2)
 A2)))))))))))))
noncomputable def Y8:AP:=⟨[("r",true),("g",true),("b",true),("bc",true),("gc",true),("h",true),("maxc",true),("minc",true),("rangec",true),("rc",true),("s",true),("v",true)],["max","min"],[],none⟩
theorem Lu(B:B0 AA mg mb)(g_max:BK mg mb "max" (.builtin "max"))(g_min:BK mg mb "min" (.builtin "min")):PS prog w AA n Y8 (DH 10) (jM):=
 (AH (BZ 6 rfl (.inl rfl) (CW B 0 rfl g_max (by intro a q;cases q) yF (AO (λV=>rfl) (AO (λV=>rfl) (AO (λV=>rfl) AW))) (BT (AR 0 rfl) (BT (AR 1 rfl) (BT (AR 2 rfl) BX (λV=>rfl)) (λV=>rfl)) (λV=>rfl))) (λV V=>rfl))
 (AH (BZ 7 rfl (.inl rfl) (CW B 1 rfl g_min (by intro a q;cases q) yH (AO (λV=>rfl) (AO (λV=>rfl) (AO (λV=>rfl) AW))) (BT (AR 0 rfl) (BT (AR 1 rfl) (BT (AR 2 rfl) BX (λV=>rfl)) (λV=>rfl)) (λV=>rfl))) (λV V=>rfl))
 (AH (BZ 8 rfl (.inl rfl) (AU E0 (AE 6 rfl) (AE 7 rfl)) (λV V=>rfl))
 (AH (BZ 11 rfl (.inl rfl) (AE 6 rfl) (λV V=>rfl))
 (AH (C5 (CD F7 (AR 7 rfl) (AR 6 rfl) rfl) (AH (DZ (EP (AN (IZ _) (AN (IZ _) (AN (AE 11 rfl) A5 (λV=>rfl)) (λV=>rfl)) (λV=>rfl)) (by decide)))
 A2) A2)
 (AH (BZ 10 rfl (.inl rfl) (AU L4 (AE 8 rfl) (AE 6 rfl)) (λV V=>rfl))
 (AH (BZ 9 rfl (.inl rfl) (AU L4 (AU E0 (AE 6 rfl) (AE 0 rfl)) (AE 8 rfl)) (λV V=>rfl))
 (AH (BZ 4 rfl (.inl rfl) (AU L4 (AU E0 (AE 6 rfl) (AE 1 rfl)) (AE 8 rfl)) (λV V=>rfl))
 (AH (BZ 3 rfl (.inl rfl) (AU L4 (AU E0 (AE 6 rfl) (AE 2 rfl)) (AE 8 rfl)) (λV V=>rfl))
 (AH (C5 (CD F7 (AR 0 rfl) (AR 6 rfl) rfl) (AH (BZ 5 rfl (.inl rfl) (AU E0 (AE 3 rfl) (AE 4 rfl)) (λV V=>rfl))
 A2) (AH (C5 (CD F7 (AR 1 rfl) (AR 6 rfl) rfl) (AH (BZ 5 rfl (.inl rfl) (AU E0 (AU CI (IZ _) (AE 9 rfl)) (AE 3 rfl)) (λV V=>rfl))
 A2) (AH (BZ 5 rfl (.inl rfl) (AU E0 (AU CI (IZ _) (AE 4 rfl)) (AE 9 rfl)) (λV V=>rfl))
 A2))
 A2))
 (AH (BZ 5 rfl (.inl rfl) (AU E8 (AU L4 (AE 5 rfl) (IZ _)) (IZ _)) (λV V=>rfl))
 (AH (DZ (EP (AN (AE 5 rfl) (AN (AE 10 rfl) (AN (AE 11 rfl) A5 (λV=>rfl)) (λV=>rfl)) (λV=>rfl)) (by decide)))
 A2))))))))))))
noncomputable def Y7:AP:=⟨[("x",true),("spots",true),("blue",true),("green",true),("hue",true),("red",true),("seen",true),("share",true),("value",true)],["hsv_to_rgb","rgb_to_hsv","round"],[],none⟩
theorem Ls(B:B0 AA mg mb)(g_round:BK mg mb "round" (.builtin "round")){G1 G2:DF}(Co:GR prog w AA mg n "hsv_to_rgb" G1)(Ct:GR prog w AA mg n "rgb_to_hsv" G2):PS prog w AA n Y7 (DH 16) (X' G1 G2):=
 (AH (LU (.cons 4 rfl (.inl rfl) (.cons 7 rfl (.inl rfl) (.cons 8 rfl (.inl rfl) .nil))) (by decide) rfl (EP (AN (AU CI (AU L4 (AU E8 (AE 0 rfl) (AE 1 rfl)) (AE 1 rfl)) (AU E8 (AU JW (AE 0 rfl) (AE 1 rfl)) (A1 _))) (AN (AU CI (AU E8 (AU JW (AE 0 rfl) (AU F6 (A1 _) (AE 1 rfl))) (A1 _)) (A1 _)) (AN (AU CI (AU E8 (AU JW (AE 0 rfl) (AU F6 (A1 _) (AE 1 rfl))) (A1 _)) (A1 _)) A5 (λV=>rfl)) (λV=>rfl)) (λV=>rfl)) (by decide)) (λV=>rfl))
 (AH (LU (.cons 5 rfl (.inl rfl) (.cons 3 rfl (.inl rfl) (.cons 2 rfl (.inl rfl) .nil))) (by decide) rfl (MN B 0 rfl Co (AO (λV=>rfl) (AO (λV=>rfl) (AO (λV=>rfl) AW))) (AN (AE 4 rfl) (AN (AU L4 (AE 7 rfl) (A1 _)) (AN (AU L4 (AE 8 rfl) (A1 _)) A5 (λV=>rfl)) (λV=>rfl)) (λV=>rfl))) (λV=>rfl))
 (AH (BZ 6 rfl (.inl rfl) (MN B 1 rfl Ct (AO (λV=>rfl) (AO (λV=>rfl) (AO (λV=>rfl) AW))) (AN (AE 5 rfl) (AN (AE 3 rfl) (AN (AE 2 rfl) A5 (λV=>rfl)) (λV=>rfl)) (λV=>rfl))) (λV V=>rfl))
 (AH (DZ (EP (AN (AU E8 (CW B 2 rfl g_round (by intro a q;cases q) lT (AO (λV=>rfl) AW) (BT (A7 (AU F6 (C2 (AR 6 rfl) (A1 _) (λV V=>rfl)) (AE 1 rfl))) BX (λV=>rfl))) (AE 1 rfl)) (AN (CW B 2 rfl g_round (by intro a q;cases q) lT (AO (λV=>rfl) AW) (BT (A7 (AU F6 (C2 (AR 6 rfl) (A1 _) (λV V=>rfl)) (A1 _))) BX (λV=>rfl))) A5 (λV=>rfl)) (λV=>rfl)) (by decide)))
 A2))))
noncomputable def YW:AP:=⟨[("script",true),("number",true),("place",true),("totals",true)],["enumerate"],[],none⟩
theorem Lg(B:B0 AA mg mb)(g_enumerate:BK mg mb "enumerate" (.type "enumerate")):PS prog w AA n YW (DH 15) (VZ):=
 (AH (MX 3 rfl (.inl rfl) (J' (AN (A1 _) (AN (A1 _) (AN (A1 _) (AN (A1 _) (AN (A1 _) (AN (A1 _) A5 (λV=>rfl)) (λV=>rfl)) (λV=>rfl)) (λV=>rfl)) (λV=>rfl)) (λV=>rfl))) (λV V=>rfl))
 (AH (Qo B 0 rfl g_enumerate (.cons 2 rfl (.inl rfl) (.cons 1 rfl (.inl rfl) .nil)) (AO (λV=>rfl) AW) (N6 (PR (AR 0 rfl) (A1 _))) (AH (Qm 3 rfl (AU E8 (AE 2 rfl) (A1 _)) (AU E8 (AE 1 rfl) (A1 _)) (λV V V=>rfl))
 A2) (λV V=>rfl))
 (AH (VT 3 rfl)
 A2)))
noncomputable def Y6:AP:=⟨[("left",true),("right",true),("here",true),("size",false),("there",true),("told",true)],["max","range","sum"],["size"],none⟩
theorem Lr(B:B0 AA mg mb)(g_range:BK mg mb "range" (.type "range"))(g_max:BK mg mb "max" (.builtin "max"))(g_sum:BK mg mb "sum" (.builtin "sum")):PS prog w AA n Y6 (DH 20) (X5):=
 (AH (MX 5 rfl (.inl rfl) (J' A5) (λV V=>rfl))
 (AH (IG (DX 3 rfl (.inr (by decide))) (R9 B 1 rfl g_range (AO (λV=>rfl) (AO (λV=>rfl) AW)) (AN (A1 _) (AN (AU CI (CW B 0 rfl g_max (by intro a q;cases q) Z1 (AO (λV=>rfl) AW) (BT (A7 (EK (rL B (AR 0 rfl) (AR 1 rfl)))) BX (λV=>rfl))) (A1 _)) A5 (λV=>rfl)) (λV=>rfl)) _) (AH (BZ 2 rfl (.inl rfl) (AU CI (CW B 2 rfl g_sum (by intro a q;cases q) Z2 (AO (λV=>rfl) AW) (BT (A7 (EK (GK ⟨[("way",true),("size",false)],[],[],none⟩ [0] [(1,3)] (E2 (by decide+kernel)) (by decide+kernel) (by decide+kernel) (LN (PR (AR 0 rfl) (KW (A1 _)))) (DX 0 rfl (.inl rfl)) HA (AU F6 (AU CI (AU JW (AE 0 rfl) (AE 1 rfl)) (A1 _)) (AE 1 rfl)) (λV V=>rfl)))) BX (λV=>rfl))) (C2 (AR 0 rfl) (KW (A1 _)) (λV V=>rfl))) (λV V=>rfl))
 (AH (BZ 4 rfl (.inl rfl) (AU CI (CW B 2 rfl g_sum (by intro a q;cases q) Z2 (AO (λV=>rfl) AW) (BT (A7 (EK (GK ⟨[("way",true),("size",false)],[],[],none⟩ [0] [(1,3)] (E2 (by decide+kernel)) (by decide+kernel) (by decide+kernel) (LN (PR (AR 1 rfl) (KW (A1 _)))) (DX 0 rfl (.inl rfl)) HA (AU F6 (AU CI (AU JW (AE 0 rfl) (AE 1 rfl)) (A1 _)) (AE 1 rfl)) (λV V=>rfl)))) BX (λV=>rfl))) (C2 (AR 1 rfl) (KW (A1 _)) (λV V=>rfl))) (λV V=>rfl))
 (AH (C5 (CD JY (AR 2 rfl) (AR 4 rfl) rfl) (AH (MW 5 rfl NU PySem.F.slot_list_append PySem.F.type_list_append (AO (λV=>rfl) AW) (by decide) rfl (AN (EP (AN (AE 3 rfl) (AN (AE 2 rfl) (AN (AE 4 rfl) A5 (λV=>rfl)) (λV=>rfl)) (λV=>rfl)) (by decide)) A5 (λV=>rfl)) J4)
 A2) A2)
 A2))) (λV V=>rfl))
 (AH (VT 5 rfl)
 A2)))
noncomputable def ZB:AP:=⟨[("self",true),("ws",true),("S",true),("T",true),("b",true),("ch",true),("count",true),("n",true),("nt",true)],["Whitespace","len","tuple"],[],none⟩
theorem Lz(B:B0 AA mg mb){K:Frag}{C:Addr}(X:K.In AA)(c:D1 K C)(sc:QR K C)(w9:EC K C "raw")(Ox:takerIn K C "raw"=some none)(Ou:takerIn K C "n"=some none)(Ow:takerIn K C "nt"=some none)(Ov:takerIn K C "norm"=some none)(Ot:takerIn K C "is_simple"=some none)(g_len:BK mg mb "len" (.builtin "len"))(g_tuple:BK mg mb "tuple" (.type "tuple")){mc:Value}(OH:mg "Whitespace"=some (.ref C))(rd_C:readsIn K C mc=true){tS tT:Tok}(fc_S:findCls K (.ref C) mc "S"=some (.val (.str " " tS)))(fc_T:findCls K (.ref C) mc "T"=some (.val (.str "\t" tT))):PS prog w AA n ZB (C3 (C9 13 1)) (YG C):=
 (AH (QG B 0 X c sc Ox rfl (AE 1 rfl) (λV=>rfl))
 (AH (LU (.cons 2 rfl (.inl rfl) (.cons 3 rfl (.inl rfl) .nil)) (by decide) rfl (EP (AN (rH B 0 X rd_C fc_S rfl rfl OH (λg=>.str _ _)) (AN (rH B 0 X rd_C fc_T rfl rfl OH (λg=>.str _ _)) A5 (λV=>rfl)) (λV=>rfl)) (by decide)) (λV=>rfl))
 (AH (MX 6 rfl (.inl rfl) (J' A5) (λV V=>rfl))
 (AH (Qn (.cons 4 rfl (.inl rfl) (.cons 7 rfl (.inl rfl) (.cons 8 rfl (.inl rfl) .nil))) (λV=>rfl) (λV=>rfl))
 (AH (IG (DX 5 rfl (.inl rfl)) (Ks (Ki 0 X c w9 rfl) _) (AH (C5 (CD F7 (AR 5 rfl) (AR 2 rfl) rfl) (AH (BZ 7 rfl (.inl rfl) (AU CI (AE 7 rfl) (A1 _)) (λV V=>rfl))
 (AH (BZ 4 rfl (.inl rfl) (AU CI (AE 4 rfl) (A1 _)) (λV V=>rfl))
 A2)) (AH (C5 (CD F7 (AR 5 rfl) (AR 3 rfl) rfl) (AH (BZ 7 rfl (.inl rfl) (AU CI (AE 7 rfl) (A1 _)) (λV V=>rfl))
 (AH (BZ 8 rfl (.inl rfl) (AU CI (AE 8 rfl) (A1 _)) (λV V=>rfl))
 (AH (C5 (CD aF (AR 4 rfl) (A7 (CW B 1 rfl g_len (by intro a q;cases q) KL (AO (λV=>rfl) AW) (BT (AR 6 rfl) BX (λV=>rfl)))) rfl) (AH (MX 6 rfl (.inl rfl) (rL B (AR 6 rfl) (A7 (EK (Kw B (A7 (EK (J' (AN (A1 _) A5 (λV=>rfl))))) (AU CI (AU E0 (AE 4 rfl) (CW B 1 rfl g_len (by intro a q;cases q) KL (AO (λV=>rfl) AW) (BT (AR 6 rfl) BX (λV=>rfl)))) (A1 _)))))) (λV V=>rfl))
 A2) A2)
 (AH (Qx 6 rfl (AE 4 rfl) (AU CI (C2 (AR 6 rfl) (AE 4 rfl) (λV V=>rfl)) (A1 _)) (λV=>rfl))
 (AH (BZ 4 rfl (.inl rfl) (A1 _) (λV V=>rfl))
 A2))))) (AH tX
 A2))
 A2))
 A2) (λV V=>rfl))
 (AH (QG B 0 X c sc Ou rfl (AE 7 rfl) (λV=>rfl))
 (AH (QG B 0 X c sc Ow rfl (AE 8 rfl) (λV=>rfl))
 (AH (QG B 0 X c sc Ov rfl (EP (AN (CW B 2 rfl g_tuple (by intro a q;cases q) yI (AO (λV=>rfl) AW) (BT (AR 6 rfl) BX (λV=>rfl))) (AN (AE 4 rfl) A5 (λV=>rfl)) (λV=>rfl)) (by decide)) (λV=>rfl))
 (AH (QG B 0 X c sc Ot rfl (R7 mN (A7 (CW B 1 rfl g_len (by intro a q;cases q) KL (AO (λV=>rfl) AW) (BT (AR 6 rfl) BX (λV=>rfl)))) (A7 (A1 _)) rfl) (λV=>rfl))
 A2)))))))))
noncomputable def ZD:AP:=⟨[("self",true),("count",true),("trailing",true)],["len","max"],[],none⟩
theorem Mb(B:B0 AA mg mb){K:Frag}{C:Addr}(X:K.In AA)(c:D1 K C)(OQ:EC K C "norm")(g_len:BK mg mb "len" (.builtin "len"))(g_max:BK mg mb "max" (.builtin "max")):PS prog w AA n ZD (C3 (C9 13 2)) (YL C):=
 (AH (LU (.cons 1 rfl (.inl rfl) (.cons 2 rfl (.inl rfl) .nil)) (by decide) rfl (HM X c OQ (λV V=>rfl) (AE 0 rfl)) (λV=>rfl))
 (AH (DZ (CW B 1 rfl g_max (by intro a q;cases q) Z0 (AO (λV=>rfl) (AO (λV=>rfl) AW)) (BT (A7 (AU E0 (CW B 0 rfl g_len (by intro a q;cases q) KL (AO (λV=>rfl) AW) (BT (AR 1 rfl) BX (λV=>rfl))) (A1 _))) (BT (AR 2 rfl) BX (λV=>rfl)) (λV=>rfl))))
 A2))
noncomputable def ZA:AP:=⟨[("self",true),("tabsize",true),("count",true),("i",true),("il",true),("trailing",true)],["len","range"],[],none⟩
theorem Ly(B:B0 AA mg mb){K:Frag}{C:Addr}(X:K.In AA)(c:D1 K C)(OQ:EC K C "norm")(OS:EC K C "nt")(g_len:BK mg mb "len" (.builtin "len"))(g_range:BK mg mb "range" (.type "range")):PS prog w AA n ZA (C3 (C9 13 3)) (YE C):=
 (AH (LU (.cons 2 rfl (.inl rfl) (.cons 5 rfl (.inl rfl) .nil)) (by decide) rfl (HM X c OQ (λV V=>rfl) (AE 0 rfl)) (λV=>rfl))
 (AH (BZ 4 rfl (.inl rfl) (A1 _) (λV V=>rfl))
 (AH (IG (DX 3 rfl (.inl rfl)) (R9 B 1 rfl g_range (AO (λV=>rfl) (AO (λV=>rfl) AW)) (AN (AE 1 rfl) (AN (CW B 0 rfl g_len (by intro a q;cases q) KL (AO (λV=>rfl) AW) (BT (AR 2 rfl) BX (λV=>rfl))) A5 (λV=>rfl)) (λV=>rfl)) _) (AH (BZ 4 rfl (.inl rfl) (AU CI (AE 4 rfl) (AU F6 (AU JW (AE 3 rfl) (AE 1 rfl)) (C2 (AR 2 rfl) (AE 3 rfl) (λV V=>rfl)))) (λV V=>rfl))
 A2) (λV V=>rfl))
 (AH (DZ (AU CI (AE 5 rfl) (AU F6 (AE 1 rfl) (AU CI (AE 4 rfl) (HM X c OS (λV V=>rfl) (AE 0 rfl))))))
 A2))))
noncomputable def Y':AP:=⟨[("self",true),("other",true)],[],[],none⟩
theorem Lx(B:B0 AA mg mb){K:Frag}{C:Addr}(X:K.In AA)(c:D1 K C)(OQ:EC K C "norm"):PS prog w AA n Y' (C3 (C9 13 4)) (YD C):=
 (AH (DZ (R7 F7 (A7 (HM X c OQ (λV V=>rfl) (AE 0 rfl))) (A7 (HM X c OQ (λV V=>rfl) (AE 1 rfl))) rfl))
 A2)
noncomputable def ZE:AP:=⟨[("self",true),("other",true),("a",true),("n",true),("ts",true)],["max","range"],[],none⟩
theorem Mc(B:B0 AA mg mb){K:Frag}{C:Addr}(X:K.In AA)(c:D1 K C)(g_max:BK mg mb "max" (.builtin "max"))(g_range:BK mg mb "range" (.type "range")){L9:Addr}{R2:Obj}{RG:FuncData}{CL:DF}(NR:FC K AA C "longest_run_of_spaces" L9 R2 RG)(M':CK prog w AA n L9 CL){RE:Addr}{dW:Obj}{bP:FuncData}{E3:DF}(NQ:FC K AA C "indent_level" RE dW bP)(M9:CK prog w AA n RE E3):PS prog w AA n ZE (C3 (C9 13 5)) (YM C CL E3):=
 (AH (BZ 3 rfl (.inl rfl) (AU CI (CW B 0 rfl g_max (by intro a q;cases q) Z0 (AO (λV=>rfl) (AO (λV=>rfl) AW)) (BT (A7 (GX X c NR (λV V=>rfl) (AE 0 rfl) M' AW (by decide) rfl A5)) (BT (A7 (GX X c NR (λV V=>rfl) (AE 1 rfl) M' AW (by decide) rfl A5)) BX (λV=>rfl)) (λV=>rfl))) (A1 _)) (λV V=>rfl))
 (AH (MX 2 rfl (.inl rfl) (J' A5) (λV V=>rfl))
 (AH (IG (DX 4 rfl (.inl rfl)) (R9 B 1 rfl g_range (AO (λV=>rfl) (AO (λV=>rfl) AW)) (AN (A1 _) (AN (AU CI (AE 3 rfl) (A1 _)) A5 (λV=>rfl)) (λV=>rfl)) _) (AH (C5 (CD JY (A7 (GX X c NQ (λV V=>rfl) (AE 0 rfl) M9 (AO (λV=>rfl) AW) (by decide) rfl (AN (AE 4 rfl) A5 (λV=>rfl)))) (A7 (GX X c NQ (λV V=>rfl) (AE 1 rfl) M9 (AO (λV=>rfl) AW) (by decide) rfl (AN (AE 4 rfl) A5 (λV=>rfl)))) rfl) (AH (MW 2 rfl NU PySem.F.slot_list_append PySem.F.type_list_append (AO (λV=>rfl) AW) (by decide) rfl (AN (EP (AN (AE 4 rfl) (AN (GX X c NQ (λV V=>rfl) (AE 0 rfl) M9 (AO (λV=>rfl) AW) (by decide) rfl (AN (AE 4 rfl) A5 (λV=>rfl))) (AN (GX X c NQ (λV V=>rfl) (AE 1 rfl) M9 (AO (λV=>rfl) AW) (by decide) rfl (AN (AE 4 rfl) A5 (λV=>rfl))) A5 (λV=>rfl)) (λV=>rfl)) (λV=>rfl)) (by decide)) A5 (λV=>rfl)) J4)
 A2) A2)
 A2) (λV V=>rfl))
 (AH (VT 2 rfl)
 A2))))
noncomputable def ZC:AP:=⟨[("self",true),("other",true),("n",true),("ts",true)],["max","range"],[],none⟩
theorem Ma(B:B0 AA mg mb){K:Frag}{C:Addr}(X:K.In AA)(c:D1 K C)(TV:EC K C "n")(lE:EC K C "is_simple")(OS:EC K C "nt")(g_max:BK mg mb "max" (.builtin "max"))(g_range:BK mg mb "range" (.type "range")){L9:Addr}{R2:Obj}{RG:FuncData}{CL:DF}(NR:FC K AA C "longest_run_of_spaces" L9 R2 RG)(M':CK prog w AA n L9 CL){RE:Addr}{dW:Obj}{bP:FuncData}{E3:DF}(NQ:FC K AA C "indent_level" RE dW bP)(M9:CK prog w AA n RE E3):PS prog w AA n ZC (C3 (C9 13 6)) (YH C CL E3):=
 (AH (C5 (CD aF (A7 (HM X c TV (λV V=>rfl) (AE 0 rfl))) (A7 (HM X c TV (λV V=>rfl) (AE 1 rfl))) rfl) (AH (DZ (IY _))
 A2) A2)
 (AH (C5 (rO (LQ (HM X c lE (λV V=>rfl) (AE 0 rfl)) (λV V=>rfl)) (LQ (HM X c lE (λV V=>rfl) (AE 1 rfl)) (λV V=>rfl))) (AH (DZ (R7 mN (A7 (HM X c OS (λV V=>rfl) (AE 0 rfl))) (A7 (HM X c OS (λV V=>rfl) (AE 1 rfl))) rfl))
 A2) A2)
 (AH (BZ 2 rfl (.inl rfl) (AU CI (CW B 0 rfl g_max (by intro a q;cases q) Z0 (AO (λV=>rfl) (AO (λV=>rfl) AW)) (BT (A7 (GX X c NR (λV V=>rfl) (AE 0 rfl) M' AW (by decide) rfl A5)) (BT (A7 (GX X c NR (λV V=>rfl) (AE 1 rfl) M' AW (by decide) rfl A5)) BX (λV=>rfl)) (λV=>rfl))) (A1 _)) (λV V=>rfl))
 (AH (IG (DX 3 rfl (.inl rfl)) (R9 B 1 rfl g_range (AO (λV=>rfl) (AO (λV=>rfl) AW)) (AN (A1 _) (AN (AU CI (AE 2 rfl) (A1 _)) A5 (λV=>rfl)) (λV=>rfl)) _) (AH (C5 (CD aF (A7 (GX X c NQ (λV V=>rfl) (AE 0 rfl) M9 (AO (λV=>rfl) AW) (by decide) rfl (AN (AE 3 rfl) A5 (λV=>rfl)))) (A7 (GX X c NQ (λV V=>rfl) (AE 1 rfl) M9 (AO (λV=>rfl) AW) (by decide) rfl (AN (AE 3 rfl) A5 (λV=>rfl)))) rfl) (AH (DZ (IY _))
 A2) A2)
 A2) (λV V=>rfl))
 (AH (DZ (IY _))
 A2)))))
noncomputable def Y4:AP:=⟨[("wishes",false),("ranks",false),("custom",true),("gap",true),("spots",false),("start",true),("best",true),("line",true),("pairs",true),("sign",false),("spot",false),("step",true),("way",true)],["chr","len","max","range"],["ranks","sign","spot","spots","wishes"],none⟩
theorem Lp(B:B0 AA mg mb)(g_len:BK mg mb "len" (.builtin "len"))(g_range:BK mg mb "range" (.type "range"))(g_max:BK mg mb "max" (.builtin "max"))(g_chr:BK mg mb "chr" (.builtin "chr")):PS prog w AA n Y4 (DH 19) (XU):=
 (AH (BZ 9 rfl (.inr (by decide)) (C2 (A7 (d7 (AN (A1 _) (AN (A1 _) (AN (KW (A1 _)) A5 (λV=>rfl)) (λV=>rfl)) (λV=>rfl)))) (AE 2 rfl) (λV V=>rfl)) (λV V=>rfl))
 (AH (tY 7 8 (by decide) rfl rfl (.inl rfl) (.inl rfl) (J' A5) (J' A5) rfl (λV=>rfl) (λV=>rfl) (λV=>rfl))
 (AH (IG (DX 11 rfl (.inl rfl)) (R9 B 3 rfl g_range (AO (λV=>rfl) (AO (λV=>rfl) AW)) (AN (A1 _) (AN (AE 4 rfl) A5 (λV=>rfl)) (λV=>rfl)) _) (AH (BZ 10 rfl (.inr (by decide)) (AU E8 (AU CI (AE 5 rfl) (AE 11 rfl)) (AE 4 rfl)) (λV V=>rfl))
 (AH (MW 7 rfl Iz PySem.F.slot_list_extend PySem.F.type_list_extend (AO (λV=>rfl) AW) (by decide) rfl (AN (EK (GK ⟨[("car",true),("spot",false),("wishes",false)],[],[],none⟩ [0] [(1,10),(2,0)] (E2 (by decide+kernel)) (by decide+kernel) (by decide+kernel) (JL B 3 rfl g_range (AO (λV=>rfl) AW) (AN (CW B 1 rfl g_len (by intro a q;cases q) KL (AO (λV=>rfl) AW) (BT (AR 0 rfl) BX (λV=>rfl))) A5 (λV=>rfl)) true) (DX 0 rfl (.inl rfl)) (SA (CD F7 (A7 (C2 (AR 2 rfl) (AE 0 rfl) (λV V=>rfl))) (AR 1 rfl) rfl)) (AE 0 rfl) (λV V=>rfl))) A5 (λV=>rfl)) J4)
 (AH (C5 (CD JY (AR 7 rfl) (A7 (d7 A5)) rfl) (AH (BZ 6 rfl (.inl rfl) (C2 (A7 (CW B 2 rfl g_max (by intro a q;cases q) yG (AO (λV=>rfl) AW) (BT (A7 (EK (GK ⟨[("car",true),("sign",false),("ranks",false),("spots",false),("spot",false),("wishes",false)],[],[],none⟩ [0] [(1,9),(2,1),(3,4),(4,10),(5,0)] (E2 (by decide+kernel)) (by decide+kernel) (by decide+kernel) (PU (AR 7 rfl)) (DX 0 rfl (.inl rfl)) HA (EP (AN (AU F6 (AE 1 rfl) (AU E8 (AU E0 (AE 4 rfl) (C2 (AR 5 rfl) (AE 0 rfl) (λV V=>rfl))) (AE 3 rfl))) (AN (C2 (AR 2 rfl) (AE 0 rfl) (λV V=>rfl)) (AN (AE 0 rfl) A5 (λV=>rfl)) (λV=>rfl)) (λV=>rfl)) (by decide)) (λV V=>rfl)))) BX (λV=>rfl)))) (A1 _) (λV V=>rfl)) (λV V=>rfl))
 (AH (MW 7 rfl Jb PySem.F.slot_list_remove PySem.F.type_list_remove (AO (λV=>rfl) AW) (by decide) rfl (AN (AE 6 rfl) A5 (λV=>rfl)) J4)
 (AH (BZ 12 rfl (.inl rfl) (AU E8 (AU E0 (AE 10 rfl) (C2 (AR 0 rfl) (AE 6 rfl) (λV V=>rfl))) (AE 4 rfl)) (λV V=>rfl))
 (AH (MW 8 rfl NU PySem.F.slot_list_append PySem.F.type_list_append (AO (λV=>rfl) AW) (by decide) rfl (AN (EP (AN (CW B 0 rfl g_chr (by intro a q;cases q) OY (AO (λV=>rfl) AW) (BT (A7 (AU CI (R8 (LQ (AU E8 (AE 12 rfl) (A1 _)) (λV V=>rfl)) (A1 _) (A1 _)) (AE 10 rfl))) BX (λV=>rfl))) (AN (AU CI (AU Z4 (AU CI (AE 3 rfl) (MO _)) (AE 12 rfl)) (CW B 0 rfl g_chr (by intro a q;cases q) OY (AO (λV=>rfl) AW) (BT (A7 (AU CI (A1 _) (AE 6 rfl))) BX (λV=>rfl)))) A5 (λV=>rfl)) (λV=>rfl)) (by decide)) A5 (λV=>rfl)) J4)
 A2)))) A2)
 A2))) (λV V=>rfl))
 (AH (VT 8 rfl)
 A2))))
noncomputable def Y9:AP:=⟨[("stands",true),("comes",true),("ranks",true),("custom",true),("here",true),("there",true)],["Whitespace","ord"],[],none⟩
theorem Lv(B:B0 AA mg mb){K:Frag}{C:Addr}(X:K.In AA)(c:D1 K C)(g_ord:BK mg mb "ord" (.builtin "ord"))(OH:mg "Whitespace"=some (.ref C))(k_C:keepIn K (.ref C)=true){Gn:DF}(UC:CK prog w AA n C Gn){nQ:Addr}{Ji:Obj}{Cw:FuncData}{I7:DF}(Ip:FC K AA C "equal" nQ Ji Cw)(Cn:CK prog w AA n nQ I7){nS:Addr}{Jk:Obj}{Cz:FuncData}{IK:DF}(qG:FC K AA C "less" nS Jk Cz)(nN:CK prog w AA n nS IK):PS prog w AA n Y9 (DH 17) (YB C Gn I7 IK):=
 (AH (C5 (CD mM (AR 3 rfl) (A7 (A1 _)) rfl) (AH (LU (.cons 5 rfl (.inl rfl) (.cons 4 rfl (.inl rfl) .nil)) (by decide) rfl (EP (AN (VC B 0 X k_C rfl OH UC (AO (λV=>rfl) AW) (AN (AE 0 rfl) A5 (λV=>rfl))) (AN (VC B 0 X k_C rfl OH UC (AO (λV=>rfl) AW) (AN (AE 1 rfl) A5 (λV=>rfl))) A5 (λV=>rfl)) (λV=>rfl)) (by decide)) (λV=>rfl))
 (AH (C5 (Md (LQ (GX X c Ip (λV V=>rfl) (AE 5 rfl) Cn (AO (λV=>rfl) AW) (by decide) rfl (AN (AE 4 rfl) A5 (λV=>rfl))) (λV V=>rfl))) (AH (DZ (R8 (CD F7 (AR 3 rfl) (A7 (A1 _)) rfl) (GX X c qG (λV V=>rfl) (AE 5 rfl) nN (AO (λV=>rfl) AW) (by decide) rfl (AN (AE 4 rfl) A5 (λV=>rfl))) (GX X c qG (λV V=>rfl) (AE 4 rfl) nN (AO (λV=>rfl) AW) (by decide) rfl (AN (AE 5 rfl) A5 (λV=>rfl)))))
 A2) A2)
 A2)) A2)
 (AH (DZ (R7 mM (A7 (C2 (AR 2 rfl) (AU E0 (CW B 1 rfl g_ord (by intro a q;cases q) TZ (AO (λV=>rfl) AW) (BT (A7 (C2 (AR 1 rfl) (KW (A1 _)) (λV V=>rfl))) BX (λV=>rfl))) (A1 _)) (λV V=>rfl))) (A7 (C2 (AR 2 rfl) (AU E0 (CW B 1 rfl g_ord (by intro a q;cases q) TZ (AO (λV=>rfl) AW) (BT (A7 (C2 (AR 0 rfl) (KW (A1 _)) (λV V=>rfl))) BX (λV=>rfl))) (A1 _)) (λV V=>rfl))) rfl))
 A2))
end
noncomputable def OE(κ k1 r1 k2 r2:Nat):Bool:=if κ>0∧k1≠k2 then(if κ=1 then decide (k1<k2)else decide (k2<k1))else decide (r1<r2)
def bt(κ:Nat)(q r:Nat→Nat)(p b x:Nat):Bool:=OE κ (p-q b) (r b) (p-q x) (r x)
noncomputable def fK(κ k:Nat):Int:=if κ=0 then 0 else if κ=1 then k else-k
def LL(a b:Int)(r s:Nat):Prop:=a<b∨(a=b∧r<s)
theorem Hy{a b c:Int}{r s t:Nat}(h:LL a b r s)(h':LL b c s t):LL a c r t:=by
 rcases h with h|h
 ·exact .inl (h'.elim (λq=>Int.lt_trans h q) λq=>q.1▸h)
 ·exact h.1▸h'.imp id λq=>⟨q.1,Nat.lt_trans h.2 q.2⟩
theorem Hx{a b:Int}{r s:Nat}(h:r≠s):LL a b r s∨LL b a s r:=by
 rcases Int.lt_trichotomy a b with q|q|q
 ·exact .inl (.inl q)
 ·exact(Nat.lt_or_gt_of_ne h).imp (λz=>.inr ⟨q,z⟩) λz=>.inr ⟨q.symm,z⟩
 ·exact .inr (.inl q)
theorem K1{κ k1 r1 k2 r2:Nat}:OE κ k1 r1 k2 r2=true↔LL (fK κ k1) (fK κ k2) r1 r2:=by
 unfold OE fK LL;by_cases h0:κ=0
 ·rw[if_neg (λq=>absurd q.1 (by lia)),if_pos h0,if_pos h0,decide_eq_true_iff];exact⟨λh=>.inr ⟨rfl,h⟩,λh=>h.elim (λq=>absurd q (Int.lt_irrefl 0)) And.right⟩
 ·rw[if_neg h0,if_neg h0];by_cases hk:k1=k2
  ·subst hk;rw[if_neg (λq=>q.2 rfl),decide_eq_true_iff];exact⟨λh=>.inr ⟨rfl,h⟩,λh=>h.elim (λq=>absurd q (Int.lt_irrefl _)) And.right⟩
  ·rw[if_pos ⟨Nat.pos_of_ne_zero h0,hk⟩];by_cases h1:κ=1
   ·rw[if_pos h1,if_pos h1,if_pos h1,decide_eq_true_iff];exact⟨λh=>.inl (Int.ofNat_lt.mpr h),λh=>h.elim Int.ofNat_lt.mp λq=>absurd (Int.ofNat.inj q.1) hk⟩
   ·rw[if_neg h1,if_neg h1,if_neg h1,decide_eq_true_iff];exact⟨λh=>.inl (Int.neg_lt_neg (Int.ofNat_lt.mpr h)),λh=>h.elim (λq=>Int.ofNat_lt.mp (Int.lt_of_neg_lt_neg q)) λq=>absurd (Int.ofNat.inj (Int.neg_inj.mp q.1)) hk⟩
theorem yL{κ:Nat}{q r:Nat→Nat}{p b:Nat}:bt κ q r p b b=false:=
 Bool.eq_false_iff.mpr λh=>(K1.mp h).elim (Int.lt_irrefl _) λz=>Nat.lt_irrefl _ z.2
theorem pW{a b:Int}{r s:Nat}(h:LL a b r s):a≤b:=h.elim Int.le_of_lt λq=>Int.le_of_eq q.1
theorem yM{q r:Nat→Nat}{p b x:Nat}(h:bt 1 q r p b x=true):p-q b≤p-q x:=Int.ofNat_le.mp (pW (K1.mp h))
theorem yN{q r:Nat→Nat}{p b x:Nat}(h:bt 2 q r p b x=true):p-q x≤p-q b:=Int.ofNat_le.mp (Int.neg_le_neg_iff.mp (pW (K1.mp h)))
theorem yO{q r:Nat→Nat}{p b x:Nat}(h:bt 0 q r p b x=true):r b<r x:=(K1.mp h).elim (λq=>absurd q (Int.lt_irrefl 0)) And.right
theorem T3{κ:Nat}{q r:Nat→Nat}{p a b c:Nat}(h1:bt κ q r p a b=true)(h2:bt κ q r p b c=true):bt κ q r p a c=true:=
 K1.mpr (Hy (K1.mp h1) (K1.mp h2))
theorem lX{κ:Nat}{q r:Nat→Nat}{p a b:Nat}(h:r a≠r b):bt κ q r p a b=true∨bt κ q r p b a=true:=
 (Hx h).imp K1.mpr K1.mpr
def CO(r:Nat→Nat)(L:List Nat):Prop:=∀x∈L,∀y∈L,r x=r y→x=y
theorem CO.sub{r:Nat→Nat}{L L':List Nat}(h:CO r L)(hs:∀x∈L',x∈L):CO r L':= λx hx y hy e=>h x (hs x hx) y (hs y hy) e
noncomputable def KJ(lt:Nat→Nat→Bool):Nat→List Nat→Nat
 |a,[]=>a
 |a,x::l=>KJ lt (if lt a x then x else a) l
def FI(κ:Nat)(q r:Nat→Nat)(p:Nat):List Nat→Nat
 |[]=>0
 |a::l=>KJ (bt κ q r p) a l
theorem ZX{κ:Nat}{q r:Nat→Nat}{p:Nat}:∀(l:List Nat)(a:Nat),CO r (a::l)→KJ (bt κ q r p) a l∈a::l∧∀y∈a::l,y≠KJ (bt κ q r p) a l→bt κ q r p y (KJ (bt κ q r p) a l)=true
 |[],a,_=>⟨.head _,λy hy hn=>by simp at hy;exact absurd hy hn⟩
 |x::l,a,hp=>by
  unfold KJ;by_cases hx:bt κ q r p a x=true
  ·rw[if_pos hx];obtain⟨h1,h2⟩:=ZX l x (hp.sub λy hy=>.tail _ hy);refine⟨.tail _ h1,λy hy hn=>?_⟩;rcases List.mem_cons.mp hy with rfl|hy
   ·by_cases e:x=KJ (bt κ q r p) x l
    ·exact e▸hx
    ·exact T3 hx (h2 x (.head _) e)
   ·exact h2 y hy hn
  ·rw[if_neg hx];obtain⟨h1,h2⟩:=ZX l a (hp.sub λy hy=>by rcases List.mem_cons.mp hy with rfl|hy;exact .head _;exact .tail _ (.tail _ hy));refine⟨?_,λy hy hn=>?_⟩
   ·rcases List.mem_cons.mp h1 with e|e
    ·rw[e];exact .head _
    ·exact .tail _ (.tail _ e)
   ·rcases List.mem_cons.mp hy with rfl|hy
    ·exact h2 y (.head _) hn
    ·rcases List.mem_cons.mp hy with rfl|hy
     ·by_cases ea:y=a
      ·subst ea;exact h2 y (.head _) hn
      ·have hne:r a≠r y:= λe=>ea (hp a (.head _) y (.tail _ (.head _)) e).symm;rcases lX (κ:=κ) (q:=q) (p:=p) hne with q1|q1
       ·exact absurd q1 hx
       ·by_cases e:a=KJ (bt κ q r p) a l
        ·exact e▸q1
        ·exact T3 q1 (h2 a (.head _) e)
     ·exact h2 y (.tail _ hy) hn
theorem KK{κ:Nat}{q r:Nat→Nat}{p:Nat}{L:List Nat}(hL:L≠[])(hp:CO r L):FI κ q r p L∈L∧∀y∈L,y≠FI κ q r p L→bt κ q r p y (FI κ q r p L)=true:=by
 cases L with
 |nil=>exact absurd rfl hL
 |cons a l=>exact ZX l a hp
theorem ZY{κ:Nat}{q r:Nat→Nat}{p:Nat}{L:List Nat}(hp:CO r L){b:Nat}(hb:b∈L)(h:∀y∈L,y≠b→bt κ q r p y b=true):FI κ q r p L=b:=by
 have hL:L≠[]:= λe=>by rw[e]at hb;cases hb
 obtain⟨h1,h2⟩:=KK (κ:=κ) (q:=q) (p:=p) hL hp;by_cases e:FI κ q r p L=b
 ·exact e
 ·have x1:=h _ h1 e;have x2:=h2 b hb (Ne.symm e);have:=T3 x1 x2;rw[yL]at this;cases this
theorem ZZ{κ:Nat}{q r:Nat→Nat}{p:Nat}{L L':List Nat}(hp:CO r L)(h:L.Perm L'):FI κ q r p L=FI κ q r p L':=by
 cases L with
 |nil=>rw[List.nil_perm.mp h]
 |cons a l=>
  have hL:a::l≠[]:=by simp
  have hL':L'≠[]:= λe=>by rw[e]at h;exact hL (List.perm_nil.mp h)
  have hp':CO r L':=hp.sub λx hx=>h.symm.subset hx;obtain⟨h1,h2⟩:=KK (κ:=κ) (q:=q) (p:=p) hL' hp';exact ZY hp (h.symm.subset h1) λy hy hn=>h2 y (h.subset hy) hn
theorem xW{κ:Nat}{q r:Nat→Nat}{p x:Nat}{L:List Nat}(hL:L≠[])(hp:CO r (x::L))(hx:x∉L):FI κ q r p (x::L)=if bt κ q r p (FI κ q r p L) x=true then x else FI κ q r p L:=by
 obtain⟨h1,h2⟩:=KK (κ:=κ) (q:=q) (p:=p) hL (hp.sub λy hy=>.tail _ hy);split
 ·rename_i hb;refine ZY hp (.head _) λy hy hn=>?_;rcases List.mem_cons.mp hy with e|hy
  ·exact absurd e hn
  ·by_cases e:y=FI κ q r p L
   ·exact e▸hb
   ·exact T3 (h2 y hy e) hb
 ·rename_i hb;refine ZY hp (.tail _ h1) λy hy hn=>?_;rcases List.mem_cons.mp hy with e|hy
  ·subst e;have hne:r (FI κ q r p L)≠r y:= λe=>hx (by rw[←hp _ (.tail _ h1) y (.head _) e];exact h1);rcases lX (κ:=κ) (q:=q) (p:=p) hne with q1|q1
   ·exact absurd q1 hb
   ·exact q1
  ·exact h2 y hy hn
section
variable(κ:Nat)(q r:Nat→Nat)
noncomputable def DV(W:List Nat)(p:Nat):List Nat:=W.filter λc=>q c==p
def HO(p:Nat)(L:List Nat):List Nat:=L.erase (FI κ q r p L)
def BM(W:List Nat):Nat→List Nat
 |0=>[]
 |p+1=>HO κ q r (p+1) (BM W p++DV q W (p+1))
def BU(W:List Nat):Nat→List Nat
 |0=>[]
 |p+1=>BM κ q r W p++DV q W (p+1)
def BB(W:List Nat)(p:Nat):Option Nat:=if BU κ q r W p=[]then none else some (FI κ q r p (BU κ q r W p))
end
section
variable{κ:Nat}{q r:Nat→Nat}
theorem NP(W:List Nat)(p:Nat):BM κ q r W (p+1)=HO κ q r (p+1) (BU κ q r W (p+1)):=rfl
theorem OA{p:Nat}{L:List Nat}:∀x∈HO κ q r p L,x∈L:= λx hx=>List.mem_of_mem_erase hx
theorem Mr{p:Nat}{L L':List Nat}(hp:CO r L)(h:L.Perm L'):(HO κ q r p L).Perm (HO κ q r p L'):=by
 unfold HO;rw[ZZ hp h];exact h.erase _
theorem eL{p:Nat}{L:List Nat}(hL:L≠[])(hp:CO r L):L.Perm (FI κ q r p L::HO κ q r p L):=List.perm_cons_erase (KK hL hp).1
theorem MG{W:List Nat}{p x:Nat}(h:x∈DV q W p):q x=p:=eq_of_beq (List.mem_filter.mp h).2
theorem H7{W:List Nat}:∀(p:Nat),∀x∈BU κ q r W p,x∈W∧q x≤p∧0<q x
 |0,x,hx=>by cases hx
 |p+1,x,hx=>by
  rcases List.mem_append.mp hx with h|h
  ·cases p with
   |zero=>cases h
   |succ p=>
    have:=H7 (p+1) x (OA x h);exact⟨this.1,Nat.le_succ_of_le this.2.1,this.2.2⟩
  ·exact⟨(List.mem_filter.mp h).1,Nat.le_of_eq (MG h),MG h▸Nat.succ_pos p⟩
theorem UW{W:List Nat}(p:Nat):∀x∈BM κ q r W p,x∈W∧q x≤p∧0<q x:=by
 cases p with
 |zero=>intro x hx;cases hx
 |succ p=>intro x hx;exact H7 (p+1) x (OA x hx)
theorem IV{W:List Nat}(hp:CO r W)(p:Nat):CO r (BU κ q r W p):=hp.sub λx hx=>(H7 p x hx).1
theorem RQ{W:List Nat}(hn:W.Nodup):∀p,(BU κ q r W p).Nodup
 |0=>.nil
 |p+1=>by
  have hQ:(BM κ q r W p).Nodup:=by
   cases p with
   |zero=>exact .nil
   |succ p=>exact(RQ hn (p+1)).erase _
  refine List.nodup_append.mpr ⟨hQ,hn.filter _,λx hx y hy e=>?_⟩;exact Nat.not_succ_le_self p (Nat.le_trans (Nat.le_of_eq (MG (e▸hy)).symm) (UW p x hx).2.1)
theorem TY{W:List Nat}{p c:Nat}(h:c∈BU κ q r W (p+1))(h1:q c≤p):c∈BM κ q r W p:=
 (List.mem_append.mp h).elim id λh=>absurd (Nat.le_trans (Nat.le_of_eq (MG h).symm) h1) (Nat.not_succ_le_self p)
theorem Ib{W:List Nat}(hn:W.Nodup)(p:Nat):(BM κ q r W p).Nodup:=by
 cases p with
 |zero=>exact .nil
 |succ p=>exact(RQ hn (p+1)).erase _
theorem pX{W W':List Nat}(hp:CO r W)(h:W.Perm W'):∀p,(BU κ q r W p).Perm (BU κ q r W' p)∧(BM κ q r W p).Perm (BM κ q r W' p)
 |0=>⟨.refl _,.refl _⟩
 |p+1=>by
  have h1:(BU κ q r W (p+1)).Perm (BU κ q r W' (p+1)):=((pX hp h p).2.append (h.filter _));exact⟨h1,Mr (IV (κ:=κ) (q:=q) hp (p+1)) h1⟩
theorem pY{W W':List Nat}(hp:CO r W)(h:W.Perm W')(p:Nat):BB κ q r W p=BB κ q r W' p:=by
 have h1:=(pX (κ:=κ) (q:=q) hp h p).1;unfold BB;rw[ZZ (IV hp _) h1];by_cases e:BU κ q r W p=[]
 ·rw[if_pos e,if_pos (List.nil_perm.mp (e▸h1))]
 ·rw[if_neg e,if_neg λe'=>e (List.perm_nil.mp (by rw[e']at h1;exact h1))]
noncomputable def cq(f:Nat→Nat):Nat→Nat
 |0=>0
 |p+1=>cq f p+f (p+1)-1
theorem mK{f g:Nat→Nat}(h:∀p,f p≤g p):∀p,cq f p≤cq g p
 |0=>Nat.le_refl _
 |p+1=>Nat.sub_le_sub_right (Nat.add_le_add (mK h p) (h (p+1))) 1
theorem sB{p:Nat}{L:List Nat}(hp:CO r L):(HO κ q r p L).length=L.length-1:=by
 cases L with
 |nil=>rfl
 |cons a l=>exact List.length_erase_of_mem (KK (by simp) hp).1
theorem NO{W:List Nat}(hp:CO r W):∀p,(BM κ q r W p).length=cq (λp=>(DV q W p).length) p
 |0=>rfl
 |p+1=>by
  rw[NP,sB (IV hp _)];show(BM κ q r W p++DV q W (p+1)).length-1=_;rw[List.length_append,NO hp p];rfl
theorem cR(x:Nat)(W:List Nat)(p:Nat):DV q (x::W) p=if q x=p then x::DV q W p else DV q W p:=by
 unfold DV;rw[List.filter_cons];by_cases e:q x=p<;>simp[e]
theorem c8{x:Nat}{W:List Nat}:∀p,p<q x→BU κ q r (x::W) p=BU κ q r W p∧BM κ q r (x::W) p=BM κ q r W p
 |0,_=>⟨rfl,rfl⟩
 |p+1,h=>by
  have ih:=(c8 (x:=x) (W:=W) p (Nat.lt_of_succ_lt h)).2;have h1:BU κ q r (x::W) (p+1)=BU κ q r W (p+1):=by
   show BM κ q r (x::W) p++DV q (x::W) (p+1)=_;rw[ih,cR,if_neg (Nat.ne_of_gt h)];rfl
  exact⟨h1,by rw[NP,NP,h1]⟩
theorem c7{x:Nat}{W:List Nat}{p:Nat}(h:q x≤p):BU κ q r (x::W) (p+1)=BM κ q r (x::W) p++DV q W (p+1):=by
 have e:DV q (x::W) (p+1)=DV q W (p+1):=by rw[cR,if_neg (Nat.ne_of_lt (Nat.lt_succ_of_le h))]
 rw[←e];rfl
theorem Ia{x:Nat}{W:List Nat}{p:Nat}(h:p<q x):BB κ q r (x::W) p=BB κ q r W p:=by
 unfold BB;rw[(c8 (κ:=κ) (r:=r) (W:=W) p h).1]
noncomputable def IB(T:Nat→Option Nat)(p y:Nat):Nat→Option Nat:= λp'=>if p'=p then some y else T p'
def I6(κ:Nat)(q r:Nat→Nat)(m:Nat)(W W':List Nat)(p y:Nat)(T:Nat→Option Nat):Prop:=
 0<p∧p≤m∧(BU κ q r W' p).Perm (y::BU κ q r W p)∧∀p',T p'=if p'<p then BB κ q r W' p' else BB κ q r W p'
theorem nD{m x:Nat}{W:List Nat}(h0:0<q x)(hm:q x≤m):I6 κ q r m W (x::W) (q x) x (BB κ q r W):=by
 refine⟨h0,hm,?_,λp'=>?_⟩
 ·obtain⟨p,hp⟩:=Nat.exists_eq_succ_of_ne_zero (Nat.ne_of_gt h0);rw[hp];show(BM κ q r (x::W) p++DV q (x::W) (p+1)).Perm (x::(BM κ q r W p++DV q W (p+1)));rw[(c8 p (hp▸Nat.lt_succ_self p)).2,cR,if_pos hp];exact List.perm_middle
 ·split
  ·exact(Ia (by assumption)).symm
  ·rfl
theorem Bv{m p y:Nat}{W W':List Nat}{T:Nat→Option Nat}(h:I6 κ q r m W W' p y T):y∈W'∧q y≤p∧0<q y:=H7 p y (h.2.2.1.symm.subset (.head _))
theorem nC{m p y b:Nat}{W W':List Nat}{T:Nat→Option Nat}(hW:CO r W)(h:I6 κ q r m W W' p y T)(hb:T p=some b):b∈W∧q b≤p∧0<q b:=by
 have:=h.2.2.2 p;rw[hb,if_neg (Nat.lt_irrefl p)]at this;unfold BB at this;split at this
 ·cases this
 ·rename_i hne;cases this;exact H7 p _ (KK hne (IV hW p)).1
theorem bF{m p x y:Nat}{W:List Nat}{T:Nat→Option Nat}(hq:q x≤p)(h:I6 κ q r m W (x::W) p y T)(hT:T p=none):∀p',IB T p y p'=BB κ q r (x::W) p':=by
 obtain⟨h0,hm,hA,hT'⟩:=h;have hL:BU κ q r W p=[]:=by
  have:=hT' p;rw[hT,if_neg (Nat.lt_irrefl p)]at this;unfold BB at this;split at this
  ·assumption
  ·cases this
 rw[hL]at hA;have hA':BU κ q r (x::W) p=[y]:=List.perm_singleton.mp hA;have hout:BB κ q r (x::W) p=some y:=by unfold BB;rw[hA'];rfl
 have hQ0:BM κ q r (x::W) p=BM κ q r W p:=by
  obtain⟨p0,rfl⟩:=Nat.exists_eq_succ_of_ne_zero (Nat.ne_of_gt h0);rw[NP,NP,hA',hL];show[y].erase y=_;simp[HO]
 have hQ:∀k,BM κ q r (x::W) (p+k)=BM κ q r W (p+k):=by
  intro k
  induction k with
  |zero=>exact hQ0
  |succ k ih=>
   show HO κ q r _ (BU κ q r (x::W) (p+k+1))=HO κ q r _ (BU κ q r W (p+k+1));rw[c7 (Nat.le_trans hq (Nat.le_add_right p k)),ih];rfl
 intro p';unfold IB;split
 ·rename_i e;rw[e,hout]
 ·rw[hT' p'];split
  ·rfl
  ·rename_i ne nl;obtain⟨k,rfl⟩:=Nat.exists_eq_add_of_lt (Nat.lt_of_le_of_ne (Nat.le_of_not_lt nl) (Ne.symm ne));unfold BB;rw[c7 (Nat.le_trans hq (Nat.le_add_right p k)),hQ k];rfl
theorem bG{m p x y b:Nat}{W:List Nat}{T:Nat→Option Nat}(hq:q x≤p)(hn:(x::W).Nodup)(hp:CO r (x::W))(hQm:BM κ q r (x::W) m=[])
  (h:I6 κ q r m W (x::W) p y T)(hT:T p=some b):
  if bt κ q r p b y=true then I6 κ q r m W (x::W) (p+1) b (IB T p y)else I6 κ q r m W (x::W) (p+1) y T:=by
 obtain⟨h0,hm,hA,hT'⟩:=h;have hTp:=hT' p;rw[hT,if_neg (Nat.lt_irrefl p)]at hTp;have hne:BU κ q r W p≠[]:=by
  intro e;unfold BB at hTp;rw[if_pos e]at hTp;cases hTp
 have hb:b=FI κ q r p (BU κ q r W p):=by
  unfold BB at hTp;rw[if_neg hne]at hTp;cases hTp;rfl
 have hpA:CO r (BU κ q r (x::W) p):=IV hp p;have hpy:CO r (y::BU κ q r W p):=hpA.sub λz hz=>hA.symm.subset hz;have hnd:(y::BU κ q r W p).Nodup:=hA.nodup_iff.mp (RQ hn p);have hyn:y∉BU κ q r W p:=(List.nodup_cons.mp hnd).1;have hbest:FI κ q r p (BU κ q r (x::W) p)=if bt κ q r p b y=true then y else b:=by
  rw[ZZ hpA hA,xW hne hpy hyn,←hb]
 have hbm:b∈BU κ q r W p:=hb▸(KK hne (hpy.sub λz hz=>.tail _ hz)).1;have hne':BU κ q r (x::W) p≠[]:= λe=>by rw[e]at hA;exact absurd (List.nil_perm.mp hA) (by simp)
 obtain⟨p0,rfl⟩:=Nat.exists_eq_add_one_of_ne_zero (Nat.ne_of_gt h0);have hQ:(BM κ q r (x::W) (p0+1)).Perm ((if bt κ q r (p0+1) b y=true then b else y)::BM κ q r W (p0+1)):=by
  rw[NP,NP];unfold HO;rw[hbest,←hb];refine(hA.erase _).trans ?_;split
  ·rw[List.erase_cons_head];exact List.perm_cons_erase hbm
  ·have:y≠b:= λe=>hyn (e▸hbm);rw[List.erase_cons_tail (by simpa using this)]
 have hm1:p0+1+1≤m:=by
  refine Nat.lt_of_le_of_ne hm λe=>?_;rw[e,hQm]at hQ;exact absurd (List.nil_perm.mp hQ) (by simp)
 have hA1:(BU κ q r (x::W) (p0+1+1)).Perm ((if bt κ q r (p0+1) b y=true then b else y)::BU κ q r W (p0+1+1)):=by
  rw[c7 hq];exact hQ.append_right _
 have hout:BB κ q r (x::W) (p0+1)=some (if bt κ q r (p0+1) b y=true then y else b):=by
  unfold BB;rw[if_neg hne',hbest]
 have up:∀{T':Nat→Option Nat},(∀p',T' p'=if p'=p0+1 then BB κ q r (x::W) p' else T p')→∀p',T' p'=if p'<p0+1+1 then BB κ q r (x::W) p' else BB κ q r W p':= λhT1 p'=>by
  rw[hT1 p'];by_cases e:p'=p0+1
  ·rw[if_pos e,if_pos (e▸Nat.lt_succ_self _)]
  ·rw[if_neg e,hT' p'];by_cases e2:p'<p0+1
   ·rw[if_pos e2,if_pos (Nat.lt_succ_of_lt e2)]
   ·rw[if_neg e2,if_neg λe3=>e (Nat.le_antisymm (Nat.le_of_lt_succ e3) (Nat.le_of_not_lt e2))]
 split
 ·rename_i hby;rw[if_pos hby]at hA1 hout;refine⟨Nat.succ_pos _,hm1,hA1,up λp'=>?_⟩;unfold IB;split
  ·rename_i e;rw[e,hout]
  ·rfl
 ·rename_i hby;rw[if_neg hby]at hA1 hout;refine⟨Nat.succ_pos _,hm1,hA1,up λp'=>?_⟩;split
  ·rename_i e;rw[e,hT,hout]
  ·rfl
def FX(κ:Nat)(q r:Nat→Nat)(W:List Nat):Nat→List (Nat×Nat)
 |0=>[]
 |p+1=>FX κ q r W p++(match BB κ q r W (p+1)with|none=>[]|some c=>[(p+1,c)])
theorem PL{W:List Nat}{p c:Nat}:∀m,(p,c)∈FX κ q r W m↔0<p∧p≤m∧BB κ q r W p=some c
 |0=>⟨λh=>(by cases h),λh=>absurd h.1 (Nat.not_lt_of_le h.2.1)⟩
 |m+1=>by
  show(p,c)∈FX κ q r W m++_↔_;rw[List.mem_append,PL m];constructor
  ·rintro(h|h)
   ·exact⟨h.1,Nat.le_succ_of_le h.2.1,h.2.2⟩
   ·split at h
    ·cases h
    ·rename_i c' e;have:=List.mem_singleton.mp h;cases this;exact⟨Nat.succ_pos m,Nat.le_refl _,e⟩
  ·rintro⟨h0,h1,h2⟩;rcases Nat.lt_or_ge m p with h|h
   ·have e:p=m+1:=Nat.le_antisymm h1 h;subst e;right;rw[h2];exact .head _
   ·left;exact⟨h0,h,h2⟩
theorem N0{W:List Nat}{p c:Nat}(hp:CO r W)(h:BB κ q r W p=some c):BU κ q r W p≠[]∧c=FI κ q r p (BU κ q r W p)∧c∈BU κ q r W p∧c∈W∧q c≤p∧0<q c:=by
 unfold BB at h;split at h
 ·cases h
 ·rename_i hne;cases h;have:=(KK (κ:=κ) (q:=q) (p:=p) hne (IV hp p)).1;exact⟨hne,rfl,this,H7 p _ this⟩
theorem q7{W:List Nat}:∀m,(FX κ q r W m).Nodup
 |0=>.nil
 |m+1=>by
  show(FX κ q r W m++_).Nodup;refine List.nodup_append.mpr ⟨q7 m,?_,?_⟩
  ·split<;>simp
  ·rintro⟨p,c⟩ h1 y h2 rfl;have h3:=(PL m).mp h1;split at h2
   ·cases h2
   ·have:=List.mem_singleton.mp h2;cases this;exact Nat.not_succ_le_self m h3.2.1
noncomputable def K0(q:Nat→Nat)(p:Nat)(L:List Nat):Nat:=(L.map λc=>p-q c).sum
theorem Oo{L L':List Nat}(h:L.Perm L'):L.sum=L'.sum:=h.sum_nat
theorem Hw{α:Type}{P Q R:α→Bool}(h:∀x,(if P x=true then 1 else 0)=(if Q x=true then 1 else 0)+(if R x=true then 1 else 0))(W:List α):(W.filter P).length=(W.filter Q).length+(W.filter R).length:=by
 rw[←List.countP_eq_length_filter,←List.countP_eq_length_filter,←List.countP_eq_length_filter]
 induction W with
 |nil=>rfl
 |cons a W ih=>rw[List.countP_cons,List.countP_cons,List.countP_cons,h a,ih,Nat.add_add_add_comm]
theorem dZ{W:List Nat}(hp:CO r W):∀m,(FX κ q r W m).length+(BM κ q r W m).length=(W.filter λc=>decide (0<q c∧q c≤m)).length
 |0=>by
  rw[List.filter_eq_nil_iff.mpr λa V e=>absurd (of_decide_eq_true e).1 (Nat.not_lt_of_le (of_decide_eq_true e).2)];rfl
 |m+1=>by
  have hf:(W.filter λc=>decide (0<q c∧q c≤m+1)).length=(W.filter λc=>decide (0<q c∧q c≤m)).length+(DV q W (m+1)).length:=Hw (λx=>by
   by_cases h1:q x=m+1
   ·rw[if_pos (decide_eq_true ⟨h1▸Nat.succ_pos m,Nat.le_of_eq h1⟩),if_neg λe=>Nat.not_succ_le_self m (Nat.le_trans (Nat.le_of_eq h1.symm) (of_decide_eq_true e).2),if_pos (beq_iff_eq.mpr h1)]
   ·rw[if_neg (c:=(q x==m+1)=true) λe=>h1 (eq_of_beq e)];by_cases h2:0<q x∧q x≤m
    ·rw[if_pos (decide_eq_true ⟨h2.1,Nat.le_succ_of_le h2.2⟩),if_pos (decide_eq_true h2)]
    ·rw[if_neg λe=>h2 ⟨(of_decide_eq_true e).1,Nat.le_of_lt_succ (Nat.lt_of_le_of_ne (of_decide_eq_true e).2 h1)⟩,if_neg λe=>h2 (of_decide_eq_true e)]) W
  rw[hf,←dZ hp m,Nat.add_assoc,←List.length_append];show(FX κ q r W m++_).length+(HO κ q r (m+1) (BU κ q r W (m+1))).length=_+(BU κ q r W (m+1)).length;rw[List.length_append,sB (IV hp _),Nat.add_assoc];unfold BB;by_cases e:BU κ q r W (m+1)=[]
  ·rw[if_pos e,e];rfl
  ·rw[if_neg e];exact congrArg _ ((Nat.add_comm 1 _).trans (Nat.sub_add_cancel (List.length_pos_iff.mpr e)))
theorem Jv{W:List Nat}(hp:CO r W)(m:Nat):((FX κ q r W (m+1)).map λx=>x.1-q x.2).sum+K0 q (m+1) (BM κ q r W (m+1))=((FX κ q r W m).map λx=>x.1-q x.2).sum+K0 q m (BM κ q r W m)+(BM κ q r W m).length:=by
  have h1:K0 q (m+1) (BU κ q r W (m+1))=K0 q m (BM κ q r W m)+(BM κ q r W m).length:=by
   show K0 q (m+1) (BM κ q r W m++DV q W (m+1))=_;unfold K0;rw[List.map_append,List.sum_append_nat];have ha:∀L:List Nat,(∀x∈L,q x≤m)→(L.map λc=>m+1-q c).sum=(L.map λc=>m-q c).sum+L.length:=by
    intro L
    induction L with
    |nil=>intro _;rfl
    |cons a L ih=>
     intro h;rw[List.map_cons,List.sum_cons,ih λx hx=>h x (.tail _ hx),Nat.succ_sub (h a (.head _)),List.map_cons,List.sum_cons,List.length_cons,Nat.succ_add,Nat.add_assoc];rfl
   have hb:∀L:List Nat,(∀x∈L,q x=m+1)→(L.map λc=>m+1-q c).sum=0:=by
    intro L
    induction L with
    |nil=>intro _;rfl
    |cons a L ih=>
     intro h;rw[List.map_cons,List.sum_cons,ih λx hx=>h x (.tail _ hx),h a (.head _),Nat.sub_self]
   rw[ha _ λx hx=>(UW m x hx).2.1,hb _ λx hx=>MG hx];rfl
  show((FX κ q r W m++_).map _).sum+_=_;rw[List.map_append,List.sum_append_nat,Nat.add_assoc _ (K0 q m _),←h1];have hs:BM κ q r W (m+1)=HO κ q r (m+1) (BU κ q r W (m+1)):=rfl;unfold BB;by_cases e:BU κ q r W (m+1)=[]
  ·rw[if_pos e,hs,e];rfl
  ·rw[if_neg e,hs];have hpm:=eL (κ:=κ) (q:=q) (r:=r) (p:=m+1) e (IV hp _);have:=Oo (hpm.map λc=>m+1-q c);unfold K0;rw[this,Nat.add_assoc];rfl
noncomputable def KB(f:Nat→Nat):Nat→Nat
 |0=>0
 |p+1=>KB f p+f p
theorem q8{W:List Nat}(hp:CO r W):∀m,((FX κ q r W m).map λx=>x.1-q x.2).sum+K0 q m (BM κ q r W m)=KB (cq λp=>(DV q W p).length) m
 |0=>rfl
 |m+1=>by
  rw[Jv hp m,q8 hp m,NO hp m];rfl
theorem UX{W:List Nat}(hp:CO r W){p z:Nat}(hz:z∈BU κ q r W (p+1)):
  ∃b,BB κ q r W (p+1)=some b∧(BU κ q r W (p+1)).Perm (b::BM κ q r W (p+1))∧(∀y∈BU κ q r W (p+1),y≠b→bt κ q r (p+1) y b=true)∧(z=b∨z∈BM κ q r W (p+1)):=by
 have hne:BU κ q r W (p+1)≠[]:= λe=>by rw[e]at hz;cases hz
 have hpm:=eL (κ:=κ) (q:=q) (r:=r) (p:=p+1) hne (IV hp _);refine⟨FI κ q r (p+1) (BU κ q r W (p+1)),by unfold BB;rw[if_neg hne],hpm,(KK hne (IV hp _)).2,?_⟩;exact List.mem_cons.mp (hpm.subset hz)
theorem c9{W:List Nat}{p z:Nat}(hz:z∈BM κ q r W p):z∈BU κ q r W (p+1):=List.mem_append_left _ hz
noncomputable def JE(q:Nat→Nat)(a:Nat)(L:List Nat):Nat:=L.countP λc=>decide (q c≤a)
theorem mA{W:List Nat}{a p:Nat}(h:a≤p):JE q a (BU κ q r W (p+1))=JE q a (BM κ q r W p):=by
 unfold JE;show List.countP _ (BM κ q r W p++DV q W (p+1))=_;rw[List.countP_append,List.countP_eq_zero.mpr λx hx e=>Nat.not_succ_le_self p (Nat.le_trans (Nat.le_of_eq (MG hx).symm) (Nat.le_trans (of_decide_eq_true e) h)),Nat.add_zero]
theorem Af{W:List Nat}(a:Nat):JE q a (BM κ q r W a)=(BM κ q r W a).length:=by
 unfold JE;rw[List.countP_eq_length];intro x hx;simpa using(UW a x hx).2.1
theorem Z9{W:List Nat}(hp:CO r W)(a:Nat):∀j,(BM κ q r W a).length≤JE q a (BM κ q r W (a+j))+j
 |0=>Nat.le_of_eq (Af a).symm
 |j+1=>by
  have ih:=Z9 hp a j;rw[←mA (κ:=κ) (q:=q) (r:=r) (W:=W) (Nat.le_add_right a j)]at ih;refine Nat.le_trans ih ?_;by_cases e:BU κ q r W (a+j+1)=[]
  ·rw[e];exact Nat.add_le_add (Nat.zero_le _) (Nat.le_succ j)
  ·refine Nat.le_trans (Nat.add_le_add_right (?_:_≤JE q a (BM κ q r W (a+j+1))+1) j) (Nat.le_of_eq (Nat.add_right_comm _ 1 j));unfold JE;rw[(eL (κ:=κ) (q:=q) (r:=r) (p:=a+j+1) e (IV hp _)).countP_eq,List.countP_cons];refine Nat.add_le_add_left ?_ _;split<;>decide
theorem sC{W:List Nat}(hp:CO r W){m a z:Nat}(hQ:BM κ q r W m=[])(hz:q z≤a):∀j p,a≤p→m=p+j→z∈BM κ q r W p→∃p',p<p'∧p'≤m∧BB κ q r W p'=some z
 |0,p,_,e,h=>by rw[Nat.add_zero]at e;rw[←e,hQ]at h;cases h
 |j+1,p,ha,e,h=>by
  obtain⟨b,h1,_,_,h2⟩:=UX hp (c9 h);rcases h2 with h2|h2
  ·exact⟨p+1,Nat.lt_succ_self p,e▸Nat.add_le_add_left (Nat.succ_le_succ (Nat.zero_le j)) p,h2▸h1⟩
  ·obtain⟨p',e1,e2,e3⟩:=sC hp hQ hz j (p+1) (Nat.le_succ_of_le ha) (e.trans (Nat.succ_add p j).symm) h2;exact⟨p',Nat.lt_of_succ_lt e1,e2,e3⟩
theorem Cv{W:List Nat}(hp:CO r W){m a k:Nat}(hQ:BM κ q r W m=[])(ha:k+1≤(BM κ q r W a).length)(ham:a≤m):∃p c,p≤m∧BB κ q r W p=some c∧q c+k+1≤p:=by
 have h1:=Nat.le_trans ha (Z9 (κ:=κ) (q:=q) hp a k);obtain⟨z,hz,hqz⟩:=List.countP_pos_iff.mp (Nat.pos_of_ne_zero λe=>Nat.not_succ_le_self k (Nat.le_trans h1 (Nat.le_of_eq ((congrArg (· +k) e).trans (Nat.zero_add k)))));have hqz:q z≤a:=of_decide_eq_true hqz;have hm:a+k≤m:=Nat.le_of_not_lt λh=>by
  have h3:=Nat.le_trans ha (Z9 (κ:=κ) (q:=q) hp a (m-a));rw[Nat.add_sub_cancel' ham,hQ]at h3;exact Nat.lt_irrefl m (Nat.lt_of_lt_of_le h (Nat.le_trans (Nat.add_le_add_left (Nat.le_of_succ_le (Nat.le_trans h3 (Nat.le_of_eq (Nat.zero_add _)))) a) (Nat.le_of_eq (Nat.add_sub_cancel' ham))))
 obtain⟨p',e1,e2,e3⟩:=sC hp hQ hqz (m-(a+k)) (a+k) (Nat.le_add_right a k) (Nat.add_sub_cancel' hm).symm hz;exact⟨p',z,e2,e3,Nat.le_trans (Nat.add_le_add_right hqz (k+1)) e1⟩
theorem nU{W:List Nat}(hp:CO r W)(hn:W.Nodup){p c:Nat}(hc:BB 1 q r W p=some c):∀j p',q c≤p'→p=p'+1+j→c∈BM 1 q r W p'∧j+1≤JE q (q c) (BM 1 q r W p')
 |0,p',ha,e=>by
  have this:c∈BM 1 q r W p':=TY (e▸(N0 hp hc).2.2.1) ha;exact⟨this,List.countP_pos_iff.mpr ⟨c,this,decide_eq_true (Nat.le_refl _)⟩⟩
 |j+1,p',ha,e=>by
  obtain⟨hm,hk⟩:=nU hp hn hc j (p'+1) (Nat.le_succ_of_le ha) (e.trans (Nat.succ_add (p'+1) j).symm);have hin:c∈BU 1 q r W (p'+1):=OA c hm;obtain⟨b,h1,hpm,h3,_⟩:=UX hp hin;have hcb:c≠b:= λe=>(List.nodup_cons.mp (hpm.nodup_iff.mp (RQ hn _))).1 (e▸hm);have hqb:q b≤q c:=Nat.le_of_not_lt λh=>Nat.not_lt_of_le (yM (h3 c hin hcb)) (Nat.sub_lt_sub_left (Nat.lt_of_lt_of_le h (H7 _ _ (hpm.symm.subset (.head _):b∈BU 1 q r W (p'+1))).2.1) h);have h4:JE q (q c) (BU 1 q r W (p'+1))=JE q (q c) (BM 1 q r W (p'+1))+1:=by
   unfold JE;rw[hpm.countP_eq,List.countP_cons,if_pos (decide_eq_true hqb)]
  rw[mA ha]at h4;exact⟨TY hin ha,h4▸Nat.succ_le_succ hk⟩
theorem Dl{W:List Nat}(hp:CO r W)(hn:W.Nodup){m:Nat}(hQ:BM κ q r W m=[]){p c:Nat}(hpm:p≤m)(hc:BB 1 q r W p=some c)(hk:q c<p):
  ∃p' c',p'≤m∧BB κ q r W p'=some c'∧p-q c≤p'-q c':=by
 obtain⟨k,e⟩:=Nat.exists_eq_add_of_lt hk;obtain⟨_,h1⟩:=nU hp hn hc k (q c) (Nat.le_refl _) (e.trans (Nat.succ_add (q c) k).symm);have h2:=Nat.le_trans h1 List.countP_le_length;rw[NO hp,←NO (κ:=κ) hp]at h2;obtain⟨p',c',e1,e2,e3⟩:=Cv hp hQ h2 (Nat.le_of_lt (Nat.lt_of_lt_of_le hk hpm));refine⟨p',c',e1,e2,?_⟩;rw[e,Nat.add_assoc,Nat.add_sub_cancel_left];exact Nat.le_sub_of_add_le' e3
theorem c0{W:List Nat}(hp:CO r W):∀p,BM 2 q r W p≠[]→∃a,0<a∧a≤p∧(∀p',a≤p'→p'≤p→BM 2 q r W p'≠[])∧BM 2 q r W (a-1)=[]∧(∃z∈BM 2 q r W p,q z=a)∧∀y∈BM 2 q r W p,a≤q y
 |0,h=>absurd rfl h
 |p+1,h=>by
  by_cases e:BM 2 q r W p=[]
  ·have hA:BU 2 q r W (p+1)=DV q W (p+1):=by
    show BM 2 q r W p++_=_;rw[e];rfl
   have hall:∀y∈BM 2 q r W (p+1),q y=p+1:=by
    intro y hy;have this:y∈BU 2 q r W (p+1):=OA y hy;rw[hA]at this;exact MG this
   refine⟨p+1,Nat.succ_pos p,Nat.le_refl _,?_,e,?_,λy hy=>Nat.le_of_eq (hall y hy).symm⟩
   ·intro p' h1 h2;rw[Nat.le_antisymm h2 h1];exact h
   ·obtain⟨z,hz⟩:=List.exists_mem_of_ne_nil _ h;exact⟨z,hz,hall z hz⟩
  ·obtain⟨a,h0,h1,h2,h3,⟨z,hz,hqz⟩,h5⟩:=c0 hp p e;have hge:∀y∈BU 2 q r W (p+1),a≤q y:= λy hy=>(List.mem_append.mp hy).elim (h5 y) λh=>MG h▸Nat.le_succ_of_le h1;refine⟨a,h0,Nat.le_succ_of_le h1,?_,h3,?_,λy hy=>hge y (OA y hy)⟩
   ·intro p' e1 e2;rcases Nat.lt_or_ge p p' with e3|e3
    ·rw[Nat.le_antisymm e2 e3];exact h
    ·exact h2 p' e1 e3
   ·obtain⟨b,g1,g2,g3,g4⟩:=UX hp (c9 hz);rcases g4 with g4|g4
    ·subst g4;obtain⟨y,hy⟩:=List.exists_mem_of_ne_nil _ h;have hyA:y∈BU 2 q r W (p+1):=OA y hy;refine⟨y,hy,?_⟩;by_cases ey:y=z
     ·rw[ey];exact hqz
     ·have hb:=g3 y hyA ey;exact Nat.le_antisymm (Nat.le_of_not_lt λh=>Nat.not_lt_of_le (yN hb) (hqz.symm▸Nat.sub_lt_sub_left (Nat.lt_of_lt_of_le h (H7 _ _ hyA).2.1) h)) (hge y hyA)
    ·exact⟨z,g4,hqz⟩
theorem tC{W:List Nat}(hp:CO r W){p c:Nat}(hc:BB κ q r W p=some c):∀j p',q c≤p'→p=p'+1+j→c∈BM κ q r W p'
 |0,p',h1,h2=>TY (h2▸(N0 hp hc).2.2.1) h1
 |j+1,p',h1,h2=>TY (OA c (tC hp hc j (p'+1) (Nat.le_succ_of_le h1) (h2.trans (Nat.succ_add (p'+1) j).symm))) h1
theorem Hz{W:List Nat}(hp:CO r W)(hn:W.Nodup){m:Nat}(hQ:BM 2 q r W m=[]){p c:Nat}(hpm:p≤m)(hc:BB κ q r W p=some c)(hk:q c<p):
  ∃p' c',p'≤m∧BB 2 q r W p'=some c'∧p-q c≤p'-q c':=by
 have hbusy:∀p',q c≤p'→p'<p→BM 2 q r W p'≠[]:=by
  intro p' h1 h2 e;obtain⟨j,hj⟩:=Nat.exists_eq_add_of_lt h2;have hw:=tC hp hc j p' h1 (hj.trans (Nat.succ_add p' j).symm);have h3:=NO (κ:=κ) (q:=q) hp p';rw[←NO (κ:=2) hp,e]at h3;rw[List.length_eq_zero_iff.mp h3]at hw;cases hw
 obtain⟨p0,rfl⟩:=Nat.exists_eq_add_one_of_ne_zero (Nat.ne_of_gt (Nat.lt_of_le_of_lt (Nat.zero_le _) hk));obtain⟨a,h0,h1,h2,h3,_,_⟩:=c0 hp p0 (hbusy p0 (Nat.le_of_lt_succ hk) (Nat.lt_succ_self p0));have haq:a≤q c:=Nat.le_of_not_lt λh=>hbusy (a-1) (Nat.le_sub_one_of_lt h) (Nat.lt_of_le_of_lt (Nat.sub_le a 1) (Nat.lt_succ_of_le h1)) h3;have key:∀j p1,m=p1+j→a≤p1→p0≤p1→(∀p',a≤p'→p'≤p1→BM 2 q r W p'≠[])→∃p' c',p'≤m∧BB 2 q r W p'=some c'∧q c'=a∧p0+1≤p':=by
  intro j
  induction j with
  |zero=>
   intro p1 e1 e2 e3 e4;exact absurd ((congrArg (BM 2 q r W) e1).symm.trans hQ) (e4 p1 e2 (Nat.le_refl _))
  |succ j ih=>
   intro p1 e1 e2 e3 e4;by_cases e:BM 2 q r W (p1+1)=[]
   ·obtain⟨a',g0,g1,g2,g3,⟨z,hz,hqz⟩,_⟩:=c0 hp p1 (e4 p1 e2 (Nat.le_refl _));have haa:a'=a:=by
     rcases Nat.lt_trichotomy a' a with h|h|h
     ·exact absurd h3 (g2 (a-1) (Nat.le_sub_one_of_lt h) (Nat.le_trans (Nat.sub_le a 1) e2))
     ·exact h
     ·exact absurd g3 (e4 (a'-1) (Nat.le_sub_one_of_lt h) (Nat.le_trans (Nat.sub_le a' 1) g1))
    obtain⟨b,f1,f2,f3,f4⟩:=UX hp (c9 hz);rcases f4 with f4|f4
    ·exact⟨p1+1,b,e1▸Nat.add_le_add_left (Nat.succ_le_succ (Nat.zero_le j)) p1,f1,by rw[←f4,hqz,haa],Nat.succ_le_succ e3⟩
    ·rw[e]at f4;cases f4
   ·refine ih (p1+1) (e1.trans (Nat.succ_add p1 j).symm) (Nat.le_succ_of_le e2) (Nat.le_succ_of_le e3) λp' h1 h2=>?_;rcases Nat.lt_or_ge p1 p' with h|h
    ·rw[Nat.le_antisymm h2 h];exact e
    ·exact e4 p' h1 h
 obtain⟨p',c',e1,e2,e3,e4⟩:=key (m-p0) p0 (Nat.add_sub_cancel' (Nat.le_of_succ_le hpm)).symm h1 (Nat.le_refl _) h2;exact⟨p',c',e1,e2,e3▸Nat.le_trans (Nat.sub_le_sub_left haq _) (Nat.sub_le_sub_right e4 a)⟩
end
section
variable(C:(Nat→Bool)→Nat)
noncomputable def GQ(s spot far:Nat):Nat:=C λw=>Nat.blt ((spot+s-w)%s) far
noncomputable def BV:List Nat→Nat
 |[]=>0
 |a::l=>Nat.max a (BV l)
noncomputable def B3:List Nat→Nat
 |[]=>0
 |a::l=>a+B3 l
def D8(s n spot:Nat):Nat:=BV ((List.range n).map λfar=>GQ C s spot far-far)
def ND(s n spot:Nat):Bool:=(C (λw=>Nat.beq w spot)).beq 0&&(D8 C s n ((spot+s-1)%s)).beq 0
noncomputable def GY(s st p:Nat):Nat:=C λw=>Nat.beq ((w+s-st)%s) p
def NX(s n:Nat):Bool:=
 match(List.range s).filter (ND C s n)with
 |[]=>false
 |st::_=>(List.range s).all (λp=>(D8 C s n ((st+p)%s)).beq (cq (GY C s st) p))&&(B3 ((List.range s).map (D8 C s n))).beq (KB (cq (GY C s st)) s)
end
noncomputable def BJ(ws:List Nat)(P:Nat→Bool):Nat:=ws.countP P
theorem Ag{ws ws':List Nat}(h:ws.Perm ws'):BJ ws=BJ ws':=funext λP=>h.countP_eq P
noncomputable def MH(s:Nat):Nat→Nat→List (List Nat)
 |0,_=>[[]]
 |n+1,lo=>((List.range s).filter λa=>Nat.ble lo a).flatMap λa=>(MH s n a).map (a::·)
theorem qM{s:Nat}:∀(ws:List Nat)(lo:Nat),ws.Pairwise (· ≤·)→(∀w∈ws,lo≤w∧w<s)→ws∈MH s ws.length lo
 |[],_,_,_=>.head _
 |a::l,lo,hp,h=>by
  show _∈List.flatMap _ _;rw[List.mem_flatMap];have ha:=h a (.head _);refine⟨a,List.mem_filter.mpr ⟨List.mem_range.mpr ha.2,by simpa using ha.1⟩,List.mem_map.mpr ⟨l,?_,rfl⟩⟩;rw[List.pairwise_cons]at hp;exact qM l a hp.2 λw hw=>⟨hp.1 w hw,(h w (.tail _ hw)).2⟩
theorem Jm:(MH 6 4 0).all (λws=>NX (BJ ws) 6 4)=true:=by decide+kernel
theorem Jn:(MH 6 5 0).all (λws=>NX (BJ ws) 6 5)=true:=by decide+kernel
theorem Jo:(MH 7 4 0).all (λws=>NX (BJ ws) 7 4)=true:=by decide+kernel
theorem Jp:(MH 7 5 0).all (λws=>NX (BJ ws) 7 5)=true:=by decide+kernel
theorem Jq{s n:Nat}(hs:s=6∨s=7)(hn:n=4∨n=5){ws:List Nat}(hl:ws.length=n)(hw:∀w∈ws,w<s):NX (BJ ws) s n=true:=by
 let ws':=ws.mergeSort (λa b=>decide (a≤b))
 have hpm:ws'.Perm ws:=List.mergeSort_perm ws _;have hsrt:ws'.Pairwise (· ≤·):=by
  have:=List.pairwise_mergeSort (le:= λa b:Nat=>decide (a≤b)) (λa b c h1 h2=>decide_eq_true (Nat.le_trans (of_decide_eq_true h1) (of_decide_eq_true h2))) (λa b=>Bool.or_eq_true_iff.mpr ((Nat.le_total a b).imp decide_eq_true decide_eq_true)) ws;exact this.imp λh=>by simpa using h
 have hm:ws'∈MH s n 0:=by
  have:=qM (s:=s) ws' 0 hsrt λw h=>⟨Nat.zero_le _,hw w (hpm.subset h)⟩;rw[hpm.length_eq,hl]at this;exact this
 rw[←Ag hpm];have hall:(MH s n 0).all (λws=>NX (BJ ws) s n)=true:=by
  rcases hs with rfl|rfl<;>rcases hn with rfl|rfl
  ·exact Jm
  ·exact Jn
  ·exact Jo
  ·exact Jp
 exact List.all_eq_true.mp hall ws' hm
theorem Og{s n:Nat}(hs:s=6∨s=7)(hn:n=4∨n=5){ws:List Nat}(hl:ws.length=n)(hw:∀w∈ws,w<s):
  ∃st rest,(List.range s).filter (ND (BJ ws) s n)=st::rest∧st<s∧st∉ws∧(∀p,p<s→D8 (BJ ws) s n ((st+p)%s)=cq (GY (BJ ws) s st) p)∧cq (GY (BJ ws) s st) (s-1)=0∧B3 ((List.range s).map (D8 (BJ ws) s n))=KB (cq (GY (BJ ws) s st)) (s-1):=by
 have h:=Jq hs hn hl hw;unfold NX at h;split at h
 ·cases h
 ·rename_i st rest e;have hst:st∈(List.range s).filter (ND (BJ ws) s n):=by rw[e];exact .head _
  rw[List.mem_filter,List.mem_range]at hst;obtain⟨h1,h2⟩:=hst;unfold ND at h2;rw[Bool.and_eq_true,Nat.beq_eq,Nat.beq_eq]at h2;rw[Bool.and_eq_true,Nat.beq_eq,List.all_eq_true]at h;obtain⟨h3,h4⟩:=h;have h5:∀p,p<s→D8 (BJ ws) s n ((st+p)%s)=cq (GY (BJ ws) s st) p:= λp hp=>by
   have:=h3 p (List.mem_range.mpr hp);rwa [Nat.beq_eq]at this
  obtain⟨k,rfl⟩:∃k,s=k+1:=hs.elim (λe=>⟨5,e⟩) λe=>⟨6,e⟩;have h6:cq (GY (BJ ws) (k+1) st) k=0:=(h5 k (Nat.lt_succ_self k)).symm.trans h2.2;refine⟨st,rest,e,h1,?_,h5,h6,?_⟩
  ·intro hmem;have h7:=h2.1;unfold BJ at h7;rw[List.countP_eq_zero]at h7;exact h7 st hmem (Nat.beq_refl st)
  ·rw[h4];show KB _ k+cq _ k=KB _ k;rw[h6,Nat.add_zero]
noncomputable def CR(s st w:Nat):Nat:=(w+s-st)%s
theorem Lc{s st w:Nat}(h:0<s):CR s st w<s:=Nat.mod_lt _ h
theorem P5{s st w:Nat}(hst:st<s)(hw:w<s):(st+CR s st w)%s=w:=by
 unfold CR;rw[Nat.add_mod_mod,Nat.add_sub_cancel' (Nat.le_trans (Nat.le_of_lt hst) (Nat.le_add_left s w)),Nat.add_mod_right,Nat.mod_eq_of_lt hw]
theorem Ld{s st w:Nat}(hst:st<s)(hw:w<s)(hne:w≠st):0<CR s st w:=
 Nat.pos_of_ne_zero λe=>hne ((P5 hst hw).symm.trans (by rw[e];exact Nat.mod_eq_of_lt hst))
theorem PZ{s st p:Nat}(hst:st<s)(hp:p<s):CR s st ((st+p)%s)=p:=by
 unfold CR;rw[Nat.add_sub_assoc (Nat.le_of_lt hst),Nat.mod_add_mod,Nat.add_comm st p,Nat.add_assoc,Nat.add_sub_cancel' (Nat.le_of_lt hst),Nat.add_mod_right,Nat.mod_eq_of_lt hp]
theorem tD{s st w p:Nat}(hst:st<s)(hw:w<s)(hp:p<s)(hle:CR s st w≤p):((st+p)%s+s-w)%s=p-CR s st w:=by
 have h1:=P5 hst hw;obtain⟨d,rfl⟩:=Nat.exists_eq_add_of_le hle;rw[Nat.add_sub_assoc (Nat.le_of_lt hw),Nat.mod_add_mod,Nat.add_sub_cancel_left,←Nat.add_assoc,Nat.add_assoc _ d,←Nat.mod_add_mod,h1,Nat.add_left_comm,Nat.add_sub_cancel' (Nat.le_of_lt hw),Nat.add_mod_right];exact Nat.mod_eq_of_lt (Nat.lt_of_le_of_lt (Nat.le_add_left _ _) hp)
theorem pG{s st:Nat}{ws:List Nat}(p:Nat):(DV (λc=>CR s st (ws.getD c 0)) (List.range ws.length) p).length=GY (BJ ws) s st p:=by
 unfold DV GY BJ CR;rw[←List.countP_eq_length_filter];have:ws=(List.range ws.length).map λc=>ws.getD c 0:=by
  apply List.ext_getElem
  ·simp
  ·intro i h1 h2;simp[List.getD_eq_getElem?_getD,h1]
 conv=>rhs;rw[this]
 rw[List.countP_map];refine List.countP_congr λc V=>?_;simp only[Function.comp,beq_iff_eq,Nat.beq_eq]
theorem A0{F G:PF}{ρ ρ':List LV}(h:F ρ=some (.next,ρ')):AG F G ρ=G ρ':=by
 unfold AG;rw[h]
theorem KZ{F G:PF}{ρ ρ':List LV}{d:D}(h:F ρ=some (.ret d,ρ')):AG F G ρ=some (.ret d,ρ'):=by
 unfold AG;rw[h]
theorem eJ{F G:PF}{ρ ρ':List LV}(h:F ρ=some (.brk,ρ')):AG F G ρ=some (.brk,ρ'):=by
 unfold AG;rw[h]
theorem Rx{upd:List LV→D→Option (List LV)}{F:PF}{ρ:List LV}:B7 upd F [] ρ=some (.next,ρ):=rfl
theorem GV{upd:List LV→D→Option (List LV)}{F:PF}{d:D}{ds:List D}{ρ CE I5:List LV}(h1:upd ρ d=some CE)(h2:F CE=some (.next,I5)):B7 upd F (d::ds) ρ=B7 upd F ds I5:=by
 simp only[B7,h1,Option.bind_some,h2]
theorem n9{upd:List LV→D→Option (List LV)}{F:PF}{d:D}{ds:List D}{ρ CE I5:List LV}(h1:upd ρ d=some CE)(h2:F CE=some (.brk,I5)):B7 upd F (d::ds) ρ=some (.next,I5):=by
 simp only[B7,h1,Option.bind_some,h2]
theorem oA{upd:List LV→D→Option (List LV)}{F:PF}{d v:D}{ds:List D}{ρ CE I5:List LV}(h1:upd ρ d=some CE)(h2:F CE=some (.ret v,I5)):B7 upd F (d::ds) ρ=some (.ret v,I5):=by
 simp only[B7,h1,Option.bind_some,h2]
theorem Dy{σ:Type}{upd:List LV→D→Option (List LV)}{F:PF}(I:σ→List LV→Prop)(step:σ→D→σ)(P:σ→D→Prop)(h:∀a d ρ,I a ρ→P a d→∃CE I5,upd ρ d=some CE∧F CE=some (.next,I5)∧I (step a d) I5):
  ∀(ds:List D)(a:σ)(ρ:List LV),I a ρ→(∀pre d post,ds=pre++d::post→P (pre.foldl step a) d)→∃ρ',B7 upd F ds ρ=some (.next,ρ')∧I (ds.foldl step a) ρ'
 |[],a,ρ,hi,_=>⟨ρ,rfl,hi⟩
 |d::ds,a,ρ,hi,hp=>by
  obtain⟨CE,I5,h1,h2,h3⟩:=h a d ρ hi (hp [] d ds rfl);obtain⟨ρ',e1,e2⟩:=Dy I step P h ds (step a d) I5 h3 λpre d' post e=>hp (d::pre) d' post (by rw[e];rfl);exact⟨ρ',by rw[GV h1 h2];exact e1,e2⟩
theorem mE{g:D→Option (Option D)}(o:D→Option D):∀{ds:List D},(∀d∈ds,g d=some (o d))→B2 g ds=some (ds.filterMap o)
 |[],_=>rfl
 |d::ds,h=>by
  unfold B2;rw[h d (.head _),mE o λe he=>h e (.tail _ he)];cases e:o d<;>simp[e]
theorem Rm{g:D→Option (Option D)}(o:D→D){ds:List D}(h:∀d∈ds,g d=some (some (o d))):B2 g ds=some (ds.map o):=by
 rw[mE (λd=>some (o d)) h]
 congr 1
 clear h
 induction ds with
 |nil=>rfl
 |cons a r ih=>simp
theorem mF{upd:List LV→D→Option (List LV)}{ft:TF}{fe:EF}{ρi ρ1:List LV}{d e:D}(h1:upd ρi d=some ρ1)(h2:ft ρ1=some true)(h3:fe ρ1=some e):BN upd ft fe ρi d=some (some e):=by
 unfold BN;rw[h1,Option.bind_some,h2,Option.bind_some,if_pos rfl,h3];rfl
theorem Rn{upd:List LV→D→Option (List LV)}{ft:TF}{fe:EF}{ρi ρ1:List LV}{d:D}(h1:upd ρi d=some ρ1)(h2:ft ρ1=some false):BN upd ft fe ρi d=some none:=by
 unfold BN;rw[h1,Option.bind_some,h2,Option.bind_some];rfl
theorem T6{α:Type}{g:D→Option (Option D)}(val:α→D)(o:α→Option D):∀{xs:List α},(∀x∈xs,g (val x)=some (o x))→B2 g (xs.map val)=some (xs.filterMap o)
 |[],_=>rfl
 |x::xs,h=>by
  rw[List.map_cons];unfold B2;rw[h x (.head _),T6 val o λe he=>h e (.tail _ he)];cases e:o x<;>simp[e]
theorem T7{α:Type}{g:D→Option (Option D)}(val:α→D)(o:α→D){xs:List α}(h:∀x∈xs,g (val x)=some (some (o x))):B2 g (xs.map val)=some (xs.map o):=by
 rw[T6 val (λx=>some (o x)) h]
 congr 1
 clear h
 induction xs with
 |nil=>rfl
 |cons a r ih=>simp
theorem P3{F:PF}{ρ ρ':List LV}{d:D}(h:F ρ=some (.ret d,ρ')):DB F ρ=some d:=by unfold DB;rw[h];rfl
theorem Ps{ft:TF}{F:PF}{k:Nat}{ρ:List LV}(h:ft ρ=some false):IC ft F (k+1) ρ=some (.next,ρ):=by
 unfold IC;rw[h];rfl
theorem tG{ft:TF}{F:PF}{k:Nat}{ρ ρ':List LV}(h:ft ρ=some true)(h2:F ρ=some (.next,ρ')):IC ft F (k+1) ρ=IC ft F k ρ':=by
 show(ft ρ).bind _=_;rw[h,Option.bind_some,if_pos rfl,h2]
noncomputable abbrev vI(xs:List Int):List D:=xs.map .int
noncomputable abbrev vN(xs:List Nat):List D:=xs.map λ(x:Nat)=>D.int (x:Int)
section
variable{β:Type}
theorem Ef(k:BE)(ds:List D)(f:BE→List D→Option β):NG (some (.own k ds)) f=f k ds:=rfl
theorem CB(p:Option Addr)(ds:List D)(f:Option Addr→List D→Option β):D9 (some (.own (.list p) ds)) f=f p ds:=rfl
theorem Ry(p:Option Addr)(C:Addr)(ds:List D)(f:Option Addr→Addr→List D→Option β):GE (some (.own (.hdr p C) ds)) f=f p C ds:=rfl
theorem Ed(p:Option Addr)(C:Addr)(ns:List Str)(ds:List D)(f:Option Addr→Addr→List Str→List D→Option β):J2 (some (.own (.ins p C ns) ds)) f=f p C ns ds:=rfl
theorem oH(p:Option Addr)(c:Addr)(q:Str)(ds:List D)(f:Option Addr→Addr→Str→List D→Option β):NH (some (.own (.tab p c q) ds)) f=f p c q ds:=rfl
theorem oG(C:Addr)(ns:List Str)(ds:List D)(f:Addr→List Str→List D→Option β):EW (.obj C ns ds) f=f C ns ds:=rfl
theorem OX{C:Addr}{x:Str}{ns:List Str}{ds:List D}{i:Nat}{d:D}(hi:KS x ns=some i)(hd:ds[i]? =some d):ES C x (.obj C ns ds)=some d:=by
 show(if C=C then(KS x ns).bind λi=>ds[i]? else none)=_;rw[if_pos rfl,hi];exact hd
theorem CJ(d:D)(f:D→Option β):EO f [d]=f d:=rfl
theorem Sy(d e:D)(f:D→D→Option β):I4 f [d,e]=f d e:=rfl
theorem Sv(d e g:D)(f:D→D→D→Option β):P8 f [d,e,g]=f d e g:=rfl
theorem Sk{α:Type}(a:α)(f:α→Option β)(z:Option β):NZ (some a) f z=f a:=rfl
theorem Si{α:Type}(f:α→Option β)(z:Option β):NZ none f z=z:=rfl
end
theorem CF(i:Int):B6 (.int i)=some i:=rfl
theorem CG(i:Str):E6 (.str i)=some i:=rfl
theorem CC(i:List D):CX (.lst i)=some i:=rfl
theorem CH(i:List D):JC (.tup i)=some i:=rfl
theorem Rl(i:List D):Q1 (.ilst i)=some i:=rfl
theorem Rj(i:Bool):TX (.bool i)=some i:=rfl
theorem Rk(i:UInt64):HV (.flt i)=some i:=rfl
theorem Ri(i:Addr):QW (.adr i)=some i:=rfl
theorem xM(a b:Int):M5 (.rng a b)=some (a,b):=rfl
theorem Q5(a b:Int):BW (.int a) (.int b)=some (.int (a+b)):=rfl
theorem T8{a b:Str}(h:a.length+b.length≤100000):BW (.str a) (.str b)=some (.str (a++b)):=if_pos h
theorem Bo(a b:Int):EN (.int a) (.int b)=some (.int (a-b)):=rfl
theorem KP{a b:Int}(h:FT a=true)(h2:FT b=true):EH (.int a) (.int b)=some (.int (a*b)):=by
 have e:EH (.int a) (.int b)=FR (if FT a&&FT b then some (.int (a*b))else none) none:=rfl;rw[e,h,h2];rfl
theorem Rt{a b:Int}(h:FT a=true)(h2:FT b=true):KO (.int a) (.int b)=some (.int (a*b)):=KP h h2
theorem aW{a:Str}{k:Int}(h1:a.length≤100)(h2: -1000≤k)(h3:k≤100):KO (.str a) (.int k)=some (.str (JN a k)):=by
 have e:KO (.str a) (.int k)=FR (if decide (a.length≤100)&&decide (-1000≤k)&&decide (k≤100)then some (.str (JN a k))else none) (EH (.str a) (.int k)):=rfl;rw[e,decide_eq_true h1,decide_eq_true h2,decide_eq_true h3];rfl
theorem KN{a b:Int}(h:b≠0)(h2:O8 b=true):FO (.int a) (.int b)=some (.int (a.fdiv b)):=(if_neg h).trans (if_pos h2)
theorem HZ{a b:Int}(h:b≠0):CZ (.int a) (.int b)=some (.int (a.fmod b)):=by
 have e:CZ (.int a) (.int b)=FR (if b=0 then none else some (.int (a.fmod b))) none:=rfl;rw[e,if_neg h];rfl
theorem Rs(a b:Int):J0 (.int a) (.int b)=some (decide (a<b)):=rfl
theorem Bc(a b:Int):Q7 (.int a) (.int b)=some (decide (b<a)):=rfl
theorem Bf(a b:Int):Q8 (.int a) (.int b)=some (decide (a≤b)):=rfl
theorem Bb(a b:Int):O3 (.int a) (.int b)=some (decide (b≤a)):=rfl
theorem Ro(a b:Int):EU (.int a) (.int b)=some (a==b):=rfl
theorem Bl(a b:Int):FS (.int a) (.int b)=some (a !=b):=rfl
theorem Rp(a b:Str):EU (.str a) (.str b)=some (a==b):=rfl
theorem Ru(a b:Str):FS (.str a) (.str b)=some (a !=b):=rfl
theorem mQ:F8 .none .none=some true:=rfl
theorem Rr(a:Str):F8 (.str a) .none=some false:=rfl
theorem Rq(a:Int):F8 (.int a) .none=some false:=rfl
theorem Bd(a:FuncData)(b:List Str)(c:List D):F8 (.clo a b c) .none=some false:=rfl
theorem Bm(a:Int):GT (.int a)=some (.int (-a)):=rfl
theorem m0(b:Bool):HH (.bool b)=some b:=rfl
theorem Rw:HH .none=some false:=rfl
theorem Rv(i:Int):HH (.int i)=some (i !=0):=rfl
theorem HP{α:Type}{l:List α}(h:l.length≤100000):BG l=true:=by simp[BG,h]
theorem VK{α:Type}:BG ([]:List α)=true:=rfl
theorem Ss{α:Type}(a:α):BG [a]=true:=rfl
theorem Su{α:Type}(a b:α):BG [a,b]=true:=rfl
theorem eN{α:Type}(a b c:α):BG [a,b,c]=true:=rfl
theorem Sw(a b:D):D5 2 (.tup [a,b])=some [a,b]:=rfl
theorem Sx(a b c:D):D5 3 (.tup [a,b,c])=some [a,b,c]:=rfl
theorem Se{α:Type}(a:α):[a].length=1:=rfl
theorem Hv{α:Type}(a b:α):[a,b].length=2:=rfl
theorem Sf{α:Type}(a b c:α):[a,b,c].length=3:=rfl
theorem Sq(ρ:List LV)(i j:Nat)(a b:D):A4 ρ [i,j] [a,b]=(ρ.set i (.d a)).set j (.d b):=rfl
theorem Sr(ρ:List LV)(i j k:Nat)(a b c:D):A4 ρ [i,j,k] [a,b,c]=((ρ.set i (.d a)).set j (.d b)).set k (.d c):=rfl
theorem PV{l:List D}{k:Int}(h0:0≤k)(h1:k<1000000):LO l k=l[k.toNat]? :=by
 unfold LO;rw[if_pos (by simp;lia)]
theorem F9{l:List D}{k:Int}:BL (.lst l) (.int k)=LO l k:=rfl
theorem Be{l:List D}{k:Int}:BL (.tup l) (.int k)=LO l k:=rfl
theorem mR{l:List D}(h:BG l=true):GA [.lst l]=some (.int l.length):=if_pos h
theorem Du(a b:Nat):(a:Int).fmod (b:Int)=((a%b:Nat):Int):=by
 rw[Int.fmod_eq_emod_of_nonneg _ (by lia)];rfl
theorem Db(a b:Nat):(a:Int).fdiv (b:Int)=((a / b:Nat):Int):=by
 rw[Int.fdiv_eq_ediv_of_nonneg _ (by lia)];rfl
local macro_rules
  | `(tactic| simp! only [$xs,*]) => do
    let l ← ("AD AM dF U1 UI List.getElem?_cons_zero List.getElem?_cons_succ List.set_cons_zero List.set_cons_succ Option.bind_some Option.map_some Q5 Bo Rs Bc Bf Bb Ro Bl Rp Ru mQ Rr Rq Bd Bm m0 Rw Rv VK Ss Su eN Sw Sx Se Hv Sf Sq Sr Ef CB Ry Ed oH oG CJ Sy Sv Sk Si CF CG CC CH Rl Rj Rk Ri xM F9 Be if_true".splitOn).toArray.mapM fun n => `(Lean.Parser.Tactic.simpLemma| $(Lean.mkIdent n.toName):term)
    `(tactic| simp only [$l,*, $xs,*])
def OL(ds:List D):Option D:=if ds.length=3 then DB gL (A4 (AX 8) [0,1,2] ds)else none
def OM(ds:List D):Option D:=if ds.length=3 then DB jM (A4 (AX 12) [0,1,2] ds)else none
def cB(spots a t:Int):Option D:=(KM (.int a) (.int spots)).bind λq=>BW q (.int t)
def rS(s0:LV)(spots:Int)(hue:D)(sh v:Int):Option D:=DB (YA OL OM) [s0,.d (.int spots),.unset,.unset,.d hue,.unset,.unset,.d (.int sh),.d (.int v)]
def pE(o:Option D)(a b:Int):Bool:=decide (o.bind OV=some (a,b))
theorem Fq{o:Option D}{a b:Int}(h:pE o a b=true):o=some (.tup [.int a,.int b]):=AK (of_decide_eq_true h) λd e q=>e.trans (congrArg some (ZM q))
def VG(s0:LV)(spots a t sh v:Int):Bool:=match cB spots a t with
 |some d=>pE (rS s0 spots d (sh+1) (v+1)) a (v+1)
 |none=>false
noncomputable def rng(n:Nat):List Int:=(List.range n).map λ(i:Nat)=>(i:Int)
def CQ(s0:LV)(spots a t:Int):Bool:=(rng 4).all λsh=>(rng 8).all λv=>VG s0 spots a t sh v
theorem yT(s0:LV):CQ s0 6 0 0=true:=by kernel_rfl
theorem yU(s0:LV):CQ s0 6 0 1=true:=by kernel_rfl
theorem yV(s0:LV):CQ s0 6 0 2=true:=by kernel_rfl
theorem yW(s0:LV):CQ s0 6 1 0=true:=by kernel_rfl
theorem yX(s0:LV):CQ s0 6 1 1=true:=by kernel_rfl
theorem yY(s0:LV):CQ s0 6 1 2=true:=by kernel_rfl
theorem yZ(s0:LV):CQ s0 6 2 0=true:=by kernel_rfl
theorem y0(s0:LV):CQ s0 6 2 1=true:=by kernel_rfl
theorem y'(s0:LV):CQ s0 6 2 2=true:=by kernel_rfl
theorem zA(s0:LV):CQ s0 6 3 0=true:=by kernel_rfl
theorem zB(s0:LV):CQ s0 6 3 1=true:=by kernel_rfl
theorem zC(s0:LV):CQ s0 6 3 2=true:=by kernel_rfl
theorem zD(s0:LV):CQ s0 6 4 0=true:=by kernel_rfl
theorem zE(s0:LV):CQ s0 6 4 1=true:=by kernel_rfl
theorem zF(s0:LV):CQ s0 6 4 2=true:=by kernel_rfl
theorem zG(s0:LV):CQ s0 6 5 0=true:=by kernel_rfl
theorem zH(s0:LV):CQ s0 6 5 1=true:=by kernel_rfl
theorem zI(s0:LV):CQ s0 6 5 2=true:=by kernel_rfl
theorem zJ(s0:LV):CQ s0 7 0 0=true:=by kernel_rfl
theorem zK(s0:LV):CQ s0 7 0 1=true:=by kernel_rfl
theorem zL(s0:LV):CQ s0 7 0 2=true:=by kernel_rfl
theorem zM(s0:LV):CQ s0 7 1 0=true:=by kernel_rfl
theorem zN(s0:LV):CQ s0 7 1 1=true:=by kernel_rfl
theorem zO(s0:LV):CQ s0 7 1 2=true:=by kernel_rfl
theorem zP(s0:LV):CQ s0 7 2 0=true:=by kernel_rfl
theorem zQ(s0:LV):CQ s0 7 2 1=true:=by kernel_rfl
theorem zR(s0:LV):CQ s0 7 2 2=true:=by kernel_rfl
theorem zS(s0:LV):CQ s0 7 3 0=true:=by kernel_rfl
theorem zT(s0:LV):CQ s0 7 3 1=true:=by kernel_rfl
theorem zU(s0:LV):CQ s0 7 3 2=true:=by kernel_rfl
theorem zV(s0:LV):CQ s0 7 4 0=true:=by kernel_rfl
theorem zW(s0:LV):CQ s0 7 4 1=true:=by kernel_rfl
theorem zX(s0:LV):CQ s0 7 4 2=true:=by kernel_rfl
theorem zY(s0:LV):CQ s0 7 5 0=true:=by kernel_rfl
theorem zZ(s0:LV):CQ s0 7 5 1=true:=by kernel_rfl
theorem z'(s0:LV):CQ s0 7 5 2=true:=by kernel_rfl
theorem Aa(s0:LV):CQ s0 7 6 0=true:=by kernel_rfl
theorem Ab(s0:LV):CQ s0 7 6 1=true:=by kernel_rfl
theorem Ac(s0:LV):CQ s0 7 6 2=true:=by kernel_rfl
theorem rV{n:Nat}{i:Int}(h0:0≤i)(h1:i<n):i∈rng n:=by
 unfold rng;refine List.mem_map.mpr ⟨i.toNat,List.mem_range.mpr (by lia),by lia⟩
theorem CY{s0:LV}{spots a t sh v:Int}(h:CQ s0 spots a t=true)(h1:0≤sh)(h2:sh<4)(h3:0≤v)(h4:v<8):VG s0 spots a t sh v=true:=by
 unfold CQ at h;exact List.all_eq_true.mp (List.all_eq_true.mp h sh (rV h1 h2)) v (rV h3 h4)
theorem Ad(s0:LV){spots a t sh v:Int}(hs:spots=6∨spots=7)(ha:0≤a)(ha':a<spots)(ht:0≤t)(ht':t<3)(h1:0≤sh)(h2:sh<4)(h3:0≤v)(h4:v<8):VG s0 spots a t sh v=true:=by
 have ht3:t=0∨t=1∨t=2:=by lia
 rcases hs with rfl|rfl
 ·have ha3:a=0∨a=1∨a=2∨a=3∨a=4∨a=5:=by lia
  rcases ha3 with rfl|rfl|rfl|rfl|rfl|rfl<;>rcases ht3 with rfl|rfl|rfl
  ·exact CY (yT s0) h1 h2 h3 h4
  ·exact CY (yU s0) h1 h2 h3 h4
  ·exact CY (yV s0) h1 h2 h3 h4
  ·exact CY (yW s0) h1 h2 h3 h4
  ·exact CY (yX s0) h1 h2 h3 h4
  ·exact CY (yY s0) h1 h2 h3 h4
  ·exact CY (yZ s0) h1 h2 h3 h4
  ·exact CY (y0 s0) h1 h2 h3 h4
  ·exact CY (y' s0) h1 h2 h3 h4
  ·exact CY (zA s0) h1 h2 h3 h4
  ·exact CY (zB s0) h1 h2 h3 h4
  ·exact CY (zC s0) h1 h2 h3 h4
  ·exact CY (zD s0) h1 h2 h3 h4
  ·exact CY (zE s0) h1 h2 h3 h4
  ·exact CY (zF s0) h1 h2 h3 h4
  ·exact CY (zG s0) h1 h2 h3 h4
  ·exact CY (zH s0) h1 h2 h3 h4
  ·exact CY (zI s0) h1 h2 h3 h4
 ·have ha3:a=0∨a=1∨a=2∨a=3∨a=4∨a=5∨a=6:=by lia
  rcases ha3 with rfl|rfl|rfl|rfl|rfl|rfl|rfl<;>rcases ht3 with rfl|rfl|rfl
  ·exact CY (zJ s0) h1 h2 h3 h4
  ·exact CY (zK s0) h1 h2 h3 h4
  ·exact CY (zL s0) h1 h2 h3 h4
  ·exact CY (zM s0) h1 h2 h3 h4
  ·exact CY (zN s0) h1 h2 h3 h4
  ·exact CY (zO s0) h1 h2 h3 h4
  ·exact CY (zP s0) h1 h2 h3 h4
  ·exact CY (zQ s0) h1 h2 h3 h4
  ·exact CY (zR s0) h1 h2 h3 h4
  ·exact CY (zS s0) h1 h2 h3 h4
  ·exact CY (zT s0) h1 h2 h3 h4
  ·exact CY (zU s0) h1 h2 h3 h4
  ·exact CY (zV s0) h1 h2 h3 h4
  ·exact CY (zW s0) h1 h2 h3 h4
  ·exact CY (zX s0) h1 h2 h3 h4
  ·exact CY (zY s0) h1 h2 h3 h4
  ·exact CY (zZ s0) h1 h2 h3 h4
  ·exact CY (z' s0) h1 h2 h3 h4
  ·exact CY (Aa s0) h1 h2 h3 h4
  ·exact CY (Ab s0) h1 h2 h3 h4
  ·exact CY (Ac s0) h1 h2 h3 h4
theorem UE(x:Int){m:Int}(h:0<m):0≤x.fmod m∧x.fmod m<m:=⟨Int.fmod_nonneg_of_pos x h,Int.fmod_lt_of_pos x h⟩
theorem Mi(x spots:Int)(hs:spots=6∨spots=7){hue:D}(hh:cB spots (x.fmod spots) ((x.fdiv spots).fmod 3)=some hue):
  TC [.d (.int x),.d (.int spots),.unset,.unset,.unset,.unset,.unset,.unset,.unset]=some (.next,[.d (.int x),.d (.int spots),.unset,.unset,.d hue,.unset,.unset,.d (.int ((x.fdiv (3*spots)).fmod 4+1)),.d (.int ((x.fdiv (12*spots)).fmod 8+1))]):=by
 rcases hs with rfl|rfl
 all_goals
  unfold cB at hh;simp! only[TC,HZ (b:=6) (by decide),HZ (b:=7) (by decide),HZ (b:=3) (by decide),HZ (b:=4) (by decide),HZ (b:=8) (by decide),KN (b:=6) (by decide) (by decide),KN (b:=7) (by decide) (by decide),KP (a:=3) (b:=6) (by decide) (by decide),KP (a:=3) (b:=7) (by decide) (by decide),KP (a:=12) (b:=6) (by decide) (by decide),KP (a:=12) (b:=7) (by decide) (by decide),KN (b:=3*6) (by decide) (by decide),KN (b:=3*7) (by decide) (by decide),KN (b:=12*6) (by decide) (by decide),KN (b:=12*7) (by decide) (by decide),hh]
theorem Mh(x spots:Int)(hs:spots=6∨spots=7):DB (X' OL OM) (A4 (AX 9) [0,1] [.int x,.int spots])=some (.tup [.int (x.fmod spots),.int ((x.fdiv (12*spots)).fmod 8+1)]):=by
 have hp:0<spots:=by lia
 obtain⟨a0,a1⟩:=UE x hp;obtain⟨t0,t1⟩:=UE (x.fdiv spots) (m:=3) (by lia);obtain⟨s0,s1⟩:=UE (x.fdiv (3*spots)) (m:=4) (by lia);obtain⟨v0,v1⟩:=UE (x.fdiv (12*spots)) (m:=8) (by lia);have key:=Ad (.d (.int x)) hs a0 a1 t0 t1 s0 s1 v0 v1;unfold VG at key;split at key
 ·rename_i hue hh;have:=Fq key;unfold rS at this;show DB (AG TC (YA OL OM)) [.d (.int x),.d (.int spots),.unset,.unset,.unset,.unset,.unset,.unset,.unset]=_;unfold DB at this⊢;rw[A0 (Mi x spots hs hh)];exact this
 ·cases key
theorem O4(a b:Nat)(h:b≠0):CZ (.int (a:Int)) (.int (b:Int))=some (.int ((a%b:Nat):Int)):=by rw[HZ (by lia),Du]
theorem aJ(a b:Nat)(h:b≠0)(h2:O8 (b:Int)=true):FO (.int (a:Int)) (.int (b:Int))=some (.int ((a / b:Nat):Int)):=by rw[KN (by lia) h2,Db]
theorem Ok(a b s:Nat)(h:b≤s)(h0:0<s):((a:Int)-(b:Int)).fmod (s:Int)=(((a+s-b)%s:Nat):Int):=by
 rw[Int.fmod_eq_emod_of_nonneg _ (by lia)];have:(a:Int)-(b:Int)=((a+s-b:Nat):Int)+(s:Int)*(-1):=by lia
 rw[this,Int.add_mul_emod_self_left];rfl
theorem aU(a b s:Nat)(h:b≤s)(h0:0<s):CZ (.int ((a:Int)-(b:Int))) (.int (s:Int))=some (.int (((a+s-b)%s:Nat):Int)):=by
 rw[HZ (by lia),Ok a b s h h0]
theorem IU(xs:List Nat):(vN xs).length=xs.length:=List.length_map ..
theorem GZ{xs:List Nat}(h:xs.length≤100000):BG (vN xs)=true:=HP (by rw[IU];exact h)
theorem HJ{xs:List Nat}{c:Nat}(h:c<xs.length)(hl:xs.length≤1000):BL (.lst (vN xs)) (.int (c:Int))=some (.int ((xs.getD c 0:Nat):Int)):=by
 rw[F9,PV (by lia) (by lia)];simp[vN,h,List.getD_eq_getElem?_getD]
theorem L5{xs:List Nat}(h:xs.length≤1000):GA [.lst (vN xs)]=some (.int (xs.length:Int)):=by
 rw[mR (GZ (by lia)),IU]
theorem eD(n:Nat):EQ 0 (n:Int)=vN (List.range n):=by
 unfold EQ vN;rw[show((n:Int)-0).toNat=n by lia]
 congr 1
 funext i;rw[Int.zero_add]
theorem JI{n:Nat}(h:n≤100000):GU [.int (n:Int)]=some (vN (List.range n)):=by
 unfold GU;rw[←eD];exact if_pos (by simp[HN];lia)
theorem Mk(n:Nat):EQ 1 (n:Int)=vN (List.range' 1 (n-1)):=by
 unfold EQ vN;rw[show((n:Int)-1).toNat=n-1 by lia,List.range'_eq_map_range,List.map_map]
 congr 1
theorem aY{n:Nat}(h:n≤100000):IQ [.int 1,.int (n:Int)]=some (vN (List.range' 1 (n-1))):=by
 unfold IQ;rw[←Mk];exact if_pos (by simp[HN];lia)
theorem nV{α β:Type}(P:α→Bool)(f:α→β):∀(xs:List α),xs.filterMap (λx=>if P x=true then some (f x)else none)=(xs.filter P).map f
 |[]=>rfl
 |x::xs=>by
  rw[List.filterMap_cons,List.filter_cons,nV P f xs];by_cases h:P x=true
  ·rw[if_pos h,if_pos h];rfl
  ·rw[if_neg h,if_neg h]
theorem T5{α:Type}{g:D→Option (Option D)}(val:α→D)(P:α→Bool)(f:α→D){xs:List α}(h:∀x∈xs,g (val x)=some (if P x=true then some (f x)else none)):B2 g (xs.map val)=some ((xs.filter P).map f):=by
 rw[T6 val (λx=>if P x=true then some (f x)else none) h,nV]
theorem JG{α:Type}{g:D→Option (Option D)}(val:α→D)(f:α→D){xs:List α}(h:∀x∈xs,g (val x)=some (some (f x))):B2 g (xs.map val)=some (xs.map f):=T7 val f h
theorem UP:∀(xs:List Nat),LG (vN xs)=true
 |[]=>rfl
 |x::xs=>UP xs
theorem UO:∀(xs:List Nat),J5 (vN xs)=some (xs.map λ(x:Nat)=>(x:Int))
 |[]=>rfl
 |x::xs=>by
  show(J5 (vN xs)).map _=_;rw[UO xs];rfl
theorem rR{b:Nat}:∀{xs:List Nat},b∈xs→(KR (b:Int) (vN xs)).map (λj=>(vN xs).eraseIdx j)=some (vN (xs.erase b))
 |x::xs,h=>by
  show((if(x:Int)=(b:Int)then some 0 else(KR (b:Int) (vN xs)).map (· +1)).map λj=>(D.int (x:Int)::vN xs).eraseIdx j)=_;by_cases e:x=b
  ·subst e;rw[if_pos rfl,List.erase_cons_head];rfl
  ·rw[if_neg (by lia),List.erase_cons_tail (by simpa using e)];have hb:b∈xs:=by
    rcases List.mem_cons.mp h with h|h
    ·exact absurd h.symm e
    ·exact h
   have ih:=rR hb;cases hi:KR (b:Int) (vN xs)with
   |none=>rw[hi]at ih;cases ih
   |some j=>
    rw[hi]at ih;simp only[Option.map_some,Option.some.injEq]at ih⊢;show D.int (x:Int)::(vN xs).eraseIdx j=_;rw[ih];rfl
theorem Bn{b:Nat}{xs:List Nat}(h:b∈xs)(hl:xs.length≤1000):UA (vN xs) [.int (b:Int)]=some (vN (xs.erase b)):=by
 unfold UA;refine(if_pos (by rw[GZ (by lia),UP];rfl)).trans ?_;exact rR h
theorem Ba{ds es:List D}(h:ds.length≤1000)(h2:es.length≤1000):T9 ds [.lst es]=some (ds++es):=by
 unfold T9;exact if_pos (by rw[HP (by lia),HP (by lia)];rfl)
theorem M6{ds:List D}{d:D}(h:ds.length≤1000):HY ds [d]=some (ds++[d]):=by
 unfold HY;exact if_pos (HP (by lia))
def NY(n:Nat)(d:D):Bool:=kqdOk n (F0 d)
theorem SM:∀(l:List D),K2 l=l.map F0
 |[]=>rfl
 |d::l=>congrArg (F0 d::·) (SM l)
theorem KV(n:Nat)(x:Int):NY n (.int x)=true:=by cases n<;>rfl
theorem qV(n:Nat){x:Str}(h:PyData.strOk x=true):NY n (.str x)=true:=by cases n<;>exact h
theorem R3{n:Nat}{l:List D}(h:∀d∈l,NY n d=true):NY (n+1) (.lst l)=true:=by
 show(K2 l).all (kqdOk n)=true;rw[SM,List.all_map,List.all_eq_true];exact h
theorem PQ{n:Nat}{l:List D}(h:∀d∈l,NY n d=true):NY (n+1) (.tup l)=true:=by
 show(K2 l).all (kqdOk n)=true;rw[SM,List.all_map,List.all_eq_true];exact h
theorem R5(n:Nat)(xs:List Nat):NY (n+1) (.lst (vN xs))=true:=R3 λd hd=>by
 obtain⟨x,_,rfl⟩:=List.mem_map.mp hd;exact KV _ _
theorem mX{a b:List D}(ha:EA (.lst a)=true)(hb:EA (.lst b)=true):FS (.lst a) (.lst b)=some (!LA (.lst a) (.lst b)):=by
 show(if EA (.lst a)&&EA (.lst b)then _ else _)=_;rw[ha,hb];rfl
theorem Ay{a b:List D}(ha:EA (.lst a)=true)(hb:EA (.lst b)=true):EU (.lst a) (.lst b)=some (LA (.lst a) (.lst b)):=by
 show(if EA (.lst a)&&EA (.lst b)then _ else _)=_;rw[ha,hb];rfl
theorem nE{a:D}(ha:EA a=true):LA a a=true:=(bH ha ha).mpr rfl
theorem O5{a b:List D}(ha:EA (.lst a)=true)(e:a=b):FS (.lst a) (.lst b)=some false:=by
 subst e;rw[mX ha ha,nE ha];rfl
theorem Az{a b:List D}(ha:EA (.lst a)=true)(e:a=b):EU (.lst a) (.lst b)=some true:=by
 subst e;rw[Ay ha ha,nE ha]
theorem Bj{xs:List Nat}(h:xs≠[]):FS (.lst (vN xs)) (.lst [])=some true:=by
 have h1:EA (.lst (vN xs))=true:=R5 7 xs;have h2:EA (.lst [])=true:=R5 7 [];rw[mX h1 h2];have:LA (.lst (vN xs)) (.lst [])=false:=by
  cases e:LA (.lst (vN xs)) (.lst [])with
  |false=>rfl
  |true=>
   have:=(bH h1 h2).mp e;cases xs with
   |nil=>exact absurd rfl h
   |cons a l=>exact absurd (PySem.W.Dat.list.inj this:F0 (.int (a:Int))::K2 (vN l)=[]) nofun
 rw[this];rfl
def D'(g:Nat):Str:=JN (Str.ofString " ") (g:Int)
def JK(g:Nat):Str:=D' g++Str.ofString "\t"
noncomputable def A'(i:Nat):Str:=⟨#[i]⟩
def BC(g k c:Nat):Str:=JN (JK g) (k:Int)++A' (97+c)
theorem O2{i:Nat}(h:i≤1000):G5 [.int (i:Int)]=some (.str (A' i)):=by
 unfold G5 A';exact if_pos (by lia)
def C4(k spot:Nat):Str:=A' ((if k%2=0 then 97 else 65)+spot)
def G9(g s st:Nat)(q:Nat→Nat)(e:Nat×Nat):D:=.tup [.str (C4 (e.1-q e.2) ((st+e.1)%s)),.str (BC g (e.1-q e.2) e.2)]
noncomputable def gs:List Nat:=List.range 3
theorem Hm:(List.range 3).all (λg=>decide ((D' g).length+1≤100)&&decide ((JK g).length≤100)&&(List.range 8).all λk=>(List.range 5).all λc=>decide ((JN (JK g) (k:Int)).length+1≤1000)&&decide ((BC g k c).length≤1000)&&(JK g++BC g k c==BC g (k+1) c)&&PyData.strOk (BC g k c))=true:=by decide+kernel
theorem RN{g k c:Nat}(hg:g<3)(hk:k<8)(hc:c<5):(D' g).length+1≤100∧(JK g).length≤100∧(JN (JK g) (k:Int)).length+1≤1000∧(BC g k c).length≤1000∧JK g++BC g k c=BC g (k+1) c∧PyData.strOk (BC g k c)=true:=by
 have h1:=List.all_eq_true.mp Hm g (List.mem_range.mpr hg);simp only[Bool.and_eq_true,decide_eq_true_eq]at h1;have h2:=List.all_eq_true.mp (List.all_eq_true.mp h1.2 k (List.mem_range.mpr hk)) c (List.mem_range.mpr hc);simp only[Bool.and_eq_true,decide_eq_true_eq,beq_iff_eq]at h2;exact⟨h1.1.1,h1.1.2,h2.1.1.1,h2.1.1.2,h2.1.2,h2.2⟩
theorem yS(i:Nat):(A' i).length=1:=rfl
theorem Aw{g k c:Nat}(hg:g<3)(hk:k<8)(hc:c<5):BW (.str (JN (JK g) (k:Int))) (.str (A' (97+c)))=some (.str (BC g k c)):=T8 (by rw[yS];have:=(RN hg hk hc).2.2.1;lia)
theorem mO{g:Nat}(hg:g<3):BW (.str (D' g)) (.str "\t")=some (.str (JK g)):=T8 (by
 have:=(RN (k:=0) (c:=0) hg (by lia) (by lia)).1;have e:(Str.ofString "\t").length=1:=by decide
 lia)
theorem Ax{g k c:Nat}(hg:g<3)(hk:k<8)(hc:c<5):BW (.str (JK g)) (.str (BC g k c))=some (.str (BC g (k+1) c)):=by
 obtain⟨_,h2,_,h4,h5,_⟩:=RN hg hk hc;rw[T8 (by lia),h5]
theorem Bi{g k:Nat}(hg:g<3)(hk:k<8):KO (.str (JK g)) (.int (k:Int))=some (.str (JN (JK g) (k:Int))):=by
 have:=(RN (k:=0) (c:=0) hg (by lia) (by lia)).2.1;exact aW this (by lia) (by lia)
structure B5(s st n g:Nat)(ws rk:List Nat):Prop where
 hs:s=6∨s=7
 hn:n=4∨n=5
 hg:g<3
 hst:st<s
 lw:ws.length=n
 lr:rk.length=n
 lt:∀w∈ws,w<s
 ns:st∉ws
 pt:CO (λc=>rk.getD c 0) (List.range n)
 fill:cq (GY (BJ ws) s st) (s-1)=0
theorem Mn{s:Nat}(h:s=6∨s=7):6≤s∧s≤7:=by rcases h with rfl|rfl<;>decide
theorem Jd{n:Nat}(h:n=4∨n=5):4≤n∧n≤5:=by rcases h with rfl|rfl<;>decide
theorem B5.s6{s st n g:Nat}{ws rk:List Nat}(O:B5 s st n g ws rk):6≤s∧s≤7:=Mn O.hs
theorem B5.n4{s st n g:Nat}{ws rk:List Nat}(O:B5 s st n g ws rk):4≤n∧n≤5:=Jd O.hn
def qW(s st:Nat)(ws:List Nat):Nat→Nat:= λc=>CR s st (ws.getD c 0)
noncomputable def rW(rk:List Nat):Nat→Nat:= λc=>rk.getD c 0
section
variable{s st n g:Nat}{ws rk:List Nat}
theorem B5.wish(O:B5 s st n g ws rk){c:Nat}(h:c<n):ws.getD c 0<s∧ws.getD c 0≠st:=by
 have hm:ws.getD c 0∈ws:=by
  rw[List.getD_eq_getElem?_getD,List.getElem?_eq_getElem (by rw[O.lw];exact h),Option.getD_some];exact List.getElem_mem _
 exact⟨O.lt _ hm,λe=>O.ns (e▸hm)⟩
theorem B5.q0(O:B5 s st n g ws rk){c:Nat}(h:c<n):0<qW s st ws c∧qW s st ws c<s:=by
 have:=O.hst;exact⟨Ld O.hst (O.wish h).1 (O.wish h).2,Lc (by lia)⟩
def EL(n:Nat)(W:List Nat):Prop:=∃R,(W++R).Perm (List.range n)
theorem EL.lt{n:Nat}{W:List Nat}(h:EL n W):∀c∈W,c<n:=by
 obtain⟨R,hp⟩:=h;exact λc hc=>List.mem_range.mp (hp.subset (List.mem_append_left _ hc))
theorem EL.nodup{n:Nat}{W:List Nat}(h:EL n W):W.Nodup:=by
 obtain⟨R,hp⟩:=h;exact(List.nodup_append.mp (hp.nodup_iff.mpr List.nodup_range)).1
theorem EL.all{n:Nat}:EL n (List.range n):=⟨[],by rw[List.append_nil]⟩
theorem B5.parted(O:B5 s st n g ws rk){W:List Nat}(h:EL n W):CO (rW rk) W:=O.pt.sub λc hc=>List.mem_range.mpr (h.lt c hc)
theorem B5.done(O:B5 s st n g ws rk){κ:Nat}{W:List Nat}(h:EL n W):BM κ (qW s st ws) (rW rk) W (s-1)=[]:=by
 have h1:=NO (κ:=κ) (q:=qW s st ws) (O.parted h) (s-1);have h2:cq (λp=>(DV (qW s st ws) W p).length) (s-1)≤cq (GY (BJ ws) s st) (s-1):=by
  refine mK (λp=>?_) _;rw[←pG,O.lw];obtain⟨R,hp⟩:=h;unfold DV;rw[←(hp.filter _).length_eq,List.filter_append,List.length_append];exact Nat.le_add_right _ _
 rw[O.fill]at h2;exact List.length_eq_zero_iff.mp (by lia)
noncomputable def I0(κ:Nat):Int:=if κ=0 then 0 else if κ=1 then 1 else-1
def F1(κ:Nat)(q r:Nat→Nat)(p c:Nat):Int×Int×Int:=(I0 κ*((p-q c:Nat):Int),(r c:Int),(c:Int))
theorem sE{κ:Nat}(hκ:κ<3)(k:Nat):I0 κ*(k:Int)=fK κ k:=by
 match κ,hκ with
 |0,_=>exact Int.zero_mul _
 |1,_=>exact Int.one_mul _
 |2,_=>exact Int.neg_one_mul _
theorem Ep{κ:Nat}(hκ:κ<3){q r:Nat→Nat}{p x b:Nat}(h:r x=r b→x=b):H3 (F1 κ q r p x) (F1 κ q r p b)=bt κ q r p b x:=by
 rw[Bool.eq_iff_iff];refine Iff.trans ?_ (K1 (κ:=κ) (k1:=p-q b) (k2:=p-q x) (r1:=r b) (r2:=r x)).symm;unfold H3 F1 LL;rw[sE hκ,sE hκ];generalize fK κ (p-q x)=A
 generalize fK κ (p-q b)=B
 dsimp only;by_cases e:A=B
 ·rw[if_pos e];by_cases e2:r x=r b
  ·rw[if_pos (show((r x:Nat):Int)=(r b:Nat)by rw[e2]),h e2];exact⟨λz=>absurd (of_decide_eq_true z) (Int.lt_irrefl _),λz=>z.elim (λz=>absurd e (Int.ne_of_gt z)) λz=>absurd z.2 (Nat.lt_irrefl _)⟩
  ·rw[if_neg (show¬((r x:Nat):Int)=(r b:Nat)from λz=>e2 (Int.ofNat.inj z)),decide_eq_true_iff];exact⟨λz=>.inr ⟨e.symm,Int.ofNat_lt.mp z⟩,λz=>z.elim (λz=>absurd e (Int.ne_of_gt z)) λz=>Int.ofNat_lt.mpr z.2⟩
 ·rw[if_neg e,decide_eq_true_iff];exact⟨.inl,λz=>z.elim id λz=>absurd z.1.symm e⟩
theorem ZV{κ:Nat}(hκ:κ<3){q r:Nat→Nat}{p:Nat}:∀(l:List Nat)(a:Nat),CO r (a::l)→E7 H3 (F1 κ q r p a) (l.map (F1 κ q r p))=F1 κ q r p (KJ (bt κ q r p) a l)
 |[],a,_=>rfl
 |x::l,a,hp=>by
  show E7 H3 (if H3 (F1 κ q r p x) (F1 κ q r p a)then F1 κ q r p x else F1 κ q r p a) (l.map (F1 κ q r p))=F1 κ q r p (KJ (bt κ q r p) (if bt κ q r p a x then x else a) l);rw[Ep hκ (λe=>hp x (.tail _ (.head _)) a (.head _) e)];by_cases h:bt κ q r p a x=true
  ·rw[if_pos h,if_pos h];exact ZV hκ l x (hp.sub λy hy=>.tail _ hy)
  ·rw[if_neg h,if_neg h];exact ZV hκ l a (hp.sub λy hy=>by rcases List.mem_cons.mp hy with rfl|hy;exact .head _;exact .tail _ (.tail _ hy))
noncomputable def MT(t:Int×Int×Int):D:=.tup [.int t.1,.int t.2.1,.int t.2.2]
theorem xB{α β:Type}{f:D→Option β}{g:α→D}{k:α→β}(h:∀x,f (g x)=some (k x))(l:List α):OT f (l.map g)=some (l.map k):=by
 induction l with
 |nil=>rfl
 |cons a l ih=>
  show(f (g a)).bind (λy=>(OT f (l.map g)).map (y::·))=_;rw[h,ih];rfl
theorem Pg(f:Nat→Int×Int×Int)(l:List Nat):VO (l.map λc=>MT (f c))=some (l.map f):=xB (f:=VN) (g:= λc=>MT (f c)) (k:=f) (λV=>rfl) l
theorem Bh{κ:Nat}(hκ:κ<3){q r:Nat→Nat}{p:Nat}{L:List Nat}(hL:L≠[])(hp:CO r L):aR [.lst (L.map λc=>MT (F1 κ q r p c))]=some (MT (F1 κ q r p (FI κ q r p L))):=by
 cases L with
 |nil=>exact absurd rfl hL
 |cons a l=>
  show(VO ((a::l).map λc=>MT (F1 κ q r p c))).bind _=_;rw[Pg,Option.bind_some];show some (MT (E7 H3 (F1 κ q r p a) (l.map (F1 κ q r p))))=_;rw[ZV hκ l a hp];rfl
def FB(s st g κ:Nat)(ws rk line:List Nat)(pairs:List D)(x6 x10 x11 x12:LV):List LV:=[.d (.lst (vN ws)),.d (.lst (vN rk)),.d (.int (κ:Int)),.d (.str (D' g)),.d (.int (s:Int)),.d (.int (st:Int)),x6,.own (.list none) (vN line),.own (.list none) pairs,.d (.int (I0 κ)),x10,x11,x12]
theorem B5.lenw(O:B5 s st n g ws rk):ws.length≤1000∧rk.length≤1000:=by
 have:=O.lw;have:=O.lr;have:=O.n4;lia
theorem U6:∀{L M:List Nat},L.Nodup→(∀c∈L,c∈M)→L.length≤M.length
 |[],M,_,_=>Nat.zero_le _
 |a::L,M,h,hs=>by
  rw[List.nodup_cons]at h;have ha:=hs a (.head _);have:=U6 (M:=M.erase a) h.2 λc hc=>(List.mem_erase_of_ne (by rintro rfl;exact h.1 hc)).mpr (hs c (.tail _ hc));rw[List.length_erase_of_mem ha]at this;have:0<M.length:=List.length_pos_of_mem ha;rw[List.length_cons];lia
theorem B5.at_len(O:B5 s st n g ws rk){κ:Nat}(p:Nat):(BU κ (qW s st ws) (rW rk) (List.range n) p).length≤n:=by
 have h1:=RQ (κ:=κ) (q:=qW s st ws) (r:=rW rk) (W:=List.range n) List.nodup_range p;have h2:=U6 h1 λc hc=>(H7 p c hc).1;rwa [List.length_range]at h2
theorem Fw(O:B5 s st n g ws rk){p:Nat}(hp:p<s):(List.range n).filter (λc=>(((ws.getD c 0:Nat):Int)==(((st+p)%s:Nat):Int)))=DV (qW s st ws) (List.range n) p:=by
 unfold DV;refine List.filter_congr λc hc=>?_;have h1:=O.wish (List.mem_range.mp hc);have e:(ws.getD c 0=(st+p)%s)↔(qW s st ws c=p):=by
  unfold qW;constructor
  ·intro e;rw[e];exact PZ O.hst hp
  ·intro e;rw[←e,P5 O.hst h1.1]
 rw[Bool.eq_iff_iff,beq_iff_eq,beq_iff_eq,←e];lia
theorem Ie(O:B5 s st n g ws rk){p:Nat}(hp:p<s):
  B2 (BN (λρ d=>some (ρ.set 0 (LV.d d))) X1 XZ [.unset,.d (.int (((st+p)%s:Nat):Int)),.d (.lst (vN ws))]) (vN (List.range n))=some (vN (DV (qW s st ws) (List.range n) p)):=by
 rw[←Fw O hp];refine T5 _ _ _ λc hc=>?_;have hc:=List.mem_range.mp hc;unfold BN X1 XZ;simp! only[HJ (by rw[O.lw];exact hc) O.lenw.1];split<;>rfl
theorem Ih(O:B5 s st n g ws rk){κ p:Nat}(hκ:κ<3)(hp:p<s){L:List Nat}(hL:∀c∈L,c<n∧qW s st ws c≤p):
  B2 (BN (λρ d=>some (ρ.set 0 (LV.d d))) X0 XY [.unset,.d (.int (I0 κ)),.d (.lst (vN rk)),.d (.int (s:Int)),.d (.int (((st+p)%s:Nat):Int)),.d (.lst (vN ws))]) (vN L)=some (L.map λc=>MT (F1 κ (qW s st ws) (rW rk) p c)):=by
 refine JG _ _ λc hc=>?_;obtain⟨hcn,hq⟩:=hL c hc;have h1:=O.wish hcn;have hs:=O.hst;have hw:=tD O.hst h1.1 hp hq;have hk:p-qW s st ws c<7:=by have:=O.s6;lia
 unfold BN X0 XY;have hm:EH (.int (I0 κ)) (.int ((p-qW s st ws c:Nat):Int))=some (.int (I0 κ*((p-qW s st ws c:Nat):Int))):=by
  refine KP ?_ ?_
  ·have:κ=0∨κ=1∨κ=2:=by lia
   rcases this with rfl|rfl|rfl<;>decide
  ·generalize p-qW s st ws c=k at hk
   have:k=0∨k=1∨k=2∨k=3∨k=4∨k=5∨k=6:=by lia
   rcases this with rfl|rfl|rfl|rfl|rfl|rfl|rfl<;>decide
 have hw':((st+p)%s+s-ws.getD c 0)%s=p-qW s st ws c:=hw;simp! only[HJ (by rw[O.lw];exact hcn) O.lenw.1,HJ (by rw[O.lr];exact hcn) O.lenw.2,aU _ _ _ (Nat.le_of_lt h1.1) (by lia),hw',hm];rfl
section
variable(O:B5 s st n g ws rk){κ:Nat}(hκ:κ<3)
noncomputable abbrev lQ(s st κ n:Nat)(ws rk:List Nat)(p:Nat):List Nat:=BM κ (qW s st ws) (rW rk) (List.range n) p
noncomputable abbrev lA(s st κ n:Nat)(ws rk:List Nat)(p:Nat):List Nat:=BU κ (qW s st ws) (rW rk) (List.range n) p
noncomputable abbrev lP(s st g κ n:Nat)(ws rk:List Nat)(p:Nat):List D:=(FX κ (qW s st ws) (rW rk) (List.range n) p).map (G9 g s st (qW s st ws))
include O in
theorem Id{p:Nat}(hp:p+1<s)(pairs:List D)(x6 x10 x12:LV)(G:PF):
  AG S5 (AG S6 G) (FB s st g κ ws rk (lQ s st κ n ws rk p) pairs x6 x10 (.d (.int ((p+1:Nat):Int))) x12)=G (FB s st g κ ws rk (lA s st κ n ws rk (p+1)) pairs x6 (.d (.int (((st+(p+1))%s:Nat):Int))) (.d (.int ((p+1:Nat):Int))) x12):=by
 have hs:=O.s6;have hn:=O.n4;have h1:S5 (FB s st g κ ws rk (lQ s st κ n ws rk p) pairs x6 x10 (.d (.int ((p+1:Nat):Int))) x12)=some (.next,FB s st g κ ws rk (lQ s st κ n ws rk p) pairs x6 (.d (.int (((st+(p+1))%s:Nat):Int))) (.d (.int ((p+1:Nat):Int))) x12):=by
  unfold S5 FB;have e:(st:Int)+((p+1:Nat):Int)=((st+(p+1):Nat):Int):=rfl;simp! only[e,O4 _ s (by lia)]
 rw[A0 h1];have hj:=Ie O hp;have hl1:(lQ s st κ n ws rk p).length≤1000:=by
  have h2:(lQ s st κ n ws rk p).length≤(List.range n).length:=U6 (Ib (κ:=κ) (q:=qW s st ws) (r:=rW rk) (W:=List.range n) List.nodup_range p) λc hc=>(UW p c hc).1;rw[List.length_range]at h2;lia
 have hl2:(vN (DV (qW s st ws) (List.range n) (p+1))).length≤1000:=by
  rw[IU];have:(DV (qW s st ws) (List.range n) (p+1)).length≤(List.range n).length:=List.length_filter_le _ _;rw[List.length_range]at this;lia
 have hw:(ws.length:Int)=(n:Int):=by rw[O.lw]
 have h2:S6 (FB s st g κ ws rk (lQ s st κ n ws rk p) pairs x6 (.d (.int (((st+(p+1))%s:Nat):Int))) (.d (.int ((p+1:Nat):Int))) x12)=some (.next,FB s st g κ ws rk (lA s st κ n ws rk (p+1)) pairs x6 (.d (.int (((st+(p+1))%s:Nat):Int))) (.d (.int ((p+1:Nat):Int))) x12):=by
  unfold S6 FB;have hk:C0 ([.d (.lst (vN ws)),.d (.lst (vN rk)),.d (.int (κ:Int)),.d (.str (D' g)),.d (.int (s:Int)),.d (.int (st:Int)),x6,.own (.list none) (vN (lQ s st κ n ws rk p)),.own (.list none) pairs,.d (.int (I0 κ)),.d (.int (((st+(p+1))%s:Nat):Int)),.d (.int ((p+1:Nat):Int)),x12]) [(1,10),(2,0)] (AX 3)=some [.unset,.d (.int (((st+(p+1))%s:Nat):Int)),.d (.lst (vN ws))]:=rfl;have ha:vN (lQ s st κ n ws rk p)++vN (DV (qW s st ws) (List.range n) (p+1))=vN (lA s st κ n ws rk (p+1)):=List.map_append.symm;simp! only[L5 O.lenw.1,hw,JI (n:=n) (by lia),hk,hj,Ba (by rw[IU];exact hl1) hl2,ha]
 rw[A0 h2]
include O hκ in
theorem Ic{p:Nat}(hp:p+1<s)(x6 x10 x12:LV):∃y6 y10 y12,S3 (FB s st g κ ws rk (lQ s st κ n ws rk p) (lP s st g κ n ws rk p) x6 x10 (.d (.int ((p+1:Nat):Int))) x12)=some (.next,FB s st g κ ws rk (lQ s st κ n ws rk (p+1)) (lP s st g κ n ws rk (p+1)) y6 y10 (.d (.int ((p+1:Nat):Int))) y12):=by
 have hs:=O.s6;have hn:=O.n4;have hst:=O.hst;unfold S3 iY;rw[Id O hp];have hPt:CO (rW rk) (List.range n):=O.parted EL.all;have hAl:(lA s st κ n ws rk (p+1)).length≤n:=O.at_len (κ:=κ) (p+1);have hA:BM κ (qW s st ws) (rW rk) (List.range n) (p+1)=HO κ (qW s st ws) (rW rk) (p+1) (lA s st κ n ws rk (p+1)):=rfl;have hO:FX κ (qW s st ws) (rW rk) (List.range n) (p+1)=FX κ (qW s st ws) (rW rk) (List.range n) p++(match BB κ (qW s st ws) (rW rk) (List.range n) (p+1)with|none=>[]|some c=>[(p+1,c)]):=rfl;by_cases e:lA s st κ n ws rk (p+1)=[]
 ·have h3:BB κ (qW s st ws) (rW rk) (List.range n) (p+1)=none:=by unfold BB;rw[if_pos e]
  have h4:lP s st g κ n ws rk (p+1)=lP s st g κ n ws rk p:=by unfold lP;rw[hO,h3,List.append_nil]
  have h5:lQ s st κ n ws rk (p+1)=[]:=by unfold lQ;rw[hA,e];rfl
  refine⟨x6,.d (.int (((st+(p+1))%s:Nat):Int)),x12,?_⟩;rw[h4,h5,e];unfold XV XW FB;have h6:FS (.lst (vN [])) (.lst [])=some false:=O5 (R5 7 []) rfl;unfold AG;simp! only[h6];rfl
 ·have hne:=Bj e;have hbst:=KK (κ:=κ) (q:=qW s st ws) (p:=p+1) e (IV hPt _);obtain⟨c,hc⟩:∃c,c=FI κ (qW s st ws) (rW rk) (p+1) (lA s st κ n ws rk (p+1)):=⟨_,rfl⟩;have hcm:c∈lA s st κ n ws rk (p+1):=hc▸hbst.1;have hsub:=H7 (p+1) c hcm;have hcn:c<n:=List.mem_range.mp hsub.1;have h3:BB κ (qW s st ws) (rW rk) (List.range n) (p+1)=some c:=by unfold BB;rw[if_neg e,hc]
  have h4:lP s st g κ n ws rk (p+1)=lP s st g κ n ws rk p++[G9 g s st (qW s st ws) (p+1,c)]:=by unfold lP;rw[hO,h3,List.map_append];rfl
  have h5:lQ s st κ n ws rk (p+1)=(lA s st κ n ws rk (p+1)).erase c:=by unfold lQ;rw[hA,hc];rfl
  have htr:=Ih O hκ hp (L:=lA s st κ n ws rk (p+1)) λx hx=>⟨List.mem_range.mp (H7 (p+1) x hx).1,(H7 (p+1) x hx).2.1⟩;have hmx:=Bh hκ (q:=qW s st ws) (p:=p+1) e (IV hPt _);rw[←hc]at hmx;have h1:=O.wish hcn;have hw:=tD O.hst h1.1 hp hsub.2.1;have hw':((st+(p+1))%s+s-ws.getD c 0)%s=p+1-qW s st ws c:=hw;have hq:=O.q0 hcn;have hk:p+1-qW s st ws c<8:=by lia
  have hsp:(st+(p+1))%s<7:=by have:=Nat.mod_lt (st+(p+1)) (show 0<s by lia);lia
  obtain⟨sp,hspe⟩:∃sp,sp=(st+(p+1))%s:=⟨_,rfl⟩;obtain⟨k,hke⟩:∃k,k=p+1-qW s st ws c:=⟨_,rfl⟩;rw[←hspe]at htr hw' hsp;rw[←hke]at hw' hk;have hpd:G9 g s st (qW s st ws) (p+1,c)=.tup [.str (C4 k sp),.str (BC g k c)]:=by unfold G9;rw[hspe,hke]
  have hl0:(lP s st g κ n ws rk p).length≤1000:=by
   unfold lP;rw[List.length_map];have h7:=dZ (κ:=κ) (q:=qW s st ws) hPt p;have h8:((List.range n).filter λc=>decide (0<qW s st ws c∧qW s st ws c≤p)).length≤(List.range n).length:=List.length_filter_le _ _;rw[List.length_range]at h8;lia
  refine⟨.d (.int (c:Int)),.d (.int (sp:Int)),.d (.int (k:Int)),?_⟩;rw[h4,h5,hpd,←hspe];have hkn:C0 ([.d (.lst (vN ws)),.d (.lst (vN rk)),.d (.int (κ:Int)),.d (.str (D' g)),.d (.int (s:Int)),.d (.int (st:Int)),x6,.own (.list none) (vN (lA s st κ n ws rk (p+1))),.own (.list none) (lP s st g κ n ws rk p),.d (.int (I0 κ)),.d (.int (sp:Int)),.d (.int ((p+1:Nat):Int)),x12]) [(1,9),(2,1),(3,4),(4,10),(5,0)] (AX 6)=some [.unset,.d (.int (I0 κ)),.d (.lst (vN rk)),.d (.int (s:Int)),.d (.int (sp:Int)),.d (.lst (vN ws))]:=rfl;have hlo:DQ (.lst (vN (lA s st κ n ws rk (p+1))))=some (vN (lA s st κ n ws rk (p+1))):=by
   exact if_pos (GZ (by lia))
  have hti:BL (MT (F1 κ (qW s st ws) (rW rk) (p+1) c)) (.int 2)=some (.int (c:Int)):=rfl;have hrm:=Bn hcm (by lia);have h97:(97:Int)+(c:Int)=((97+c:Nat):Int):=rfl;have hm2:CZ (.int (k:Int)) (.int 2)=some (.int ((k%2:Nat):Int)):=O4 k 2 (by lia);have hch1:G5 [.int ((97+c:Nat):Int)]=some (.str (A' (97+c))):=O2 (by lia);have hch2:((if(((k%2:Nat):Int)!=0)=true then some (D.int 65)else some (D.int 97)).bind λa=>BW a (D.int (sp:Int)))=some (.int (((if k%2=0 then 97 else 65)+sp:Nat):Int)):=by
   have:k%2=0∨k%2=1:=by lia
   rcases this with h|h<;>rw[h]<;>rfl
  have hch3:G5 [.int (((if k%2=0 then 97 else 65)+sp:Nat):Int)]=some (.str (C4 k sp)):=O2 (by split<;>lia);have hS:∀(z6 z12:LV)(ln:List Nat)(ps:List D),FB s st g κ ws rk ln ps z6 (.d (.int (sp:Int))) (.d (.int ((p+1:Nat):Int))) z12=[.d (.lst (vN ws)),.d (.lst (vN rk)),.d (.int (κ:Int)),.d (.str (D' g)),.d (.int (s:Int)),.d (.int (st:Int)),z6,.own (.list none) (vN ln),.own (.list none) ps,.d (.int (I0 κ)),.d (.int (sp:Int)),.d (.int ((p+1:Nat):Int)),z12]:= λV V V V=>rfl;unfold XV XW;refine(A0 (ρ':=FB s st g κ ws rk ((lA s st κ n ws rk (p+1)).erase c) (lP s st g κ n ws rk p++[.tup [.str (C4 k sp),.str (BC g k c)]]) (.d (.int (c:Int))) (.d (.int (sp:Int))) (.d (.int ((p+1:Nat):Int))) (.d (.int (k:Int)))) ?_).trans rfl;rw[hS x6];simp! only[hne];rw[hS (.d (.int (c:Int)))];refine(A0 (ρ':=FB s st g κ ws rk (lA s st κ n ws rk (p+1)) (lP s st g κ n ws rk p) (.d (.int (c:Int))) (.d (.int (sp:Int))) (.d (.int ((p+1:Nat):Int))) x12) ?_).trans ?_
  ·simp! only[hkn,hlo,htr,hmx,hti];rfl
  refine(A0 (ρ':=FB s st g κ ws rk ((lA s st κ n ws rk (p+1)).erase c) (lP s st g κ n ws rk p) (.d (.int (c:Int))) (.d (.int (sp:Int))) (.d (.int ((p+1:Nat):Int))) x12) ?_).trans ?_
  ·rw[hS];simp! only[hrm];rfl
  refine(A0 (ρ':=FB s st g κ ws rk ((lA s st κ n ws rk (p+1)).erase c) (lP s st g κ n ws rk p) (.d (.int (c:Int))) (.d (.int (sp:Int))) (.d (.int ((p+1:Nat):Int))) (.d (.int (k:Int)))) ?_).trans ?_
  ·rw[hS];simp! only[HJ (by rw[O.lw];exact hcn) O.lenw.1,aU _ _ _ (Nat.le_of_lt h1.1) (show 0<s by lia),hw'];rfl
  refine(A0 (ρ':=FB s st g κ ws rk ((lA s st κ n ws rk (p+1)).erase c) (lP s st g κ n ws rk p++[.tup [.str (C4 k sp),.str (BC g k c)]]) (.d (.int (c:Int))) (.d (.int (sp:Int))) (.d (.int ((p+1:Nat):Int))) (.d (.int (k:Int)))) ?_).trans rfl;rw[hS];simp! only[hm2,hch2,hch3,h97,hch1,mO O.hg,Bi O.hg hk,Aw O.hg hk (show c<5 by lia),M6 hl0];rfl
end
end
section
variable{s st n g:Nat}{ws rk:List Nat}(O:B5 s st n g ws rk){κ:Nat}(hκ:κ<3)
include O hκ in
theorem pZ:∀(k p:Nat)(x6 x10 x11 x12:LV),p+k<s→∃y6 y10 y11 y12,B7 (λρ d=>some (ρ.set 11 (LV.d d))) S3 (vN (List.range' (p+1) k)) (FB s st g κ ws rk (lQ s st κ n ws rk p) (lP s st g κ n ws rk p) x6 x10 x11 x12)=some (.next,FB s st g κ ws rk (lQ s st κ n ws rk (p+k)) (lP s st g κ n ws rk (p+k)) y6 y10 y11 y12)
 |0,p,x6,x10,x11,x12,_=>⟨x6,x10,x11,x12,rfl⟩
 |k+1,p,x6,x10,x11,x12,h=>by
  obtain⟨y6,y10,y12,h1⟩:=Ic O hκ (p:=p) (by lia) x6 x10 x12;obtain⟨z6,z10,z11,z12,h2⟩:=pZ k (p+1) y6 y10 (.d (.int ((p+1:Nat):Int))) y12 (by lia);refine⟨z6,z10,z11,z12,?_⟩;rw[show p+(k+1)=p+1+k by lia,←h2];exact GV rfl h1
def LZ(ds:List D):Option D:=if ds.length=6 then DB XU (A4 (AX 13) [0,1,2,3,4,5] ds)else none
def EB(s st g κ n:Nat)(ws rk:List Nat):List D:=lP s st g κ n ws rk (s-1)
include O hκ in
theorem Ig:LZ [.lst (vN ws),.lst (vN rk),.int (κ:Int),.str (D' g),.int (s:Int),.int (st:Int)]=some (.lst (EB s st g κ n ws rk)):=by
 have hs:=O.s6;obtain⟨y6,y10,y11,y12,h⟩:=pZ O hκ (s-1) 0 .unset .unset .unset .unset (by lia);rw[show 0+(s-1)=s-1 by lia]at h;unfold LZ;refine(if_pos (by rfl)).trans ?_;have e:A4 (AX 13) [0,1,2,3,4,5] [.lst (vN ws),.lst (vN rk),.int (κ:Int),.str (D' g),.int (s:Int),.int (st:Int)]=[.d (.lst (vN ws)),.d (.lst (vN rk)),.d (.int (κ:Int)),.d (.str (D' g)),.d (.int (s:Int)),.d (.int (st:Int)),.unset,.unset,.unset,.unset,.unset,.unset,.unset]:=rfl;rw[e];refine P3 (ρ':=FB s st g κ ws rk (lQ s st κ n ws rk (s-1)) (lP s st g κ n ws rk (s-1)) y6 y10 y11 y12) ?_;have hsg:BL (.lst [.int 0,.int 1,.int (-1)]) (.int (κ:Int))=some (.int (I0 κ)):=by
  have:κ=0∨κ=1∨κ=2:=by lia
  rcases this with rfl|rfl|rfl<;>rfl
 unfold XU;refine(A0 (ρ':=[.d (.lst (vN ws)),.d (.lst (vN rk)),.d (.int (κ:Int)),.d (.str (D' g)),.d (.int (s:Int)),.d (.int (st:Int)),.unset,.unset,.unset,.d (.int (I0 κ)),.unset,.unset,.unset]) ?_).trans ?_
 ·unfold i4;have hk:BL (.lst [.int 0,.int 1,.int (-1)]) (.int (κ:Int))=some (.int (I0 κ)):=hsg;rw[F9]at hk;simp! only[hk]
 unfold iZ;refine(A0 (ρ':=FB s st g κ ws rk [] [] .unset .unset .unset .unset) ?_).trans ?_
 ·rfl
 unfold i3;refine(A0 (ρ':=FB s st g κ ws rk (lQ s st κ n ws rk (s-1)) (lP s st g κ n ws rk (s-1)) y6 y10 y11 y12) ?_).trans ?_
 ·unfold i5;have hr:IQ [.int 1,.int (s:Int)]=some (vN (List.range' 1 (s-1))):=aY (by lia);have hg:AD 4 (FB s st g κ ws rk [] [] .unset .unset .unset .unset)=some (.int (s:Int)):=rfl;simp only[hg,Option.bind_some,CC,CF,CG,CH,CB,CJ,hr];exact h
 rfl
end
def LY(ds:List D):Option D:=if ds.length=1 then DB VZ (A4 (AX 4) [0] ds)else none
theorem Pk{ts:List Int}(h:ts.length=6){k:Int}(h0:0≤k)(h1:k<6):∃o,(vI ts)[k.toNat]? =some (.int o):=by
 refine⟨ts[k.toNat]'(by lia),?_⟩;rw[List.getElem?_map,List.getElem?_eq_getElem (by lia)];rfl
theorem nA(x0:LV):∀(xs:List Int)(i:Nat)(x1 x2:LV)(ts:List Int),ts.length=6→∃y1 y2 us,us.length=6∧B7 (λρ d=>Option.map (λds=>A4 ρ [2,1] ds) (D5 [2,1].length d)) V0 (L7 i (vI xs)) [x0,x1,x2,.own (.list none) (vI ts)]=some (.next,[x0,y1,y2,.own (.list none) (vI us)])
 |[],i,x1,x2,ts,h=>⟨x1,x2,ts,h,rfl⟩
 |x::xs,i,x1,x2,ts,h=>by
  have hk0:(0:Int)≤(i:Int).fmod 6:=Int.fmod_nonneg_of_pos _ (by lia);have hk1:(i:Int).fmod 6<6:=Int.fmod_lt_of_pos _ (by lia);obtain⟨o,ho⟩:=Pk h hk0 hk1;obtain⟨k,hk⟩:∃k,k=(i:Int).fmod 6:=⟨_,rfl⟩;rw[←hk]at ho hk0 hk1;have hB:H5 k (vI ts)=true:=by
   unfold H5;simp[h];lia
  have hset:(vI ts).set k.toNat (.int (o+x.fmod 1000003))=vI (ts.set k.toNat (o+x.fmod 1000003)):=by
   unfold vI;rw[List.map_set]
  obtain⟨y1,y2,us,e1,e2⟩:=nA x0 xs (i+1) (.d (.int x)) (.d (.int (i:Int))) (ts.set k.toNat (o+x.fmod 1000003)) (by rw[List.length_set];exact h);refine⟨y1,y2,us,e1,?_⟩;rw[←e2];show B7 _ _ (.tup [.int i,.int x]::L7 (i+1) (vI xs)) _=_;refine GV (CE:=[x0,.d (.int x),.d (.int (i:Int)),.own (.list none) (vI ts)]) rfl ?_;have hm:CZ (.int (i:Int)) (.int 6)=some (.int k):=by rw[hk];exact HZ (by decide)
  have hm2:CZ (.int x) (.int 1000003)=some (.int (x.fmod 1000003)):=HZ (by decide);unfold V0;refine(A0 (ρ':=[x0,.d (.int x),.d (.int (i:Int)),.own (.list none) (vI (ts.set k.toNat (o+x.fmod 1000003)))]) ?_).trans rfl;unfold fY;simp! only[hm,hm2];rw[if_pos hB,ho];show some (AC.next,[x0,.d (.int x),.d (.int (i:Int)),.own (.list none) ((vI ts).set k.toNat (.int (o+x.fmod 1000003)))])=_;rw[hset]
theorem Bu(xs:List Int)(hx:xs.length≤100000):∃us:List Int,us.length=6∧LY [.ilst (vI xs)]=some (.lst (vI us)):=by
 obtain⟨y1,y2,us,h1,h2⟩:=nA (.d (.ilst (vI xs))) (xs.take 24) 0 .unset .unset [170,416,373,37,514,4] rfl;refine⟨us,h1,?_⟩;unfold LY;refine(if_pos (by rfl)).trans ?_;refine P3 (ρ':=[.d (.ilst (vI xs)),y1,y2,.own (.list none) (vI us)]) ?_;unfold VZ;refine(A0 (ρ':=[.d (.ilst (vI xs)),.unset,.unset,.own (.list none) (vI [170,416,373,37,514,4])]) (by rfl)).trans ?_;unfold fZ;refine(A0 (ρ':=[.d (.ilst (vI xs)),y1,y2,.own (.list none) (vI us)]) ?_).trans (by rfl);unfold f6;have hu:KQ (.ilst (vI xs)) (.int 24)=some (.lst (vI (xs.take 24))):=by
  have:(vI xs).take 24=vI (xs.take 24):=by unfold vI;rw[List.map_take]
  rw[←this];refine(if_pos (HP (by simp;exact hx))).trans ?_;rfl
 have hl:DQ (.lst (vI (xs.take 24)))=some (vI (xs.take 24)):=by
  exact if_pos (HP (by simp;lia))
 simp! only[hu,hl];exact h2
theorem UD{a:Nat}(h:a≤1000):FT (a:Int)=true:=by
 unfold FT;simp;lia
theorem nY{a:Nat}(h:a≤1000):O8 (a:Int)=true:=by
 unfold O8;simp;lia
def CM(l:List Nat)(ts:Nat):Nat:=B3 (l.dropLast.map λw=>(w / ts+1)*ts)+l.getLastD 0
def HB(l r:List Nat)(m:Nat):List D:=(List.range' 1 m).filterMap λts=>if CM l ts=CM r ts then none else some (.tup [.int (ts:Int),.int (CM l ts:Int),.int (CM r ts:Int)])
theorem U3:∀{l:List Nat}{a:Nat},a∈l→a≤BV l
 |x::l,a,h=>by
  show a≤Nat.max x (BV l);rcases List.mem_cons.mp h with rfl|h
  ·exact Nat.le_max_left _ _
  ·exact Nat.le_trans (U3 h) (Nat.le_max_right _ _)
theorem NT:∀{l:List Nat},l≠[]→BV l∈l
 |[a],_=>by
  have:BV [a]=a:=Nat.max_zero a;rw[this];exact .head _
 |a::b::l,_=>by
  have ih:=NT (l:=b::l) (by simp);show Nat.max a (BV (b::l))∈_;rcases Nat.le_total a (BV (b::l))with h|h
  ·rw[show Nat.max a (BV (b::l))=BV (b::l)from Nat.max_eq_right h];exact .tail _ ih
  ·rw[show Nat.max a (BV (b::l))=a from Nat.max_eq_left h];exact .head _
theorem Iv{l:List Nat}{m:Nat}(h1:m∈l)(h2:∀a∈l,a≤m):BV l=m:=by
 have h3:=U3 h1;have h4:=h2 _ (NT (List.ne_nil_of_mem h1));lia
theorem mV{l:List Nat}(h:l≠[]):M8 [.lst (vN l)]=some (.int (BV l:Int)):=by
 show(J5 (vN l)).bind _=_;rw[UO,Option.bind_some];cases l with
 |nil=>exact absurd rfl h
 |cons a r=>
  show some (D.int (E7 (λx y=>decide (x>y)) (a:Int) (r.map λ(x:Nat)=>(x:Int))))=_;obtain⟨h1,h2⟩:=ZW (r.map λ(x:Nat)=>(x:Int)) (a:Int);have h3:((a:Int)::r.map λ(x:Nat)=>(x:Int))=(a::r).map λ(x:Nat)=>(x:Int):=rfl;rw[h3]at h1 h2;obtain⟨m,hm,e⟩:=List.mem_map.mp h1;rw[←e]at h2⊢;rw[Iv hm λb hb=>by
   have:=h2 (b:Int) (List.mem_map.mpr ⟨b,hb,rfl⟩);lia]
theorem sS:∀l:List Nat,(l.map λ(x:Nat)=>(x:Int)).sum=((B3 l:Nat):Int)
 |[]=>rfl
 |a::l=>by
  rw[List.map_cons,List.sum_cons,sS l];show _=((a+B3 l:Nat):Int);lia
theorem a9(l:List Nat):RA [.lst (vN l)]=some (.int (B3 l:Int)):=by
 show(J5 (vN l)).map _=_;rw[UO,Option.map_some,sS]
theorem m5{l:List Nat}(h:l.length≤1000):KQ (.lst (vN l)) (.int (-1))=some (.lst (vN l.dropLast)):=by
 refine(if_pos (GZ (by lia))).trans ?_;have:OD (vN l) (-1)=vN l.dropLast:=by
  unfold OD vN;rw[if_neg (by lia),List.map_dropLast,List.dropLast_eq_take];rfl
 rw[this]
theorem cQ{l:List Nat}(h:l≠[])(hl:l.length≤1000):BL (.lst (vN l)) (.int (-1))=some (.int ((l.getLastD 0:Nat):Int)):=by
 rw[F9];have h0:0<l.length:=List.length_pos_iff.mpr h;have hv:(vN l).length=l.length:=IU l;unfold LO;rw[if_neg (by simp),if_pos (by simp[hv];lia)];rw[hv,show((-1:Int)+(l.length:Int)).toNat=l.length-1 by lia,List.getElem?_map,List.getElem?_eq_getElem (by lia),Option.map_some]
 congr 3
 rw[List.getLastD_eq_getLast?,List.getLast?_eq_getElem?,List.getElem?_eq_getElem (by lia),Option.getD_some]
theorem rD{l:List Nat}{ts:Nat}(h0:0<ts)(h1:ts≤100)(hl:∀w∈l,w≤100){fe:EF}(he:fe=X6∨fe=X7){ft:TF}(ht:ft=X8∨ft=X9):
  B2 (BN (λρ d=>some (ρ.set 0 (LV.d d))) ft fe [.unset,.d (.int (ts:Int))]) (vN l)=some (vN (l.map λw=>(w / ts+1)*ts)):=by
 have:vN (l.map λw=>(w / ts+1)*ts)=l.map λw=>D.int (((w / ts+1)*ts:Nat):Int):=by unfold vN;rw[List.map_map];rfl
 rw[this];refine JG _ _ λw hw=>?_;have hw:=hl w hw;have hd:FO (.int (w:Int)) (.int (ts:Int))=some (.int ((w / ts:Nat):Int)):=aJ w ts (by lia) (nY (by lia));have hq:w / ts≤100:=Nat.le_trans (Nat.div_le_self _ _) hw;have ha:((w / ts:Nat):Int)+1=((w / ts+1:Nat):Int):=rfl;have hm:EH (.int ((w / ts+1:Nat):Int)) (.int (ts:Int))=some (.int (((w / ts+1)*ts:Nat):Int)):=by
  rw[KP (UD (by lia)) (UD (by lia))];rfl
 rcases he with rfl|rfl<;>rcases ht with rfl|rfl
 all_goals
  unfold BN;simp only[X6,X7,X8,X9];simp! only[hd,ha,hm]
def G'(l r:List Nat)(told:List D)(x2 x3 x4:LV):List LV:=[.d (.lst (vN l)),.d (.lst (vN r)),x2,x3,x4,.own (.list none) told]
theorem Ke{l r:List Nat}{ts:Nat}(h0:0<ts)(h1:ts≤100)(hl:∀w∈l,w≤100)(hr:∀w∈r,w≤100)(hl0:l≠[])(hr0:r≠[])(hll:l.length≤100)(hrl:r.length≤100)(told:List D)(hto:told.length≤1000)(x2 x4:LV):
  TB (G' l r told x2 (.d (.int (ts:Int))) x4)=some (.next,G' l r (told++if CM l ts=CM r ts then[]else[.tup [.int (ts:Int),.int (CM l ts:Int),.int (CM r ts:Int)]]) (.d (.int (CM l ts:Int))) (.d (.int (ts:Int))) (.d (.int (CM r ts:Int)))):=by
 have hm1: -(1:Int)= -1:=rfl;have hdl:∀w∈l.dropLast,w≤100:= λw hw=>hl w (List.dropLast_subset l hw);have hdr:∀w∈r.dropLast,w≤100:= λw hw=>hr w (List.dropLast_subset r hw);have hlo:∀{m:List Nat},m.length≤100→DQ (.lst (vN m.dropLast))=some (vN m.dropLast):=by
  intro m hm;exact if_pos (GZ (by rw[List.length_dropLast];lia))
 have e1:((B3 (l.dropLast.map λw=>(w / ts+1)*ts):Nat):Int)+((l.getLastD 0:Nat):Int)=(CM l ts:Int):=rfl;have e2:((B3 (r.dropLast.map λw=>(w / ts+1)*ts):Nat):Int)+((r.getLastD 0:Nat):Int)=(CM r ts:Int):=rfl;unfold TB;refine(A0 (ρ':=G' l r told (.d (.int (CM l ts:Int))) (.d (.int (ts:Int))) x4) ?_).trans ?_
 ·unfold jH G';have hkn:C0 [.d (.lst (vN l)),.d (.lst (vN r)),x2,.d (.int (ts:Int)),x4,.own (.list none) told] [(1,3)] (AX 2)=some [.unset,.d (.int (ts:Int))]:=rfl;have hpe:=rD h0 h1 hdl (.inr rfl) (.inr rfl);simp! only[hm1,m5 (l:=l) (by lia),hlo hll,hkn,hpe,a9];rw[←F9,cQ hl0 (by lia)];simp! only[e1]
 unfold jF;refine(A0 (ρ':=G' l r told (.d (.int (CM l ts:Int))) (.d (.int (ts:Int))) (.d (.int (CM r ts:Int)))) ?_).trans ?_
 ·unfold jI G';have hkn:C0 [.d (.lst (vN l)),.d (.lst (vN r)),.d (.int (CM l ts:Int)),.d (.int (ts:Int)),x4,.own (.list none) told] [(1,3)] (AX 2)=some [.unset,.d (.int (ts:Int))]:=rfl;have hpe:=rD h0 h1 hdr (.inl rfl) (.inl rfl);simp! only[hm1,m5 (l:=r) (by lia),hlo hrl,hkn,hpe,a9];rw[←F9,cQ hr0 (by lia)];simp! only[e2]
 unfold jG;refine(A0 (ρ':=G' l r (told++if CM l ts=CM r ts then[]else[.tup [.int (ts:Int),.int (CM l ts:Int),.int (CM r ts:Int)]]) (.d (.int (CM l ts:Int))) (.d (.int (ts:Int))) (.d (.int (CM r ts:Int)))) ?_).trans (by rfl);unfold jJ G';simp! only[if_true];by_cases e:CM l ts=CM r ts
 ·rw[if_pos e,if_neg (by simp[e]),List.append_nil]
 ·rw[if_neg e,if_pos (by simp;lia)];refine(A0 (ρ':=G' l r (told++[.tup [.int (ts:Int),.int (CM l ts:Int),.int (CM r ts:Int)]]) (.d (.int (CM l ts:Int))) (.d (.int (ts:Int))) (.d (.int (CM r ts:Int)))) ?_).trans (by rfl);simp! only[M6 hto];rfl
theorem Pd(l r:List Nat)(m:Nat):(HB l r m).length≤m:=by
 unfold HB;have:=List.length_filterMap_le (λts=>if CM l ts=CM r ts then none else some (D.tup [.int (ts:Int),.int (CM l ts:Int),.int (CM r ts:Int)])) (List.range' 1 m);rwa [List.length_range']at this
theorem Pe(l r:List Nat)(m:Nat):HB l r (m+1)=HB l r m++if CM l (m+1)=CM r (m+1)then[]else[.tup [.int ((m+1:Nat):Int),.int (CM l (m+1):Int),.int (CM r (m+1):Int)]]:=by
 unfold HB;rw[List.range'_concat,List.filterMap_append]
 congr 1
 rw[show 1+1*m=m+1 by lia];by_cases e:CM l (m+1)=CM r (m+1)
 ·simp[e]
 ·simp[e]
theorem rE{l r:List Nat}(hl:∀w∈l,w≤50)(hr:∀w∈r,w≤50)(hl0:l≠[])(hr0:r≠[])(hll:l.length≤100)(hrl:r.length≤100):
  ∀(k m:Nat)(x2 x3 x4:LV),m+k≤100→∃y2 y3 y4,B7 (λρ d=>some (ρ.set 3 (LV.d d))) TB (vN (List.range' (m+1) k)) (G' l r (HB l r m) x2 x3 x4)=some (.next,G' l r (HB l r (m+k)) y2 y3 y4)
 |0,m,x2,x3,x4,_=>⟨x2,x3,x4,rfl⟩
 |k+1,m,x2,x3,x4,h=>by
  have h1:=Ke (l:=l) (r:=r) (ts:=m+1) (by lia) (by lia) (λw hw=>by have:=hl w hw;lia) (λw hw=>by have:=hr w hw;lia) hl0 hr0 hll hrl (HB l r m) (by have:=Pd l r m;lia) x2 x4;rw[←Pe]at h1;obtain⟨z2,z3,z4,h2⟩:=rE hl hr hl0 hr0 hll hrl k (m+1) (.d (.int (CM l (m+1):Int))) (.d (.int ((m+1:Nat):Int))) (.d (.int (CM r (m+1):Int))) (by lia);refine⟨z2,z3,z4,?_⟩;rw[show m+(k+1)=m+1+k by lia,←h2];exact GV rfl h1
def MZ(ds:List D):Option D:=if ds.length=2 then DB X5 (A4 (AX 6) [0,1] ds)else none
theorem Kf{l r:List Nat}(hl:∀w∈l,w≤50)(hr:∀w∈r,w≤50)(hl0:l≠[])(hr0:r≠[])(hll:l.length≤100)(hrl:r.length≤100):
  MZ [.lst (vN l),.lst (vN r)]=some (.lst (HB l r (BV (l++r)+1))):=by
 have hm:BV (l++r)≤50:=by
  have:=NT (l:=l++r) (by simp[hl0]);rcases List.mem_append.mp this with h|h
  ·exact hl _ h
  ·exact hr _ h
 obtain⟨y2,y3,y4,h⟩:=rE hl hr hl0 hr0 hll hrl (BV (l++r)+1) 0 .unset .unset .unset (by lia);rw[show 0+(BV (l++r)+1)=BV (l++r)+1 by lia]at h;unfold MZ;refine(if_pos (by rfl)).trans ?_;refine P3 (ρ':=G' l r (HB l r (BV (l++r)+1)) y2 y3 y4) ?_;unfold X5;refine(A0 (ρ':=G' l r [] .unset .unset .unset) (by rfl)).trans ?_;unfold jK;refine(A0 (ρ':=G' l r (HB l r (BV (l++r)+1)) y2 y3 y4) ?_).trans (by rfl);unfold jL;have ha:vN l++vN r=vN (l++r):=List.map_append.symm;have hsm:(BG (vN l)&&BG (vN r))=true:=by rw[GZ (by lia),GZ (by lia)];rfl
 have hr2:IQ [.int 1,.int ((BV (l++r)+2:Nat):Int)]=some (vN (List.range' 1 (BV (l++r)+1))):=aY (by lia);have hc:(BV (l++r):Int)+2=((BV (l++r)+2:Nat):Int):=rfl;have g0:AM 0 (G' l r [] .unset .unset .unset)=some (.lst (vN l)):=rfl;have g1:AM 1 (G' l r [] .unset .unset .unset)=some (.lst (vN r)):=rfl;simp only[g0,g1,Option.bind_some,CC,CF,CG,CH,CB,CJ,hsm,if_true,Option.map_some,ha,mV (l:=l++r) (by simp[hl0]),Q5,hc,hr2];exact h
noncomputable def ET(cnt:List Nat)(b:Nat):List Nat:=
 (if cnt.length≤b then cnt++List.replicate (b-cnt.length+1) 0 else cnt).set b ((if cnt.length≤b then cnt++List.replicate (b-cnt.length+1) 0 else cnt).getD b 0+1)
structure EM where
 n:Nat
 nt:Nat
 b:Nat
 cnt:List Nat
 deriving DecidableEq
def G0:List Nat→EM→EM
 |[],w=>w
 |c::r,w=>if c=32 then G0 r ⟨w.n+1,w.nt,w.b+1,w.cnt⟩else if c=9 then G0 r ⟨w.n+1,w.nt+1,0,ET w.cnt w.b⟩else w
def DY(x:Str):EM:=G0 x.cps.toList ⟨0,0,0,[]⟩
noncomputable def LT:List Str:=[Str.ofString "raw",Str.ofString "n",Str.ofString "nt",Str.ofString "norm",Str.ofString "is_simple"]
def VS(x:Str)(w:EM):List D:=[.str x,.int (w.n:Int),.int (w.nt:Int),.tup [.tup (vN w.cnt),.int (w.b:Int)],.bool (decide (w.cnt.length≤1))]
def A9(C:Addr)(x:Str)(w:EM):D:=.obj C LT (VS x w)
theorem Z5(cnt:List Nat)(b:Nat):(ET cnt b).length=Nat.max cnt.length (b+1):=by
 unfold ET;rw[List.length_set];split
 ·rename_i h;rw[List.length_append,List.length_replicate,show Nat.max cnt.length (b+1)=b+1 from Nat.max_eq_right (by lia)];lia
 ·rw[show Nat.max cnt.length (b+1)=cnt.length from Nat.max_eq_left (by lia)]
def DL(x0 x1 x5:LV)(w:EM):List LV:=[x0,x1,.d (.str " "),.d (.str "\t"),.d (.int (w.b:Int)),x5,.own (.list none) (vN w.cnt),.d (.int (w.n:Int)),.d (.int (w.nt:Int))]
theorem eS(c:Nat):(A' c==Str.ofString " ")=decide (c=32):=by
 have:Str.ofString " "=A' 32:=by decide
 rw[this];by_cases e:c=32
 ·subst e;decide
 ·rw[decide_eq_false e,beq_eq_false_iff_ne];intro h;apply e
  unfold A' at h;simpa using h
theorem sW(c:Nat):(A' c==Str.ofString "\t")=decide (c=9):=by
 have:Str.ofString "\t"=A' 9:=by decide
 rw[this];by_cases e:c=9
 ·subst e;decide
 ·rw[decide_eq_false e,beq_eq_false_iff_ne];intro h;apply e
  unfold A' at h;simpa using h
theorem Fc(x0 x1:LV)(c:Nat)(w:EM)(hb:w.b≤500)(hc:w.cnt.length≤502):
  TD (DL x0 x1 (.d (.str (A' c))) w)=if c=32 then some (.next,DL x0 x1 (.d (.str (A' c))) ⟨w.n+1,w.nt,w.b+1,w.cnt⟩)else if c=9 then some (.next,DL x0 x1 (.d (.str (A' c))) ⟨w.n+1,w.nt+1,0,ET w.cnt w.b⟩)else some (.brk,DL x0 x1 (.d (.str (A' c))) w):=by
 have e1:∀k:Nat,((k:Int)+1)=((k+1:Nat):Int):= λV=>rfl;unfold TD;by_cases h32:c=32
 ·rw[if_pos h32];refine(A0 (ρ':=DL x0 x1 (.d (.str (A' c))) ⟨w.n+1,w.nt,w.b+1,w.cnt⟩) ?_).trans (by rfl);unfold TG DL;simp! only[eS];rw[if_pos (by simpa using h32)];refine(A0 (ρ':=DL x0 x1 (.d (.str (A' c))) ⟨w.n+1,w.nt,w.b,w.cnt⟩) ?_).trans ?_
  ·simp! only[e1];rfl
  refine(A0 (ρ':=DL x0 x1 (.d (.str (A' c))) ⟨w.n+1,w.nt,w.b+1,w.cnt⟩) ?_).trans (by rfl);unfold DL;simp! only[e1]
 ·rw[if_neg h32];by_cases h9:c=9
  ·rw[if_pos h9];refine(A0 (ρ':=DL x0 x1 (.d (.str (A' c))) ⟨w.n+1,w.nt+1,0,ET w.cnt w.b⟩) ?_).trans (by rfl);unfold TG DL;simp! only[eS];rw[if_neg (by simpa using h32)];refine(A0 (ρ':=DL x0 x1 (.d (.str (A' c))) ⟨w.n+1,w.nt+1,0,ET w.cnt w.b⟩) ?_).trans (by rfl);simp! only[sW];rw[if_pos (by simpa using h9)];refine(A0 (ρ':=DL x0 x1 (.d (.str (A' c))) ⟨w.n+1,w.nt,w.b,w.cnt⟩) ?_).trans ?_
   ·simp! only[e1];rfl
   refine(A0 (ρ':=DL x0 x1 (.d (.str (A' c))) ⟨w.n+1,w.nt+1,w.b,w.cnt⟩) ?_).trans ?_
   ·unfold DL;simp! only[e1]
   obtain⟨cnt',hcnt⟩:∃cnt',cnt'=(if w.cnt.length≤w.b then w.cnt++List.replicate (w.b-w.cnt.length+1) 0 else w.cnt):=⟨_,rfl⟩;have hbl:w.b<cnt'.length∧cnt'.length≤502:=by
    rw[hcnt];split
    ·rw[List.length_append,List.length_replicate];lia
    ·lia
   refine(A0 (ρ':=DL x0 x1 (.d (.str (A' c))) ⟨w.n+1,w.nt+1,w.b,cnt'⟩) ?_).trans ?_
   ·unfold DL;simp! only[L5 (xs:=w.cnt) (by lia)];by_cases hle:w.cnt.length≤w.b
    ·rw[if_pos hle]at hcnt;rw[if_pos (by simp;lia)];have hk:(w.b:Int)-(w.cnt.length:Int)+1=((w.b-w.cnt.length+1:Nat):Int):=by lia
     have hz:(List.replicate (w.b-w.cnt.length+1) [D.int 0]).flatten=vN (List.replicate (w.b-w.cnt.length+1) 0):=by
      generalize w.b-w.cnt.length+1=m
      clear hk
      induction m with
      |zero=>rfl
      |succ m ih=>rw[List.replicate_succ,List.flatten_cons,ih];rfl
     have ha:vN w.cnt++vN (List.replicate (w.b-w.cnt.length+1) 0)=vN cnt':=by rw[hcnt];exact List.map_append.symm
     refine(A0 (ρ':=DL x0 x1 (.d (.str (A' c))) ⟨w.n+1,w.nt+1,w.b,cnt'⟩) ?_).trans (by rfl);simp! only[L5 (xs:=w.cnt) (by lia),hk];rw[if_pos (by simp;lia)];have hm:((w.b-w.cnt.length+1:Nat):Int).toNat=w.b-w.cnt.length+1:=by lia
     simp! only[hm,hz];rw[if_pos (by rw[GZ (by lia),GZ (by rw[List.length_replicate];lia)];rfl)];simp! only[ha];rfl
    ·rw[if_neg hle]at hcnt;rw[if_neg (by simp;lia),hcnt]
   refine(A0 (ρ':=DL x0 x1 (.d (.str (A' c))) ⟨w.n+1,w.nt+1,w.b,ET w.cnt w.b⟩) ?_).trans ?_
   ·unfold DL;have hbe:ET w.cnt w.b=cnt'.set w.b (cnt'.getD w.b 0+1):=by rw[hcnt];rfl
    have hset:(vN cnt').set (w.b:Int).toNat (.int ((cnt'.getD w.b 0+1:Nat):Int))=vN (ET w.cnt w.b):=by
     rw[hbe];unfold vN;rw[List.map_set];rfl
    have hB:H5 (w.b:Int) (vN cnt')=true:=by
     unfold H5;rw[IU];simp;lia
    have hi:=HJ (xs:=cnt') (c:=w.b) hbl.1 (by lia);rw[F9]at hi;simp! only[hi,e1];rw[if_pos hB,hset]
   rfl
  ·rw[if_neg h9];refine eJ ?_;unfold TG DL;simp! only[eS];rw[if_neg (by simpa using h32)];refine eJ ?_;simp! only[sW];rw[if_neg (by simpa using h9)];rfl
theorem cG(x0 x1:LV):∀(cs:List Nat)(x5:LV)(w:EM),w.b+cs.length≤500→w.cnt.length+cs.length≤501→∃y5,B7 (λρ d=>some (ρ.set 5 (LV.d d))) TD (cs.map λc=>.str (A' c)) (DL x0 x1 x5 w)=some (.next,DL x0 x1 y5 (G0 cs w))
 |[],x5,w,_,_=>⟨x5,rfl⟩
 |c::cs,x5,w,h1,h2=>by
  rw[List.length_cons]at h1 h2;have h:=Fc x0 x1 c w (by lia) (by lia);unfold G0;rw[List.map_cons];by_cases h32:c=32
  ·rw[if_pos h32]at h⊢;obtain⟨y5,hy⟩:=cG x0 x1 cs (.d (.str (A' c))) ⟨w.n+1,w.nt,w.b+1,w.cnt⟩ (by show w.b+1+_≤_;lia) (by show w.cnt.length+_≤_;lia);exact⟨y5,by rw[←hy];exact GV rfl h⟩
  ·rw[if_neg h32]at h⊢;by_cases h9:c=9
   ·rw[if_pos h9]at h⊢;obtain⟨y5,hy⟩:=cG x0 x1 cs (.d (.str (A' c))) ⟨w.n+1,w.nt+1,0,ET w.cnt w.b⟩ (by show 0+_≤_;lia) (by
     show(ET w.cnt w.b).length+_≤_;rw[Z5];rcases Nat.le_total w.cnt.length (w.b+1)with q|q
     ·rw[show Nat.max w.cnt.length (w.b+1)=w.b+1 from Nat.max_eq_right q];lia
     ·rw[show Nat.max w.cnt.length (w.b+1)=w.cnt.length from Nat.max_eq_left q];lia)
    exact⟨y5,by rw[←hy];exact GV rfl h⟩
   ·rw[if_neg h9]at h⊢;exact⟨.d (.str (A' c)),n9 rfl h⟩
noncomputable def OI(x:Str):Bool:=x.cps.all (· <128)&&decide (x.cps.size≤400)
def IL(C:Addr):List D→Option D
 |[.str x]=>if OI x then some (A9 C x (DY x))else none
 |_=>none
theorem Ql(C l:Addr){x:Str}(hx:OI x=true):∃ρ',YG C (A4 ((AX 9).set 0 (.own (.ins (some l) C []) [])) [1] [.str x])=some (.next,ρ')∧ρ'[0]? =some (.own (.ins (some l) C LT) (VS x (DY x))):=by
 unfold OI at hx;rw[Bool.and_eq_true,decide_eq_true_eq]at hx;have hraw:LV.own (.ins (some l) C []) ([]:List D)=.own (.ins (some l) C []) []:=rfl;obtain⟨y5,h⟩:=cG (.own (.ins (some l) C [Str.ofString "raw"]) [.str x]) (.d (.str x)) x.cps.toList .unset ⟨0,0,0,[]⟩ (by show 0+x.cps.toList.length≤500;rw[Array.length_toList];lia) (by show 0+x.cps.toList.length≤501;rw[Array.length_toList];lia);have hw:G0 x.cps.toList ⟨0,0,0,[]⟩=DY x:=rfl;rw[hw]at h;have hcl:(DY x).cnt.length≤501:=by
  have:∀(cs:List Nat)(w:EM),w.b+cs.length≤500→w.cnt.length+cs.length≤501→(G0 cs w).cnt.length≤501:=by
   intro cs
   induction cs with
   |nil=>intro w _ h2;exact h2
   |cons c cs ih=>
    intro w h1 h2;rw[List.length_cons]at h1 h2;unfold G0;split
    ·exact ih _ (by show w.b+1+_≤_;lia) (by show w.cnt.length+_≤_;lia)
    ·split
     ·refine ih _ (by show 0+_≤_;lia) ?_;show(ET w.cnt w.b).length+_≤_;rw[Z5];rcases Nat.le_total w.cnt.length (w.b+1)with q|q
      ·rw[show Nat.max w.cnt.length (w.b+1)=w.b+1 from Nat.max_eq_right q];lia
      ·rw[show Nat.max w.cnt.length (w.b+1)=w.cnt.length from Nat.max_eq_left q];lia
     ·lia
  exact this _ _ (by show 0+x.cps.toList.length≤500;rw[Array.length_toList];lia) (by show 0+x.cps.toList.length≤501;rw[Array.length_toList];lia)
 refine⟨DL (.own (.ins (some l) C LT) (VS x (DY x))) (.d (.str x)) y5 (DY x),?_,rfl⟩;unfold YG;refine(A0 (ρ':=[.own (.ins (some l) C [Str.ofString "raw"]) [.str x],.d (.str x),.unset,.unset,.unset,.unset,.unset,.unset,.unset]) ?_).trans ?_
 ·show(if C=C∧¬Str.ofString "raw"∈([]:List Str)∧([]:List Str).length<900 then _ else _)=_;rw[if_pos ⟨rfl,by simp,by decide⟩];rfl
 unfold jW;refine(A0 (ρ':=[.own (.ins (some l) C [Str.ofString "raw"]) [.str x],.d (.str x),.d (.str " "),.d (.str "\t"),.unset,.unset,.unset,.unset,.unset]) (by rfl)).trans ?_;unfold jX;refine(A0 (ρ':=[.own (.ins (some l) C [Str.ofString "raw"]) [.str x],.d (.str x),.d (.str " "),.d (.str "\t"),.unset,.unset,.own (.list none) [],.unset,.unset]) (by rfl)).trans ?_;unfold jY;refine(A0 (ρ':=DL (.own (.ins (some l) C [Str.ofString "raw"]) [.str x]) (.d (.str x)) .unset ⟨0,0,0,[]⟩) (by rfl)).trans ?_;unfold jZ;refine(A0 (ρ':=DL (.own (.ins (some l) C [Str.ofString "raw"]) [.str x]) (.d (.str x)) y5 (DY x)) ?_).trans ?_
 ·unfold j4;have hidx:KS (Str.ofString "raw") [Str.ofString "raw"]=some 0:=if_pos rfl;have hsg:VJ (.str x)=some (x.cps.toList.map λc=>.str (A' c)):=by
   unfold VJ;exact if_pos (by rw[hx.1,decide_eq_true (show x.cps.size≤100000 by lia)];rfl)
  unfold DL;simp only[List.getElem?_cons_zero,eq_self,if_true,hidx,Option.bind_some,CC,CF,CG,CH,Ed,hsg];exact h
 unfold j0;refine(A0 (ρ':=DL (.own (.ins (some l) C [Str.ofString "raw",Str.ofString "n"]) [.str x,.int ((DY x).n:Int)]) (.d (.str x)) y5 (DY x)) ?_).trans ?_
 ·show(if C=C∧¬Str.ofString "n"∈[Str.ofString "raw"]∧[Str.ofString "raw"].length<900 then _ else _)=_;rw[if_pos ⟨rfl,by decide,by decide⟩];rfl
 unfold j1;refine(A0 (ρ':=DL (.own (.ins (some l) C [Str.ofString "raw",Str.ofString "n",Str.ofString "nt"]) [.str x,.int ((DY x).n:Int),.int ((DY x).nt:Int)]) (.d (.str x)) y5 (DY x)) ?_).trans ?_
 ·show(if C=C∧¬Str.ofString "nt"∈[Str.ofString "raw",Str.ofString "n"]∧[Str.ofString "raw",Str.ofString "n"].length<900 then _ else _)=_;rw[if_pos ⟨rfl,by decide,by decide⟩];rfl
 unfold j2;have hsm:BG (vN (DY x).cnt)=true:=GZ (by lia);refine(A0 (ρ':=DL (.own (.ins (some l) C [Str.ofString "raw",Str.ofString "n",Str.ofString "nt",Str.ofString "norm"]) [.str x,.int ((DY x).n:Int),.int ((DY x).nt:Int),.tup [.tup (vN (DY x).cnt),.int ((DY x).b:Int)]]) (.d (.str x)) y5 (DY x)) ?_).trans ?_
 ·unfold j5 DL;have ht:bA [.lst (vN (DY x).cnt)]=some (.tup (vN (DY x).cnt)):=if_pos hsm;simp! only[ht];rw[if_pos ⟨trivial,by decide,by decide⟩];rfl
 unfold j3;refine(A0 (ρ':=DL (.own (.ins (some l) C LT) (VS x (DY x))) (.d (.str x)) y5 (DY x)) ?_).trans (by rfl);unfold j6 DL;simp! only[L5 (xs:=(DY x).cnt) (by lia)];rw[if_pos ⟨trivial,by decide,by decide⟩];have:decide (((DY x).cnt.length:Int)≤1)=decide ((DY x).cnt.length≤1):=by
  by_cases e:(DY x).cnt.length≤1
  ·rw[decide_eq_true e,decide_eq_true (by lia)]
  ·rw[decide_eq_false e,decide_eq_false (by lia)]
 rw[this];rfl
theorem FY{F G:PF}{ρ ρ':List LV}(h:F ρ=some (.next,ρ')):DB (AG F G) ρ=DB G ρ':=by
 unfold DB;rw[A0 h]
theorem MP{F G:PF}{ρ ρ':List LV}{d:D}(h:F ρ=some (.ret d,ρ')):DB (AG F G) ρ=some d:=by
 unfold DB;rw[KZ h];rfl
structure G4(w:EM):Prop where
 len:w.cnt.length≤501
 cnt:∀c∈w.cnt,c≤500
 b:w.b≤500
 nt:w.nt≤500
noncomputable def IW(w:EM):Nat:=Nat.max (w.cnt.length-1) w.b
def IR(cnt:List Nat)(ts:Nat):Nat:=B3 ((List.range' ts (cnt.length-ts)).map λi=>i / ts*cnt.getD i 0)
def CU(w:EM)(ts:Nat):Nat:=w.b+ts*(IR w.cnt ts+w.nt)
section
variable{C:Addr}{x y:Str}{w v:EM}
theorem ZP:ES C (Str.ofString "n") (A9 C x w)=some (.int (w.n:Int)):=OX (i:=1) (by decide) rfl
theorem ZR:ES C (Str.ofString "nt") (A9 C x w)=some (.int (w.nt:Int)):=OX (i:=2) (by decide) rfl
theorem ZQ:ES C (Str.ofString "norm") (A9 C x w)=some (.tup [.tup (vN w.cnt),.int (w.b:Int)]):=OX (i:=3) (by decide) rfl
theorem ZS:ES C (Str.ofString "is_simple") (A9 C x w)=some (.bool (decide (w.cnt.length≤1))):=OX (i:=4) (by decide) rfl
def I9(C:Addr)(ds:List D):Option D:=if ds.length=1 then DB (YL C) (A4 (AX 3) [0] ds)else none
theorem mS{l:List D}(h:BG l=true):GA [.tup l]=some (.int (l.length:Int)):=by
 exact if_pos h
theorem RS(h:G4 w):I9 C [A9 C x w]=some (.int (IW w:Int)):=by
 have h1:=h.len;unfold I9;refine(if_pos (by rfl)).trans ?_;refine P3 (ρ':=[.d (A9 C x w),.d (.tup (vN w.cnt)),.d (.int (w.b:Int))]) ?_;unfold YL;refine(A0 (ρ':=[.d (A9 C x w),.d (.tup (vN w.cnt)),.d (.int (w.b:Int))]) ?_).trans ?_
 ·unfold kD;have e:A4 (AX 3) [0] [A9 C x w]=[.d (A9 C x w),.unset,.unset]:=rfl;rw[e];simp! only[ZQ]
 unfold kC;refine KZ ?_;unfold kF;have hl:GA [.tup (vN w.cnt)]=some (.int (w.cnt.length:Int)):=by rw[mS (GZ (by lia)),IU]
 have hm:M7 [.int ((w.cnt.length:Int)-1),.int (w.b:Int)]=some (.int (IW w:Int)):=by
  unfold M7 IW;have:(if(w.b:Int)>(w.cnt.length:Int)-1 then(w.b:Int)else(w.cnt.length:Int)-1)=((Nat.max (w.cnt.length-1) w.b:Nat):Int):=by
   rcases Nat.le_total (w.cnt.length-1) w.b with q|q
   ·rw[show Nat.max (w.cnt.length-1) w.b=w.b from Nat.max_eq_right q];split<;>lia
   ·rw[show Nat.max (w.cnt.length-1) w.b=w.cnt.length-1 from Nat.max_eq_left q];split<;>lia
  show some (D.int _)=_;rw[this]
 simp! only[hl,hm]
def JR(C:Addr)(ds:List D):Option D:=if ds.length=2 then DB (YE C) (A4 (AX 6) [0,1] ds)else none
theorem bX{l:List Nat}{m:Nat}(h:∀c∈l,c≤m)(i:Nat):l.getD i 0≤m:=by
 rw[List.getD_eq_getElem?_getD];cases e:l[i]? with
 |none=>exact Nat.zero_le _
 |some a=>exact h a (List.mem_of_getElem? e)
theorem Fs{xs:List Nat}{c:Nat}(h:c<xs.length)(hl:xs.length≤1000):BL (.tup (vN xs)) (.int (c:Int))=some (.int ((xs.getD c 0:Nat):Int)):=HJ h hl
theorem pC(h:G4 w){ts:Nat}(h0:0<ts)(h1:ts≤600):∀(k i:Nat)(il:Nat)(x3:LV),(0<k→i+k≤w.cnt.length)→∃y3,B7 (λρ d=>some (ρ.set 3 (LV.d d))) YF (vN (List.range' i k)) [.d (A9 C x w),.d (.int (ts:Int)),.d (.tup (vN w.cnt)),x3,.d (.int (il:Int)),.d (.int (w.b:Int))]=some (.next,[.d (A9 C x w),.d (.int (ts:Int)),.d (.tup (vN w.cnt)),y3,.d (.int ((il+B3 ((List.range' i k).map λi=>i / ts*w.cnt.getD i 0):Nat):Int)),.d (.int (w.b:Int))])
 |0,i,il,x3,_=>⟨x3,rfl⟩
 |k+1,i,il,x3,hk=>by
  have hl:=h.len;have hk:=hk (by lia);have hc:=bX h.cnt i;obtain⟨y3,hy⟩:=pC h h0 h1 k (i+1) (il+i / ts*w.cnt.getD i 0) (.d (.int (i:Int))) (by lia);refine⟨y3,?_⟩;have e:il+B3 ((List.range' i (k+1)).map λi=>i / ts*w.cnt.getD i 0)=il+i / ts*w.cnt.getD i 0+B3 ((List.range' (i+1) k).map λi=>i / ts*w.cnt.getD i 0):=by
   rw[List.range'_succ,List.map_cons];show il+(i / ts*w.cnt.getD i 0+_)=_;lia
  rw[e,←hy];refine GV (CE:=[.d (A9 C x w),.d (.int (ts:Int)),.d (.tup (vN w.cnt)),.d (.int (i:Int)),.d (.int (il:Int)),.d (.int (w.b:Int))]) rfl ?_;unfold YF;refine(A0 (ρ':=[.d (A9 C x w),.d (.int (ts:Int)),.d (.tup (vN w.cnt)),.d (.int (i:Int)),.d (.int ((il+i / ts*w.cnt.getD i 0:Nat):Int)),.d (.int (w.b:Int))]) ?_).trans (by rfl);unfold jP;have hq:i / ts≤600:=Nat.le_trans (Nat.div_le_self _ _) (by lia);have hd:FO (.int (i:Int)) (.int (ts:Int))=some (.int ((i / ts:Nat):Int)):=aJ i ts (by lia) (nY (by lia));have hm:EH (.int ((i / ts:Nat):Int)) (.int ((w.cnt.getD i 0:Nat):Int))=some (.int ((i / ts*w.cnt.getD i 0:Nat):Int)):=by
   rw[KP (UD (by lia)) (UD (by lia))];rfl
  have hi:=Fs (xs:=w.cnt) (c:=i) (by lia) (by lia);rw[Be]at hi;have ha:(il:Int)+((i / ts*w.cnt.getD i 0:Nat):Int)=((il+i / ts*w.cnt.getD i 0:Nat):Int):=rfl;simp! only[hd,hi,hm,ha]
theorem VM{m:Nat}:∀{l:List Nat},(∀c∈l,c≤m)→B3 l≤l.length*m
 |[],_=>Nat.zero_le _
 |a::l,h=>by
  have h1:=h a (.head _);have h2:=VM λc hc=>h c (.tail _ hc);show a+B3 l≤(l.length+1)*m;rw[Nat.add_mul];lia
theorem Fb(h:G4 w){ts:Nat}:IR w.cnt ts≤501*(501*500):=by
 unfold IR;have hl:=h.len;have:∀c∈(List.range' ts (w.cnt.length-ts)).map λi=>i / ts*w.cnt.getD i 0,c≤501*500:=by
  intro c hc;obtain⟨i,hi,rfl⟩:=List.mem_map.mp hc;rw[List.mem_range'_1]at hi;exact Nat.mul_le_mul (Nat.le_trans (Nat.div_le_self _ _) (by lia)) (bX h.cnt i)
 refine Nat.le_trans (VM this) (Nat.mul_le_mul ?_ (Nat.le_refl _));rw[List.length_map,List.length_range'];lia
theorem mZ{a b:Nat}(ha:a≤100000)(h:b≤100000):IQ [.int (a:Int),.int (b:Int)]=some (vN (List.range' a (b-a))):=by
 have e:EQ (a:Int) (b:Int)=vN (List.range' a (b-a)):=by
  unfold EQ vN;rw[show((b:Int)-(a:Int)).toNat=b-a by lia,List.range'_eq_map_range,List.map_map]
  congr 1
 rw[←e];exact if_pos (by simp[HN];lia)
theorem n0{a:Nat}(h:a≤900000000):FT (a:Int)=true:=by
 unfold FT;simp;lia
theorem UN(h:G4 w){ts:Nat}(h0:0<ts)(h1:ts≤600):JR C [A9 C x w,.int (ts:Int)]=some (.int (CU w ts:Int)):=by
 have hl:=h.len;have hnt:=h.nt;have hb:=h.b;have hil:=Fb h (ts:=ts);obtain⟨y3,hy⟩:=pC (C:=C) (x:=x) h h0 h1 (w.cnt.length-ts) ts 0 .unset (by lia);have hz:0+B3 ((List.range' ts (w.cnt.length-ts)).map λi=>i / ts*w.cnt.getD i 0)=IR w.cnt ts:=Nat.zero_add _;rw[hz]at hy;unfold JR;refine(if_pos (by rfl)).trans ?_;refine P3 (ρ':=[.d (A9 C x w),.d (.int (ts:Int)),.d (.tup (vN w.cnt)),y3,.d (.int (IR w.cnt ts:Int)),.d (.int (w.b:Int))]) ?_;unfold YE;refine(A0 (ρ':=[.d (A9 C x w),.d (.int (ts:Int)),.d (.tup (vN w.cnt)),.unset,.unset,.d (.int (w.b:Int))]) ?_).trans ?_
 ·unfold jT;have e:A4 (AX 6) [0,1] [A9 C x w,.int (ts:Int)]=[.d (A9 C x w),.d (.int (ts:Int)),.unset,.unset,.unset,.unset]:=rfl;rw[e];simp! only[ZQ]
 unfold jQ;refine(A0 (ρ':=[.d (A9 C x w),.d (.int (ts:Int)),.d (.tup (vN w.cnt)),.unset,.d (.int ((0:Nat):Int)),.d (.int (w.b:Int))]) (by rfl)).trans ?_;unfold jR;refine(A0 (ρ':=[.d (A9 C x w),.d (.int (ts:Int)),.d (.tup (vN w.cnt)),y3,.d (.int (IR w.cnt ts:Int)),.d (.int (w.b:Int))]) ?_).trans ?_
 ·unfold jU;have hln:GA [.tup (vN w.cnt)]=some (.int (w.cnt.length:Int)):=by rw[mS (GZ (by lia)),IU]
  simp! only[hln,mZ (a:=ts) (b:=w.cnt.length) (by lia) (by lia)];exact hy
 unfold jS;refine KZ ?_;unfold jV;have ha:(IR w.cnt ts:Int)+(w.nt:Int)=((IR w.cnt ts+w.nt:Nat):Int):=rfl;have hm:EH (.int (ts:Int)) (.int ((IR w.cnt ts+w.nt:Nat):Int))=some (.int ((ts*(IR w.cnt ts+w.nt):Nat):Int)):=by
  rw[KP (n0 (by lia)) (n0 (by lia))];rfl
 have ha2:(w.b:Int)+((ts*(IR w.cnt ts+w.nt):Nat):Int)=(CU w ts:Int):=rfl;simp! only[ZR,ha,hm,ha2]
def I7(C:Addr)(ds:List D):Option D:=if ds.length=2 then DB (YD C) (A4 (AX 2) [0,1] ds)else none
theorem Pc{l m:List Nat}(h:K2 (vN l)=K2 (vN m)):l=m:=by
 rw[SM,SM]at h
 induction l generalizing m with
 |nil=>cases m with
  |nil=>rfl
  |cons b m=>cases h
 |cons a l ih=>cases m with
  |nil=>cases h
  |cons b m=>
   have h:F0 (.int (a:Int))::(vN l).map F0=F0 (.int (b:Int))::(vN m).map F0:=h;injection h with h1 h2
   rw[ih h2,show a=b from Int.ofNat.inj (PySem.W.Dat.int.inj h1)]
theorem qU(w:EM):EA (.tup [.tup (vN w.cnt),.int (w.b:Int)])=true:=PQ (n:=7) λd hd=>by
 rcases List.mem_cons.mp hd with rfl|hd
 ·exact PQ (n:=6) λe he=>by
   obtain⟨y,_,rfl⟩:=List.mem_map.mp he;exact KV _ _
 ·rcases List.mem_cons.mp hd with rfl|hd
  ·exact KV _ _
  ·cases hd
noncomputable def SF(w v:EM):Bool:=decide (w.cnt=v.cnt∧w.b=v.b)
theorem Ce:EU (.tup [.tup (vN w.cnt),.int (w.b:Int)]) (.tup [.tup (vN v.cnt),.int (v.b:Int)])=some (SF w v):=by
 have h1:=qU w;have h2:=qU v;have e:EU (.tup [.tup (vN w.cnt),.int (w.b:Int)]) (.tup [.tup (vN v.cnt),.int (v.b:Int)])=some (LA (.tup [.tup (vN w.cnt),.int (w.b:Int)]) (.tup [.tup (vN v.cnt),.int (v.b:Int)])):=if_pos (by rw[h1,h2];rfl);rw[e]
 congr 1
 rw[Bool.eq_iff_iff,bH h1 h2];unfold SF;rw[decide_eq_true_eq];refine⟨λh=>?_,λh=>by rw[h.1,h.2]⟩;have h3:=List.cons.inj (PySem.W.Dat.tuple.inj h);exact⟨Pc (PySem.W.Dat.tuple.inj h3.1),Int.ofNat.inj (PySem.W.Dat.int.inj (List.cons.inj h3.2).1)⟩
theorem Cf:I7 C [A9 C x w,A9 C y v]=some (.bool (SF w v)):=by
 unfold I7;refine(if_pos (by rfl)).trans ?_;refine P3 (ρ':=[.d (A9 C x w),.d (A9 C y v)]) ?_;unfold YD;refine KZ ?_;unfold jO;have e:A4 (AX 2) [0,1] [A9 C x w,A9 C y v]=[.d (A9 C x w),.d (A9 C y v)]:=rfl;rw[e];simp! only[ZQ,Ce]
def nL(w v:EM):Nat:=Nat.max (IW w) (IW v)
theorem mT(a b:Nat):M7 [.int (a:Int),.int (b:Int)]=some (.int ((Nat.max a b:Nat):Int)):=by
 have:(if(b:Int)>(a:Int)then(b:Int)else(a:Int))=((Nat.max a b:Nat):Int):=by
  rcases Nat.le_total a b with q|q
  ·rw[show Nat.max a b=b from Nat.max_eq_right q];split<;>lia
  ·rw[show Nat.max a b=a from Nat.max_eq_left q];split<;>lia
 show some (D.int _)=_;rw[this]
theorem dQ:¬Str.ofString "longest_run_of_spaces"∈LT:=by decide
theorem dP:¬Str.ofString "indent_level"∈LT:=by decide
theorem UY(h:G4 w):IW w≤500:=by
 have h1:=h.len;have h2:=h.b;unfold IW;exact Nat.max_le.mpr ⟨by lia,h2⟩
def IK(C:Addr)(ds:List D):Option D:=if ds.length=2 then DB (YH C (I9 C) (JR C)) (A4 (AX 4) [0,1] ds)else none
def UU(w v:EM):Bool:=if v.n≤w.n then false else if w.cnt.length≤1∧v.cnt.length≤1 then decide (w.nt≤v.nt)else(List.range' 2 (nL w v)).all λts=>decide (CU w ts<CU v ts)
theorem pU(hw:G4 w)(hv:G4 v)(x2:LV):∀(k i:Nat)(x3:LV),0<i→i+k≤600→∃y3,B7 (λρ d=>some (ρ.set 3 (LV.d d))) (TH C (JR C)) (vN (List.range' i k)) [.d (A9 C x w),.d (A9 C y v),x2,x3]=some (if(List.range' i k).all (λts=>decide (CU w ts<CU v ts))=true then .next else .ret (.bool false),[.d (A9 C x w),.d (A9 C y v),x2,y3])
 |0,i,x3,_,_=>⟨x3,rfl⟩
 |k+1,i,x3,h0,h1=>by
  have hi1:=UN (C:=C) (x:=x) hw h0 (by lia);have hi2:=UN (C:=C) (x:=y) hv h0 (by lia);have hb:TH C (JR C) [.d (A9 C x w),.d (A9 C y v),x2,.d (.int (i:Int))]=some (if CU w i<CU v i then .next else .ret (.bool false),[.d (A9 C x w),.d (A9 C y v),x2,.d (.int (i:Int))]):=by
   unfold TH;have hs:YI C (JR C) [.d (A9 C x w),.d (A9 C y v),x2,.d (.int (i:Int))]=some (if CU w i<CU v i then .next else .ret (.bool false),[.d (A9 C x w),.d (A9 C y v),x2,.d (.int (i:Int))]):=by
    unfold YI;unfold A9 at hi1 hi2⊢;simp! only[dP,not_false_eq_true,and_self,hi1,hi2];by_cases e:CU w i<CU v i
    ·rw[if_pos e,if_neg (by simp;lia)]
    ·rw[if_neg e,if_pos (by simp;lia)];rfl
   by_cases e:CU w i<CU v i
   ·rw[if_pos e]at hs⊢;rw[A0 hs]
   ·rw[if_neg e]at hs⊢;rw[KZ hs]
  obtain⟨y3,hy⟩:=pU hw hv x2 k (i+1) (.d (.int (i:Int))) (by lia) (by lia);have hr:List.range' i (k+1)=i::List.range' (i+1) k:=List.range'_succ ..;by_cases e:CU w i<CU v i
  ·rw[if_pos e]at hb;refine⟨y3,?_⟩;rw[hr,List.all_cons,decide_eq_true e,Bool.true_and,←hy];exact GV rfl hb
  ·rw[if_neg e]at hb;refine⟨.d (.int (i:Int)),?_⟩;rw[hr,List.all_cons,decide_eq_false e,Bool.false_and,if_neg (by simp)];exact oA rfl hb
theorem pV(hw:G4 w)(hv:G4 v):IK C [A9 C x w,A9 C y v]=some (.bool (UU w v)):=by
 have hl1:=RS (C:=C) (x:=x) hw;have hl2:=RS (C:=C) (x:=y) hv;have hb1:=UY hw;have hb2:=UY hv;have hnl:nL w v≤500:=Nat.max_le.mpr ⟨hb1,hb2⟩;obtain⟨y3,hy⟩:=pU (C:=C) (x:=x) (y:=y) hw hv (.d (.int ((nL w v+1:Nat):Int))) (nL w v) 2 .unset (by lia) (by lia);unfold IK;refine(if_pos (by rfl)).trans ?_;have e:A4 (AX 4) [0,1] [A9 C x w,A9 C y v]=[.d (A9 C x w),.d (A9 C y v),.unset,.unset]:=rfl;rw[e];unfold YH UU;have hge:O3 (.int (w.n:Int)) (.int (v.n:Int))=some (decide (v.n≤w.n)):=by
  rw[Bb]
  congr 1
  by_cases q:v.n≤w.n
  ·rw[decide_eq_true q,decide_eq_true (by lia)]
  ·rw[decide_eq_false q,decide_eq_false (by lia)]
 by_cases h1:v.n≤w.n
 ·rw[if_pos h1];refine MP (ρ':=[.d (A9 C x w),.d (A9 C y v),.unset,.unset]) ?_;unfold TJ;simp! only[ZP,hge,decide_eq_true h1];rfl
 rw[if_neg h1];have s1:TJ C [.d (A9 C x w),.d (A9 C y v),.unset,.unset]=some (.next,[.d (A9 C x w),.d (A9 C y v),.unset,.unset]):=by
  unfold TJ;simp! only[ZP,hge,decide_eq_false h1];rfl
 rw[FY s1];unfold j7;by_cases h2:w.cnt.length≤1∧v.cnt.length≤1
 ·rw[if_pos h2];refine MP (ρ':=[.d (A9 C x w),.d (A9 C y v),.unset,.unset]) ?_;unfold TL;have hle:Q8 (.int (w.nt:Int)) (.int (v.nt:Int))=some (decide (w.nt≤v.nt)):=by
   rw[Bf]
   congr 1
   by_cases q:w.nt≤v.nt
   ·rw[decide_eq_true q,decide_eq_true (by lia)]
   ·rw[decide_eq_false q,decide_eq_false (by lia)]
  simp! only[ZS,decide_eq_true h2.1,decide_eq_true h2.2];refine KZ ?_;simp! only[ZR,hle]
 rw[if_neg h2];have s2:TL C [.d (A9 C x w),.d (A9 C y v),.unset,.unset]=some (.next,[.d (A9 C x w),.d (A9 C y v),.unset,.unset]):=by
  unfold TL;by_cases q1:w.cnt.length≤1
  ·have q2:¬v.cnt.length≤1:= λq=>h2 ⟨q1,q⟩;simp! only[ZS,decide_eq_true q1,decide_eq_false q2];rfl
  ·simp! only[ZS,decide_eq_false q1];rfl
 rw[FY s2];unfold j8;have s3:YJ C (I9 C) [.d (A9 C x w),.d (A9 C y v),.unset,.unset]=some (.next,[.d (A9 C x w),.d (A9 C y v),.d (.int ((nL w v+1:Nat):Int)),.unset]):=by
  unfold YJ;have ha:((Nat.max (IW w) (IW v):Nat):Int)+1=((nL w v+1:Nat):Int):=rfl;unfold A9 at hl1 hl2⊢;simp! only[dQ,not_false_eq_true,and_self,hl1,hl2,mT,ha]
 rw[FY s3];unfold j9;have s4:YK C (JR C) [.d (A9 C x w),.d (A9 C y v),.d (.int ((nL w v+1:Nat):Int)),.unset]=some (if(List.range' 2 (nL w v)).all (λts=>decide (CU w ts<CU v ts))=true then .next else .ret (.bool false),[.d (A9 C x w),.d (A9 C y v),.d (.int ((nL w v+1:Nat):Int)),y3]):=by
  unfold YK;have ha:((nL w v+1:Nat):Int)+1=((nL w v+2:Nat):Int):=rfl;have hr:IQ [.int 2,.int ((nL w v+2:Nat):Int)]=some (vN (List.range' 2 (nL w v))):=mZ (a:=2) (b:=nL w v+2) (by lia) (by lia);simp! only[ha,hr];exact hy
 by_cases e:(List.range' 2 (nL w v)).all (λts=>decide (CU w ts<CU v ts))=true
 ·rw[if_pos e]at s4;rw[FY s4,e];rfl
 ·rw[if_neg e]at s4;rw[MP s4,Bool.eq_false_iff.mpr e]
def M0(C:Addr)(ds:List D):Option D:=if ds.length=2 then DB (YM C (I9 C) (JR C)) (A4 (AX 5) [0,1] ds)else none
def HQ(w v:EM)(m:Nat):List D:=(List.range' 1 m).filterMap λts=>if CU w ts=CU v ts then none else some (.tup [.int (ts:Int),.int (CU w ts:Int),.int (CU v ts:Int)])
theorem Pt(w v:EM)(m:Nat):(HQ w v m).length≤m:=by
 unfold HQ;have:=List.length_filterMap_le (λts=>if CU w ts=CU v ts then none else some (D.tup [.int (ts:Int),.int (CU w ts:Int),.int (CU v ts:Int)])) (List.range' 1 m);rwa [List.length_range']at this
theorem Pu(w v:EM)(m:Nat):HQ w v (m+1)=HQ w v m++if CU w (m+1)=CU v (m+1)then[]else[.tup [.int ((m+1:Nat):Int),.int (CU w (m+1):Int),.int (CU v (m+1):Int)]]:=by
 unfold HQ;rw[List.range'_concat,List.filterMap_append]
 congr 1
 rw[show 1+1*m=m+1 by lia];by_cases e:CU w (m+1)=CU v (m+1)
 ·simp[e]
 ·simp[e]
def K3(C:Addr)(x y:Str)(w v:EM)(told:List D)(x3 x4:LV):List LV:=[.d (A9 C x w),.d (A9 C y v),.own (.list none) told,x3,x4]
theorem tH(hw:G4 w)(hv:G4 v)(x3:LV):∀(k m:Nat)(x4:LV),m+k≤600→∃y4,B7 (λρ d=>some (ρ.set 4 (LV.d d))) (YN C (JR C)) (vN (List.range' (m+1) k)) (K3 C x y w v (HQ w v m) x3 x4)=some (.next,K3 C x y w v (HQ w v (m+k)) x3 y4)
 |0,m,x4,_=>⟨x4,rfl⟩
 |k+1,m,x4,h=>by
  have hi1:=UN (C:=C) (x:=x) (ts:=m+1) hw (by lia) (by lia);have hi2:=UN (C:=C) (x:=y) (ts:=m+1) hv (by lia) (by lia);have hto:=Pt w v m;obtain⟨y4,hy⟩:=tH hw hv x3 k (m+1) (.d (.int ((m+1:Nat):Int))) (by lia);refine⟨y4,?_⟩;rw[show m+(k+1)=m+1+k by lia,←hy];refine GV (CE:=K3 C x y w v (HQ w v m) x3 (.d (.int ((m+1:Nat):Int)))) rfl ?_;unfold YN;refine(A0 (ρ':=K3 C x y w v (HQ w v (m+1)) x3 (.d (.int ((m+1:Nat):Int)))) ?_).trans (by rfl);rw[Pu];unfold kG K3;unfold A9 at hi1 hi2⊢;simp! only[dP,not_false_eq_true,and_self,hi1,hi2];by_cases e:CU w (m+1)=CU v (m+1)
  ·rw[if_pos e,if_neg (by simp[e]),List.append_nil]
  ·rw[if_neg e,if_pos (by simp;lia)];refine(A0 (ρ':=K3 C x y w v (HQ w v m++[.tup [.int ((m+1:Nat):Int),.int (CU w (m+1):Int),.int (CU v (m+1):Int)]]) x3 (.d (.int ((m+1:Nat):Int)))) ?_).trans (by rfl);simp! only[dP,not_false_eq_true,and_self,hi1,hi2,M6 (ds:=HQ w v m) (by lia)];rfl
theorem Pv(hw:G4 w)(hv:G4 v):M0 C [A9 C x w,A9 C y v]=some (.lst (HQ w v (nL w v+1))):=by
 have hl1:=RS (C:=C) (x:=x) hw;have hl2:=RS (C:=C) (x:=y) hv;have hnl:nL w v≤500:=Nat.max_le.mpr ⟨UY hw,UY hv⟩;obtain⟨y4,hy⟩:=tH (C:=C) (x:=x) (y:=y) hw hv (.d (.int ((nL w v+1:Nat):Int))) (nL w v+1) 0 .unset (by lia);rw[show 0+(nL w v+1)=nL w v+1 by lia]at hy;unfold M0;refine(if_pos (by rfl)).trans ?_;have e:A4 (AX 5) [0,1] [A9 C x w,A9 C y v]=[.d (A9 C x w),.d (A9 C y v),.unset,.unset,.unset]:=rfl;rw[e];unfold YM;have s1:YO C (I9 C) [.d (A9 C x w),.d (A9 C y v),.unset,.unset,.unset]=some (.next,[.d (A9 C x w),.d (A9 C y v),.unset,.d (.int ((nL w v+1:Nat):Int)),.unset]):=by
  unfold YO;have ha:((Nat.max (IW w) (IW v):Nat):Int)+1=((nL w v+1:Nat):Int):=rfl;unfold A9 at hl1 hl2⊢;simp! only[dQ,not_false_eq_true,and_self,hl1,hl2,mT,ha]
 rw[FY s1];unfold kH;rw[FY (show kJ [.d (A9 C x w),.d (A9 C y v),.unset,.d (.int ((nL w v+1:Nat):Int)),.unset]=some (.next,K3 C x y w v [] (.d (.int ((nL w v+1:Nat):Int))) .unset)from rfl)];unfold kI;have s3:YQ C (JR C) (K3 C x y w v [] (.d (.int ((nL w v+1:Nat):Int))) .unset)=some (.next,K3 C x y w v (HQ w v (nL w v+1)) (.d (.int ((nL w v+1:Nat):Int))) y4):=by
  unfold YQ;have g3:AD 3 (K3 C x y w v [] (.d (.int ((nL w v+1:Nat):Int))) .unset)=some (.int ((nL w v+1:Nat):Int)):=rfl;have ha:((nL w v+1:Nat):Int)+1=((nL w v+2:Nat):Int):=rfl;have hr:IQ [.int 1,.int ((nL w v+2:Nat):Int)]=some (vN (List.range' 1 (nL w v+1))):=aY (by lia);simp only[g3,Option.bind_some,CC,CF,CG,CH,CB,CJ,Q5,ha,hr];exact hy
 rw[FY s3];rfl
end
def FZ(f:Nat→Nat)(a k:Nat):Nat:=B3 ((List.range' a k).map f)
theorem sP:∀(l m:List Nat),B3 (l++m)=B3 l+B3 m
 |[],m=>(Nat.zero_add _).symm
 |a::l,m=>by
  show a+B3 (l++m)=a+B3 l+B3 m;rw[sP l m,Nat.add_assoc]
theorem SJ(f:Nat→Nat)(a k l:Nat):FZ f a (k+l)=FZ f a k+FZ f (a+k) l:=by
 unfold FZ;rw[←sP,←List.map_append]
 congr 2
 rw[←List.range'_append_1]
theorem MS{f:Nat→Nat}:∀(k a:Nat),(∀i,a≤i→i<a+k→f i=0)→FZ f a k=0
 |0,a,_=>rfl
 |k+1,a,h=>by
  unfold FZ;rw[List.range'_succ,List.map_cons];show f a+FZ f (a+1) k=0;rw[h a (Nat.le_refl _) (by lia),MS k (a+1) λi h1 h2=>h i (by lia) (by lia)]
theorem sR(f g:Nat→Nat):∀(k a:Nat),FZ (λi=>f i+g i) a k=FZ f a k+FZ g a k
 |0,a=>rfl
 |k+1,a=>by
  unfold FZ;rw[List.range'_succ,List.map_cons,List.map_cons,List.map_cons];show f a+g a+FZ (λi=>f i+g i) (a+1) k=f a+FZ f (a+1) k+(g a+FZ g (a+1) k);rw[sR f g k (a+1)];lia
theorem Om{b v:Nat}(h:b<1000):FZ (λi=>if i=b then v else 0) 0 1000=v:=by
 rw[show 1000=b+(1+(999-b))by lia,SJ,SJ];rw[MS b 0 λi V h2=>if_neg (by lia),MS (999-b) (0+b+1) λi h1 V=>if_neg (by lia)];show 0+((if 0+b=b then v else 0)+0+0)=v;rw[if_pos (by lia)];lia
theorem Ol{f g:Nat→Nat}{a k:Nat}(h:∀i,f i=g i):FZ f a k=FZ g a k:=by
 rw[show f=g from funext h]
theorem lY(cnt:List Nat)(b i:Nat):(ET cnt b).getD i 0=cnt.getD i 0+if i=b then 1 else 0:=by
 have key:∀i,((if cnt.length≤b then cnt++List.replicate (b-cnt.length+1) 0 else cnt)).getD i 0=cnt.getD i 0:=by
  intro i;split
  ·rw[List.getD_eq_getElem?_getD,List.getD_eq_getElem?_getD,List.getElem?_append];split
   ·rfl
   ·rename_i h;rw[List.getElem?_eq_none (l:=cnt) (by lia),List.getElem?_replicate];split<;>rfl
  ·rfl
 have hlen:b<(if cnt.length≤b then cnt++List.replicate (b-cnt.length+1) 0 else cnt).length:=by
  split
  ·rw[List.length_append,List.length_replicate];lia
  ·lia
 unfold ET;rw[List.getD_eq_getElem?_getD,List.getElem?_set];by_cases e:b=i
 ·subst e;rw[if_pos rfl,if_pos hlen,Option.getD_some,key,if_pos rfl]
 ·rw[if_neg e,if_neg (Ne.symm e),←List.getD_eq_getElem?_getD,key,Nat.add_zero]
def K'(cnt:List Nat)(ts:Nat):Nat:=FZ (λi=>i / ts*cnt.getD i 0) 0 1000
theorem xX{cnt:List Nat}{b ts:Nat}(h:b<1000):K' (ET cnt b) ts=K' cnt ts+b / ts:=by
 unfold K';have:∀i,i / ts*(ET cnt b).getD i 0=i / ts*cnt.getD i 0+if i=b then b / ts else 0:=by
  intro i;rw[lY,Nat.mul_add]
  congr 1
  split
  ·rename_i e;rw[e,Nat.mul_one]
  ·rw[Nat.mul_zero]
 rw[Ol this,sR,Om h]
theorem Fa{cnt:List Nat}{ts:Nat}(h0:0<ts)(h1:ts≤600)(hl:cnt.length≤501):IR cnt ts=K' cnt ts:=by
 have hsm:∀i,0≤i→i<0+ts→i / ts*cnt.getD i 0=0:= λi V h=>by rw[Nat.div_eq_of_lt (by lia),Nat.zero_mul]
 have hbg:∀i,cnt.length≤i→i / ts*cnt.getD i 0=0:= λi h=>by
  rw[List.getD_eq_getElem?_getD,List.getElem?_eq_none h,Option.getD_none,Nat.mul_zero]
 show FZ (λi=>i / ts*cnt.getD i 0) ts (cnt.length-ts)=_;unfold K';rcases Nat.le_total ts cnt.length with h|h
 ·rw[show 1000=ts+((cnt.length-ts)+(1000-cnt.length))by lia,SJ,SJ,MS ts 0 hsm,MS (1000-cnt.length) _ λi h1 V=>hbg i (by lia),Nat.zero_add,Nat.add_zero,Nat.zero_add]
 ·rw[show 1000=ts+(1000-ts)by lia,SJ,MS ts 0 hsm,MS (1000-ts) _ λi h1 V=>hbg i (by lia),show cnt.length-ts=0 by lia];rfl
theorem RV(a b:Nat):Nat.max a b=if a≤b then b else a:=Nat.max_def
def HG:List Nat→List Nat→List Nat
 |cnt,[]=>cnt
 |cnt,k::r=>HG (ET cnt k) r
theorem Z6:∀(l:List Nat)(cnt:List Nat),(HG cnt l).length=Nat.max cnt.length (if l=[]then 0 else BV l+1)
 |[],cnt=>by
  show cnt.length=_;rw[if_pos rfl];exact(Nat.max_zero _).symm
 |k::r,cnt=>by
  have e2:(if(k::r)=[]then 0 else BV (k::r)+1)=Nat.max k (BV r)+1:=if_neg (by simp);rw[show HG cnt (k::r)=HG (ET cnt k) r from rfl,Z6 r,Z5,e2];by_cases e:r=[]
  ·subst e;rw[if_pos rfl,show BV []=0 from rfl];simp only[RV];repeat' split
   all_goals lia
  ·rw[if_neg e];simp only[RV];repeat' split
   all_goals lia
theorem lZ{ts:Nat}:∀(l:List Nat)(cnt:List Nat),(∀k∈l,k<1000)→K' (HG cnt l) ts=K' cnt ts+B3 (l.map λk=>k / ts)
 |[],cnt,_=>(Nat.add_zero _).symm
 |k::r,cnt,h=>by
  have e2:B3 ((k::r).map λk=>k / ts)=k / ts+B3 (r.map λk=>k / ts):=rfl;rw[show HG cnt (k::r)=HG (ET cnt k) r from rfl,lZ r _ λj hj=>h j (.tail _ hj),xX (h k (.head _)),e2,Nat.add_assoc]
theorem l4:∀(l:List Nat)(cnt:List Nat)(m:Nat),(∀c∈cnt,c≤m)→∀c∈HG cnt l,c≤m+l.length
 |[],cnt,m,h,c,hc=>h c hc
 |k::r,cnt,m,h,c,hc=>by
  have:∀c∈ET cnt k,c≤m+1:=by
   intro c hc;obtain⟨i,hi,rfl⟩:=List.mem_iff_getElem.mp hc;have e:(ET cnt k)[i]=(ET cnt k).getD i 0:=by
    rw[List.getD_eq_getElem?_getD,List.getElem?_eq_getElem hi,Option.getD_some]
   rw[e,lY];have:=bX h i;split<;>lia
  have:=l4 r (ET cnt k) (m+1) this c hc;rw[List.length_cons];lia
noncomputable def JF:List Nat→List Nat
 |[]=>[120]
 |[k]=>List.replicate k 32++[120]
 |k::l::r=>List.replicate k 32++9::JF (l::r)
theorem fI(rest:List Nat):∀(k:Nat)(w:EM),G0 (List.replicate k 32++rest) w=G0 rest ⟨w.n+k,w.nt,w.b+k,w.cnt⟩
 |0,w=>rfl
 |k+1,w=>by
  rw[List.replicate_succ,List.cons_append];show G0 (List.replicate k 32++rest) ⟨w.n+1,w.nt,w.b+1,w.cnt⟩=_;rw[fI rest k];show G0 rest ⟨w.n+1+k,w.nt,w.b+1+k,w.cnt⟩=G0 rest ⟨w.n+(k+1),w.nt,w.b+(k+1),w.cnt⟩;rw[show w.n+1+k=w.n+(k+1)by lia,show w.b+1+k=w.b+(k+1)by lia]
theorem tR:∀(ks:List Nat)(n nt:Nat)(cnt:List Nat),ks≠[]→G0 (JF ks) ⟨n,nt,0,cnt⟩=⟨n+B3 ks+(ks.length-1),nt+(ks.length-1),ks.getLastD 0,HG cnt ks.dropLast⟩
 |[k],n,nt,cnt,_=>by
  show G0 (List.replicate k 32++[120]) _=_;rw[fI];show(⟨n+k,nt,0+k,cnt⟩:EM)=⟨n+(k+0)+0,nt+0,k,cnt⟩;rw[Nat.zero_add];rfl
 |k::l::r,n,nt,cnt,_=>by
  have ih:=tR (l::r) (n+k+1) (nt+1) (ET cnt k) (by simp);show G0 (List.replicate k 32++9::JF (l::r)) _=_;rw[fI];show G0 (JF (l::r)) ⟨n+k+1,nt+1,0,ET cnt (0+k)⟩=_;rw[Nat.zero_add,ih];have e1:n+k+1+B3 (l::r)+((l::r).length-1)=n+B3 (k::l::r)+((k::l::r).length-1):=by
   show n+k+1+(l+B3 r)+(r.length+1-1)=n+(k+(l+B3 r))+(r.length+1+1-1);lia
  have e2:nt+1+((l::r).length-1)=nt+((k::l::r).length-1):=by
   show nt+1+(r.length+1-1)=nt+(r.length+1+1-1);lia
  rw[e1,e2];rfl
def JQ(ks:List Nat):EM:=⟨B3 ks+(ks.length-1),ks.length-1,ks.getLastD 0,HG [] ks.dropLast⟩
theorem Iu{ks:List Nat}(h:ks≠[]):Nat.max (if ks.dropLast=[]then 0 else BV ks.dropLast) (ks.getLastD 0)=BV ks:=by
 induction ks with
 |nil=>exact absurd rfl h
 |cons a l ih=>
  cases l with
  |nil=>
   show Nat.max (if([]:List Nat)=[]then 0 else _) a=Nat.max a 0;rw[if_pos rfl];exact Nat.max_comm _ _
  |cons b r=>
   have ih:=ih (by simp);have e:(a::b::r).dropLast=a::(b::r).dropLast:=rfl;have e2:(a::b::r).getLastD 0=(b::r).getLastD 0:=rfl;rw[e,e2,if_neg (by simp)];show Nat.max (Nat.max a (BV (b::r).dropLast)) _=Nat.max a (BV (b::r));rw[←ih];by_cases e3:(b::r).dropLast=[]
   ·rw[if_pos e3,e3];show Nat.max (Nat.max a 0) _=_;simp only[RV];repeat' split
    all_goals lia
   ·rw[if_neg e3];simp only[RV];repeat' split
    all_goals lia
theorem tV{ks:List Nat}(h:ks≠[])(hl:ks.length≤100)(hk:∀k∈ks,k≤100):G4 (JQ ks) where
 len:=by
  show(HG [] ks.dropLast).length≤501;rw[Z6];split
  ·show Nat.max 0 0≤501;decide
  ·rename_i hd;have:=hk _ (List.dropLast_subset ks (NT hd));have e:Nat.max ([]:List Nat).length (BV ks.dropLast+1)=BV ks.dropLast+1:=Nat.max_eq_right (Nat.zero_le _);rw[e];lia
 cnt:= λc hc=>by
  have:=l4 ks.dropLast [] 0 (λc hc=>by cases hc) c hc;rw[List.length_dropLast]at this;lia
 b:=by
  show ks.getLastD 0≤500;rw[List.getLastD_eq_getLast?,List.getLast?_eq_getElem?];cases e:ks[ks.length-1]? with
  |none=>exact Nat.zero_le _
  |some a=>have:=hk a (List.mem_of_getElem? e);show a≤500;lia
 nt:=by show ks.length-1≤500;lia
theorem fL{ks:List Nat}(h:ks≠[]):IW (JQ ks)=BV ks:=by
 unfold IW;show Nat.max ((HG [] ks.dropLast).length-1) (ks.getLastD 0)=_;rw[Z6,←Iu h];have e:∀m:Nat,Nat.max ([]:List Nat).length m=m:= λm=>Nat.max_eq_right (Nat.zero_le _);rw[e];split<;>rfl
theorem sT(ts:Nat):∀l:List Nat,ts*(B3 (l.map λk=>k / ts)+l.length)=B3 (l.map λw=>(w / ts+1)*ts)
 |[]=>rfl
 |a::l=>by
  have ih:=sT ts l;show ts*(a / ts+B3 (l.map λk=>k / ts)+(l.length+1))=(a / ts+1)*ts+B3 (l.map λw=>(w / ts+1)*ts);rw[←ih,show a / ts+B3 (l.map λk=>k / ts)+(l.length+1)=(a / ts+1)+(B3 (l.map λk=>k / ts)+l.length)by lia,Nat.mul_add,Nat.mul_comm ts (a / ts+1)]
theorem tU{ks:List Nat}{ts:Nat}(h:ks≠[])(hl:ks.length≤100)(hk:∀k∈ks,k≤100)(h0:0<ts)(h1:ts≤600):CU (JQ ks) ts=CM ks ts:=by
 unfold CU CM;have hok:(HG [] ks.dropLast).length≤501:=(tV h hl hk).len;show ks.getLastD 0+ts*(IR (HG [] ks.dropLast) ts+(ks.length-1))=_;rw[Fa h0 h1 hok,lZ _ _ λk hk'=>by have:=hk k (List.dropLast_subset ks hk');lia];have hz:K' [] ts=0:=by
  unfold K';exact MS _ _ λi V V=>by rw[show([]:List Nat).getD i 0=0 from rfl,Nat.mul_zero]
 rw[hz,Nat.zero_add,←List.length_dropLast,sT];lia
theorem mJ(a b:Str):(a++b).cps.toList=a.cps.toList++b.cps.toList:=Array.toList_append
theorem Nl:(List.range 8).all (λk=>(JN (Str.ofString " ") (k:Int)).cps.toList==List.replicate k 32)=true:=by decide+kernel
theorem aE{k:Nat}(h:k<8):(JN (Str.ofString " ") (k:Int)).cps.toList=List.replicate k 32:=by
 have:=List.all_eq_true.mp Nl k (List.mem_range.mpr h);simpa using this
def ER(k:Nat):Str:=JN (Str.ofString " ") (k:Int)
theorem n8(g:List Nat):∀(l:List Str)(acc:Array Nat),(l.foldl (λacc p=>acc++g.toArray++p.cps) acc).toList=acc.toList++(l.flatMap λp=>g++p.cps.toList)
 |[],acc=>by simp
 |p::l,acc=>by
  rw[List.foldl_cons,n8 g l,List.flatMap_cons];simp
def MU(ks:List Nat):Str:=Txt.join (Str.ofString "\t") (ks.map ER)++Str.ofString "x"
theorem mD:∀(ks:List Nat),(∀k∈ks,k<8)→ks≠[]→JF ks=(ER (ks.headD 0)).cps.toList++((ks.drop 1).flatMap λk=>[9]++(ER k).cps.toList)++[120]
 |[k],h,_=>by
  show List.replicate k 32++[120]=_;unfold ER;rw[show[k].headD 0=k from rfl,aE (h k (.head _))];simp
 |k::l::r,h,_=>by
  have ih:=mD (l::r) (λj hj=>h j (.tail _ hj)) (by simp);show List.replicate k 32++9::JF (l::r)=_;rw[ih];unfold ER;rw[show(k::l::r).headD 0=k from rfl,aE (h k (.head _))];simp[List.flatMap_cons]
theorem fA{ks:List Nat}(h:∀k∈ks,k<8)(h0:ks≠[]):(MU ks).cps.toList=JF ks:=by
 unfold MU;rw[mJ,mD ks h h0];have hx:(Str.ofString "x").cps.toList=[120]:=by decide
 have ht:(Str.ofString "\t").cps= #[9]:=by decide
 rw[hx]
 congr 1
 cases ks with
 |nil=>exact absurd rfl h0
 |cons k r=>
  show((((k::r).map ER).drop 1).foldl (λacc p=>acc++(Str.ofString "\t").cps++p.cps) (((k::r).map ER).headD Str.empty).cps).toList=_;rw[ht];have:=n8 [9] (r.map ER) (ER k).cps;rw[show((k::r).map ER).drop 1=r.map ER from rfl,show(((k::r).map ER).headD Str.empty)=ER k from rfl];refine this.trans ?_;rw[List.flatMap_map];rfl
theorem mC:∀(ks:List Nat),∀c∈JF ks,c<128
 |[],c,h=>by simp[JF]at h;lia
 |[k],c,h=>by
  rcases List.mem_append.mp h with h|h
  ·have:=(List.mem_replicate.mp h).2;lia
  ·simp at h;lia
 |k::l::r,c,h=>by
  rcases List.mem_append.mp h with h|h
  ·have:=(List.mem_replicate.mp h).2;lia
  ·rcases List.mem_cons.mp h with h|h
   ·lia
   ·exact mC (l::r) c h
theorem aA:∀(ks:List Nat),ks≠[]→(JF ks).length=B3 ks+ks.length
 |[k],_=>by simp[JF,B3]
 |k::l::r,_=>by
  have:=aA (l::r) (by simp);show(List.replicate k 32++9::JF (l::r)).length=k+B3 (l::r)+((l::r).length+1);rw[List.length_append,List.length_replicate,List.length_cons,this];lia
theorem Qk{ks:List Nat}(h:∀k∈ks,k<8)(h0:ks≠[])(hl:ks.length≤10):OI (MU ks)=true:=by
 have hc:=fA h h0;have hsum:=VM (m:=7) (l:=ks) λk hk=>by have:=h k hk;lia
 unfold OI;rw[Bool.and_eq_true,decide_eq_true_eq];constructor
 ·rw[←Array.all_toList,List.all_eq_true];intro c hcm;rw[hc]at hcm;simpa using mC ks c hcm
 ·rw[←Array.length_toList,hc,aA ks h0];lia
theorem Qj{ks:List Nat}(h:∀k∈ks,k<8)(h0:ks≠[]):DY (MU ks)=JQ ks:=by
 unfold DY;rw[fA h h0,tR ks 0 0 [] h0];show(⟨0+B3 ks+(ks.length-1),0+(ks.length-1),ks.getLastD 0,HG [] ks.dropLast⟩:EM)=_;rw[Nat.zero_add,Nat.zero_add];rfl
theorem bQ{α β:Type}{f g:α→Option β}:∀{l:List α},(∀x∈l,f x=g x)→l.filterMap f=l.filterMap g
 |[],_=>rfl
 |x::l,h=>by
  rw[List.filterMap_cons,List.filterMap_cons,h x (.head _),bQ λy hy=>h y (.tail _ hy)]
theorem Pw{l r:List Nat}(hl0:l≠[])(hr0:r≠[])(hl:∀k∈l,k<8)(hr:∀k∈r,k<8)(hll:l.length≤10)(hrl:r.length≤10):
  HQ (JQ l) (JQ r) (nL (JQ l) (JQ r)+1)=HB l r (BV (l++r)+1):=by
 have hm:nL (JQ l) (JQ r)=BV (l++r):=by
  unfold nL;rw[fL hl0,fL hr0];clear hl hr hll hrl;have:∀l r:List Nat,Nat.max (BV l) (BV r)=BV (l++r):=by
   intro l r
   induction l with
   |nil=>exact Nat.max_eq_right (Nat.zero_le _)
   |cons a l ih=>
    show Nat.max (Nat.max a (BV l)) (BV r)=Nat.max a (BV (l++r));rw[←ih];simp only[RV];repeat' split
    all_goals lia
  exact this l r
 have hmx:BV (l++r)<8:=by
  rcases List.mem_append.mp (NT (l:=l++r) (by simp[hl0]))with h|h
  ·exact hl _ h
  ·exact hr _ h
 rw[hm];unfold HQ HB;refine bQ λts hts=>?_;rw[List.mem_range'_1]at hts;rw[tU hl0 (by lia) (λk hk=>by have:=hl k hk;lia) (by lia) (by lia),tU hr0 (by lia) (λk hk=>by have:=hr k hk;lia) (by lia) (by lia)]
def FA(g k:Nat):EM:=DY (BC g k 0)
noncomputable def cU(x:Str)(c:Nat):Bool:=match(seqIndex? (-1) x.length).bind (x.cps[·]?)with
 |some a=>a==c
 |none=>false
theorem Ho:(List.range 3).all (λg=>(List.range 8).all λk=>(List.range 5).all λc=>OI (BC g k c)&&(DY (BC g k c)==FA g k)&&cU (BC g k c) (97+c))=true:=by decide+kernel
theorem Hn:(List.range 3).all (λg=>(List.range 8).all λk=>decide ((FA g k).cnt.length≤501)&&(FA g k).cnt.all (λc=>decide (c≤500))&&decide ((FA g k).b≤500)&&decide ((FA g k).nt≤500)&&decide ((FA g k).nt=k))=true:=by decide+kernel
theorem Hl:(List.range 3).all (λg=>(List.range 8).all λk=>(List.range 8).all λj=>(SF (FA g k) (FA g j)==decide (k=j))&&(decide (k=j)||(UU (FA g k) (FA g j)==decide (k<j))))=true:=by decide+kernel
section
variable{g k j c b:Nat}{C:Addr}
theorem pS(hg:g<3)(hk:k<8)(hc:c<5):OI (BC g k c)=true∧DY (BC g k c)=FA g k∧cU (BC g k c) (97+c)=true:=by
 have:=List.all_eq_true.mp (List.all_eq_true.mp (List.all_eq_true.mp Ho g (List.mem_range.mpr hg)) k (List.mem_range.mpr hk)) c (List.mem_range.mpr hc);simp only[Bool.and_eq_true,beq_iff_eq]at this;exact⟨this.1.1,this.1.2,this.2⟩
theorem RO(hg:g<3)(hk:k<8):G4 (FA g k)∧(FA g k).nt=k:=by
 have:=List.all_eq_true.mp (List.all_eq_true.mp Hn g (List.mem_range.mpr hg)) k (List.mem_range.mpr hk);simp only[Bool.and_eq_true,decide_eq_true_eq,List.all_eq_true]at this;exact⟨⟨this.1.1.1.1,this.1.1.1.2,this.1.1.2,this.1.2⟩,this.2⟩
theorem pR(hg:g<3)(hk:k<8)(hj:j<8):SF (FA g k) (FA g j)=decide (k=j)∧(k≠j→UU (FA g k) (FA g j)=decide (k<j)):=by
 have:=List.all_eq_true.mp (List.all_eq_true.mp (List.all_eq_true.mp Hl g (List.mem_range.mpr hg)) k (List.mem_range.mpr hk)) j (List.mem_range.mpr hj);simp only[Bool.and_eq_true,beq_iff_eq,Bool.or_eq_true,decide_eq_true_eq]at this;exact⟨this.1,λh=>this.2.resolve_left h⟩
theorem dH(hg:g<3)(hk:k<8)(hc:c<5):IL C [.str (BC g k c)]=some (A9 C (BC g k c) (FA g k)):=by
 obtain⟨h1,h2,_⟩:=pS hg hk hc;rw[←h2];exact if_pos h1
theorem cV(hg:g<3)(hk:k<8)(hc:c<5):BL (.str (BC g k c)) (.int (-1))=some (.str (A' (97+c))):=by
 have h:=(pS hg hk hc).2.2;have e:BL (.str (BC g k c)) (.int (-1))=((seqIndex? (-1) (BC g k c).length).bind ((BC g k c).cps[·]?)).map λc=>.str ⟨#[c]⟩:=by
  exact(if_pos (c:=decide ((-1:Int).natAbs<1000000)=true) (e:=none) (by decide))
 rw[e];unfold cU at h;split at h
 ·rename_i a ha;rw[ha,show a=97+c by simpa using h];rfl
 ·cases h
theorem mY(i:Nat):O6 [.str (A' i)]=some (.int (i:Int)):=by
 rfl
def JA(C:Addr)(ds:List D):Option D:=if ds.length=4 then DB (YB C (IL C) (I7 C) (IK C)) (A4 (AX 6) [0,1,2,3] ds)else none
theorem qS:¬Str.ofString "equal"∈LT:=by decide
theorem Jg:¬Str.ofString "less"∈LT:=by decide
theorem Oz{κ:Nat}{rk:List Nat}(hg:g<3)(hk:k<8)(hj:j<8)(hb:b<rk.length)(hc:c<rk.length)(hr:rk.length≤5)(hκ:κ<3):
  JA C [.str (BC g k b),.str (BC g j c),.lst (vN rk),.int (κ:Int)]=some (.bool (OE κ k (rk.getD b 0) j (rk.getD c 0))):=by
 unfold JA;refine(if_pos (by rfl)).trans ?_;have e:A4 (AX 6) [0,1,2,3] [.str (BC g k b),.str (BC g j c),.lst (vN rk),.int (κ:Int)]=[.d (.str (BC g k b)),.d (.str (BC g j c)),.d (.lst (vN rk)),.d (.int (κ:Int)),.unset,.unset]:=rfl;rw[e];have hlast:∀(x4 x5:LV),DB YC [.d (.str (BC g k b)),.d (.str (BC g j c)),.d (.lst (vN rk)),.d (.int (κ:Int)),x4,x5]=some (.bool (decide (rk.getD b 0<rk.getD c 0))):=by
  intro x4 x5;unfold YC;refine MP (ρ':=[.d (.str (BC g k b)),.d (.str (BC g j c)),.d (.lst (vN rk)),.d (.int (κ:Int)),x4,x5]) ?_;unfold jN;have hm1: -(1:Int)= -1:=rfl;have hs:∀i:Nat,((97+i:Nat):Int)-97=(i:Int):= λi=>by lia
  have i1:=HJ (xs:=rk) (c:=b) hb (by lia);have i2:=HJ (xs:=rk) (c:=c) hc (by lia);rw[F9]at i1 i2;have hgt:Q7 (.int ((rk.getD c 0:Nat):Int)) (.int ((rk.getD b 0:Nat):Int))=some (decide (rk.getD b 0<rk.getD c 0)):=by
   rw[Bc];exact congrArg some (decide_eq_decide.mpr (by lia))
  simp! only[hm1,cV hg hk (show b<5 by lia),cV hg hj (show c<5 by lia),mY,hs,i1,i2,hgt]
 unfold YB;by_cases h0:κ=0
 ·subst h0;have s1:QL C (IL C) (I7 C) (IK C) [.d (.str (BC g k b)),.d (.str (BC g j c)),.d (.lst (vN rk)),.d (.int ((0:Nat):Int)),.unset,.unset]=some (.next,[.d (.str (BC g k b)),.d (.str (BC g j c)),.d (.lst (vN rk)),.d (.int ((0:Nat):Int)),.unset,.unset]):=by
   unfold QL;have h00:decide ((0:Int)<((0:Nat):Int))=false:=rfl;simp! only[h00];rw[if_neg (by simp)]
  rw[FY s1,hlast];have:OE 0 k (rk.getD b 0) j (rk.getD c 0)=decide (rk.getD b 0<rk.getD c 0):=if_neg (by lia);rw[this]
 ·obtain⟨R4,hR4⟩:∃R4,R4=[LV.d (.str (BC g k b)),.d (.str (BC g j c)),.d (.lst (vN rk)),.d (.int (κ:Int)),.d (A9 C (BC g j c) (FA g j)),.d (A9 C (BC g k b) (FA g k))]:=⟨_,rfl⟩;have hc5:c<5:=by lia
  have hb5:b<5:=by lia
  obtain⟨hsame,hless⟩:=pR hg hk hj;obtain⟨_,hless2⟩:=pR hg hj hk;have heq:=Cf (C:=C) (x:=BC g k b) (y:=BC g j c) (w:=FA g k) (v:=FA g j);rw[hsame]at heq;have hl1:=pV (C:=C) (x:=BC g k b) (y:=BC g j c) (RO hg hk).1 (RO hg hj).1;have hl2:=pV (C:=C) (x:=BC g j c) (y:=BC g k b) (RO hg hj).1 (RO hg hk).1;have h1:QL C (IL C) (I7 C) (IK C) [.d (.str (BC g k b)),.d (.str (BC g j c)),.d (.lst (vN rk)),.d (.int (κ:Int)),.unset,.unset]=some (if k=j then .next else .ret (.bool (if κ=1 then decide (k<j)else decide (j<k))),R4):=by
   unfold QL;simp! only[if_true];rw[if_pos (by simp;lia)];have hm1:=dH (C:=C) hg hk hb5;have hm2:=dH (C:=C) hg hj hc5;refine(A0 (ρ':=R4) ?_).trans ?_
   ·simp! only[hm1,hm2,hR4]
   subst hR4;by_cases ekj:k=j
   ·rw[if_pos ekj];rw[decide_eq_true ekj]at heq;refine(A0 (ρ':=_) ?_).trans (by rfl);unfold A9 at heq⊢;simp! only[qS,not_false_eq_true,and_self,heq];rfl
   ·rw[if_neg ekj];rw[decide_eq_false ekj]at heq;refine KZ ?_;rw[hless ekj]at hl1;rw[hless2 (Ne.symm ekj)]at hl2;unfold A9 at heq hl1 hl2⊢;simp! only[qS,not_false_eq_true,and_self,heq];rw[if_pos (by rfl)];refine KZ ?_;simp! only[Jg,not_false_eq_true,and_self];by_cases e1:κ=1
    ·rw[if_pos e1,if_pos (by simp;lia),hl1];rfl
    ·rw[if_neg e1,if_neg (by simp;lia),hl2];rfl
  by_cases ekj:k=j
  ·rw[if_pos ekj]at h1;rw[FY h1,hR4,hlast];have:OE κ k (rk.getD b 0) j (rk.getD c 0)=decide (rk.getD b 0<rk.getD c 0):=if_neg (by lia);rw[this]
  ·rw[if_neg ekj]at h1;rw[MP h1];have:OE κ k (rk.getD b 0) j (rk.getD c 0)=(if κ=1 then decide (k<j)else decide (j<k)):=if_pos ⟨by lia,ekj⟩;rw[this]
end
noncomputable def UZ(x y:Str):Bool:=(PySem.Builtin.Str.tooLong (Txt.lower x).length==false)&&(Txt.lower x==y)
theorem qA:(List.range 7).all (λi=>UZ (A' (97+i)) (A' (97+i))&&UZ (A' (65+i)) (A' (97+i)))=true:=by decide+kernel
theorem p9{x y:Str}(h:UZ x y=true):JH [.str x]=some (.str y):=by
 unfold UZ at h;rw[Bool.and_eq_true,beq_iff_eq,beq_iff_eq]at h;rw[←h.2];exact if_pos h.1
theorem qB{i:Nat}(h:i<7):JH [.str (A' (97+i))]=some (.str (A' (97+i))):=by
 have:=List.all_eq_true.mp qA i (List.mem_range.mpr h);rw[Bool.and_eq_true]at this;exact p9 this.1
theorem qC{i:Nat}(h:i<7):JH [.str (A' (65+i))]=some (.str (A' (97+i))):=by
 have:=List.all_eq_true.mp qA i (List.mem_range.mpr h);rw[Bool.and_eq_true]at this;exact p9 this.2
theorem U0{k i:Nat}(h:i<7):JH [.str (C4 k i)]=some (.str (A' (97+i))):=by
 unfold C4;split
 ·exact qB h
 ·exact qC h
theorem l7{i j:Nat}(h:A' i=A' j):i=j:=by
 unfold A' at h;simpa using h
theorem l6(i j:Nat):(A' i==A' j)=decide (i=j):=by
 by_cases e:i=j
 ·subst e;rw[decide_eq_true rfl,beq_self_eq_true]
 ·rw[decide_eq_false e,beq_eq_false_iff_ne];exact λh=>e (l7 h)
def RL(x:Str):Bool:=(List.range 7).any λi=>x==A' (97+i)||x==A' (65+i)
def cM(x:Str):Bool:=(List.range 3).any λg=>(List.range 6).any λk=>(List.range 5).any λc=>x==BC g k c
def ML(aN aV a:Addr)(x:Str):Bool:=(a==aN&&RL x)||(a==aV&&cM x)
theorem cO{i:Nat}(h:i<7):RL (A' (97+i))=true:=List.any_eq_true.mpr ⟨i,List.mem_range.mpr h,by rw[beq_self_eq_true];rfl⟩
theorem Fn{i:Nat}(h:i<7):RL (A' (65+i))=true:=List.any_eq_true.mpr ⟨i,List.mem_range.mpr h,by rw[beq_self_eq_true,Bool.or_true]⟩
theorem Fm{k i:Nat}(h:i<7):RL (C4 k i)=true:=by
 unfold C4;split
 ·exact cO h
 ·exact Fn h
theorem Fl{g k c:Nat}(hg:g<3)(hk:k<6)(hc:c<5):cM (BC g k c)=true:=
 List.any_eq_true.mpr ⟨g,List.mem_range.mpr hg,List.any_eq_true.mpr ⟨k,List.mem_range.mpr hk,List.any_eq_true.mpr ⟨c,List.mem_range.mpr hc,beq_self_eq_true _⟩⟩⟩
section
variable{aN aV C:Addr}
def K7(aN aV:Addr)(ds:List D)(e:D):Option D:=if ds.length=2 then DB (VY aN aV (ML aN aV)) (A4 (AX 4) [0,1,2] (ds++[e]))else none
theorem mI{o:D}{x:Str}{b:Bool}(h:ML aN aV (if b then aN else aV) x=true):K7 aN aV [o,.str x] (.bool b)=some (.str x):=by
 unfold K7;refine(if_pos (by rfl)).trans ?_;have e:A4 (AX 4) [0,1,2] ([o,.str x]++[.bool b])=[.d o,.d (.str x),.d (.bool b),.unset]:=rfl;rw[e];have hty:RB [.str x]=some (.ty "str"):=rfl;have his:F8 (.ty "str") (.ty "str")=some true:=by decide
 unfold VY;refine MP (ρ':=[.d o,.d (.str x),.d (.bool b),.d (.adr (if b then aN else aV))]) ?_;unfold fX;simp! only[hty,his];refine(A0 (ρ':=[.d o,.d (.str x),.d (.bool b),.d (.adr (if b then aN else aV))]) ?_).trans ?_
 ·simp! only[if_true];cases b<;>rfl
 refine(A0 (ρ':=[.d o,.d (.str x),.d (.bool b),.d (.adr (if b then aN else aV))]) ?_).trans (by rfl);simp! only[h];rfl
theorem aB{o:D}{x:Str}(h:RL x=true):K7 aN aV [o,.str x] (.bool true)=some (.str x):=
 mI (by unfold ML;rw[if_pos rfl,beq_self_eq_true,h];rfl)
theorem Ar{o:D}{x:Str}(h:cM x=true):K7 aN aV [o,.str x] (.bool false)=some (.str x):=
 mI (by unfold ML;rw[if_neg (by simp),beq_self_eq_true,h,Bool.and_true,Bool.or_true])
noncomputable def EI(C:Addr)(ds:List D):D:=.obj C [Str.ofString "_headers"] [.lst ds]
def BQ(g s st:Nat)(q:Nat→Nat)(tab:List (Nat×Nat)):List D:=tab.map (G9 g s st q)
structure QS(g s:Nat)(q:Nat→Nat)(tab:List (Nat×Nat)):Prop where
 hg:g<3
 hs:s=6∨s=7
 len:tab.length≤100
 at':∀e∈tab,e.1-q e.2<6∧e.2<5
variable{g s st:Nat}{q:Nat→Nat}
noncomputable def seek(s st sp:Nat)(tab:List (Nat×Nat)):Option (Nat×Nat):=tab.find? λe=>decide ((st+e.1)%s=sp)
theorem JM{s:Nat}(hs:s=6∨s=7)(p:Nat):p%s<7:=by
 have:=Nat.mod_lt p (show 0<s by lia);lia
def B1(C aN aV:Addr)(ds:List D):Option D:=if ds.length=2 then DB (V4 C (K7 aN aV)) (A4 (AX 5) [0,1,2] (ds++[.none]))else none
def PH(g:Nat)(q:Nat→Nat):Option (Nat×Nat)→D
 |some e=>.str (BC g (e.1-q e.2) e.2)
 |none=>.none
theorem oM(o:D){sp:Nat}(hsp:sp<7):∀(tab:List (Nat×Nat))(x3 x4:LV),QS g s q tab→∃y3 y4,B7 (λρ d=>Option.map (λds=>A4 ρ [3,4] ds) (D5 [3,4].length d)) SU (BQ g s st q tab) [.d o,.d (.str (A' (97+sp))),.d .none,x3,x4]=some (match seek s st sp tab with|some e=>.ret (PH g q (some e))|none=>.next,[.d o,.d (.str (A' (97+sp))),.d .none,y3,y4])
 |[],x3,x4,_=>⟨x3,x4,rfl⟩
 |e::tab,x3,x4,ok=>by
  have he:=ok.at' e (.head _);have hlow:=U0 (k:=e.1-q e.2) (JM ok.hs (st+e.1));have hb:SU [.d o,.d (.str (A' (97+sp))),.d .none,.d (.str (C4 (e.1-q e.2) ((st+e.1)%s))),.d (.str (BC g (e.1-q e.2) e.2))]=some (if(st+e.1)%s=sp then .ret (PH g q (some e))else .next,[.d o,.d (.str (A' (97+sp))),.d .none,.d (.str (C4 (e.1-q e.2) ((st+e.1)%s))),.d (.str (BC g (e.1-q e.2) e.2))]):=by
   have hs1:V5 [.d o,.d (.str (A' (97+sp))),.d .none,.d (.str (C4 (e.1-q e.2) ((st+e.1)%s))),.d (.str (BC g (e.1-q e.2) e.2))]=some (if(st+e.1)%s=sp then .ret (PH g q (some e))else .next,[.d o,.d (.str (A' (97+sp))),.d .none,.d (.str (C4 (e.1-q e.2) ((st+e.1)%s))),.d (.str (BC g (e.1-q e.2) e.2))]):=by
    unfold V5;have hi:isStr (.str (C4 (e.1-q e.2) ((st+e.1)%s)))=true:=rfl;simp! only[hi,hlow,l6];by_cases h:(st+e.1)%s=sp
    ·rw[if_pos h,if_pos (by simp;lia)];rfl
    ·rw[if_neg h,if_neg (by simp;lia)]
   unfold SU;by_cases h:(st+e.1)%s=sp
   ·rw[if_pos h]at hs1⊢;rw[KZ hs1]
   ·rw[if_neg h]at hs1⊢;rw[A0 hs1]
  have hp:(λρ d=>Option.map (λds=>A4 ρ [3,4] ds) (D5 [3,4].length d)) [.d o,.d (.str (A' (97+sp))),.d .none,x3,x4] (G9 g s st q e)=some [.d o,.d (.str (A' (97+sp))),.d .none,.d (.str (C4 (e.1-q e.2) ((st+e.1)%s))),.d (.str (BC g (e.1-q e.2) e.2))]:=rfl;by_cases h:(st+e.1)%s=sp
  ·rw[if_pos h]at hb;have hk:seek s st sp (e::tab)=some e:=by unfold seek;rw[List.find?_cons_of_pos (by simpa using h)]
   rw[hk];exact⟨_,_,oA hp hb⟩
  ·rw[if_neg h]at hb;have hk:seek s st sp (e::tab)=seek s st sp tab:=by unfold seek;rw[List.find?_cons_of_neg (by simpa using h)]
   rw[hk];obtain⟨y3,y4,hy⟩:=oM o hsp tab (.d (.str (C4 (e.1-q e.2) ((st+e.1)%s)))) (.d (.str (BC g (e.1-q e.2) e.2))) ⟨ok.hg,ok.hs,by have:=ok.len;rw[List.length_cons]at this;lia,λe he=>ok.at' e (.tail _ he)⟩;exact⟨y3,y4,by rw[←hy];exact GV hp hb⟩
theorem oQ{tab:List (Nat×Nat)}{sp:Nat}{nm:Str}(ok:QS g s q tab)(hsp:sp<7)(hnm:JH [.str nm]=some (.str (A' (97+sp)))):B1 C aN aV [EI C (BQ g s st q tab),.str nm]=some (PH g q (seek s st sp tab)):=by
 unfold B1;refine(if_pos (by rfl)).trans ?_;have e:A4 (AX 5) [0,1,2] ([EI C (BQ g s st q tab),.str nm]++[.none])=[.d (EI C (BQ g s st q tab)),.d (.str nm),.d .none,.unset,.unset]:=rfl;rw[e];unfold V4;have hc:=aB (aN:=aN) (aV:=aV) (o:=EI C (BQ g s st q tab)) (cO hsp);have hn:¬Str.ofString "_convert_string_type"∈[Str.ofString "_headers"]:=by decide
 have s1:V6 C (K7 aN aV) [.d (EI C (BQ g s st q tab)),.d (.str nm),.d .none,.unset,.unset]=some (.next,[.d (EI C (BQ g s st q tab)),.d (.str (A' (97+sp))),.d .none,.unset,.unset]):=by
  unfold V6;have hi:isStr (.str nm)=true:=rfl;unfold EI at hc⊢;simp! only[hn,not_false_eq_true,and_self,hi,hnm,hc]
 rw[FY s1];unfold gA;have ha:ES C (Str.ofString "_headers") (EI C (BQ g s st q tab))=some (.lst (BQ g s st q tab)):=OX (i:=0) (by decide) rfl;have hl:DQ (.lst (BQ g s st q tab))=some (BQ g s st q tab):=by
  exact if_pos (HP (by unfold BQ;rw[List.length_map];have:=ok.len;lia))
 obtain⟨y3,y4,hy⟩:=oM (st:=st) (EI C (BQ g s st q tab)) hsp tab .unset .unset ok;have s2:V7 C [.d (EI C (BQ g s st q tab)),.d (.str (A' (97+sp))),.d .none,.unset,.unset]=some (match seek s st sp tab with|some e=>.ret (PH g q (some e))|none=>.next,[.d (EI C (BQ g s st q tab)),.d (.str (A' (97+sp))),.d .none,y3,y4]):=by
  unfold V7;simp! only[ha,hl];exact hy
 cases hk:seek s st sp tab with
 |some e=>
  rw[hk]at s2;rw[MP s2]
 |none=>
  rw[hk]at s2;rw[FY s2];rfl
def C7(C:Addr)(ds:List D):Option D:=if ds.length=1 then DB (V9 C) (A4 (AX 1) [0] ds)else none
theorem Fv{tab:List (Nat×Nat)}(hl:tab.length≤100):C7 C [EI C (BQ g s st q tab)]=some (.lst (BQ g s st q tab)):=by
 unfold C7;refine(if_pos (by rfl)).trans ?_;have e:A4 (AX 1) [0] [EI C (BQ g s st q tab)]=[.d (EI C (BQ g s st q tab))]:=rfl;rw[e];unfold V9;refine MP (ρ':=[.d (EI C (BQ g s st q tab))]) ?_;unfold gH;have ha:ES C (Str.ofString "_headers") (EI C (BQ g s st q tab))=some (.lst (BQ g s st q tab)):=OX (i:=0) (by decide) rfl;have hc:aI (.lst (BQ g s st q tab))=some (.lst (BQ g s st q tab)):=by
  exact if_pos (HP (by unfold BQ;rw[List.length_map];lia))
 simp! only[ha,hc]
end
open Classical in
def PJ(F:PF)(N:Nat)(is:List Nat)(m:Nat)(C:Addr)(own ds kds:List D):Option (List D):=
 if h:∃own',ds.length=m∧∀l:Addr,∃ρ',F (A4 ((AX N).set 0 (.own (.hdr (some l) C) own)) is ds)=some (.next,ρ')∧ρ'[0]? =some (.own (.hdr (some l) C) own')then some h.choose else none
theorem p6{F:PF}{N:Nat}{is:List Nat}{m:Nat}{C:Addr}{own ds kds own':List D}(hl:ds.length=m)(h:∀l:Addr,∃ρ',F (A4 ((AX N).set 0 (.own (.hdr (some l) C) own)) is ds)=some (.next,ρ')∧ρ'[0]? =some (.own (.hdr (some l) C) own')):PJ F N is m C own ds kds=some own':=by
 have hx:∃own',ds.length=m∧∀l:Addr,∃ρ',F (A4 ((AX N).set 0 (.own (.hdr (some l) C) own)) is ds)=some (.next,ρ')∧ρ'[0]? =some (.own (.hdr (some l) C) own'):=⟨own',hl,h⟩;unfold PJ;rw[dif_pos hx];obtain⟨ρ1,a1,a2⟩:=hx.choose_spec.2 0;obtain⟨ρ2,b1,b2⟩:=h 0;rw[a1]at b1;cases b1;rw[a2]at b2;simp only[Option.some.injEq,LV.own.injEq]at b2;rw[b2.2]
theorem p7{F:PF}{N:Nat}{is:List Nat}{m:Nat}{C:Addr}{own ds kds own':List D}(h:PJ F N is m C own ds kds=some own'):ds.length=m∧∀l:Addr,∃ρ',F (A4 ((AX N).set 0 (.own (.hdr (some l) C) own)) is ds)=some (.next,ρ')∧ρ'[0]? =some (.own (.hdr (some l) C) own'):=by
 unfold PJ at h;split at h
 ·rename_i hx;cases h;exact hx.choose_spec
 ·cases h
section
variable{aN aV C:Addr}{g s st:Nat}{q:Nat→Nat}
def LD(C aN aV:Addr):List D→List D→List D→Option (List D):=PJ (V1 C (K7 aN aV)) 2 [1] 1 C
def FD(C aN aV:Addr):List D→List D→List D→Option (List D):=PJ (V' C (K7 aN aV) (LD C aN aV)) 3 [1,2] 2 C
noncomputable def FJ(s st sp:Nat)(tab:List (Nat×Nat)):List (Nat×Nat):=tab.filter λe=>decide ((st+e.1)%s≠sp)
theorem Bq{tab:List (Nat×Nat)}{sp:Nat}{nm:Str}(ok:QS g s q tab)(hsp:sp<7)(hnm:JH [.str nm]=some (.str (A' (97+sp))))(kds:List D):LD C aN aV (BQ g s st q tab) [.str nm] kds=some (BQ g s st q (FJ s st sp tab)):=by
 have hlen:=ok.len;refine p6 rfl λl=>⟨[.own (.hdr (some l) C) (BQ g s st q (FJ s st sp tab)),.d (.str (A' (97+sp)))],?_,rfl⟩;have e:A4 ((AX 2).set 0 (.own (.hdr (some l) C) (BQ g s st q tab))) [1] [.str nm]=[.own (.hdr (some l) C) (BQ g s st q tab),.d (.str nm)]:=rfl;rw[e];have hc:=aB (aN:=aN) (aV:=aV) (o:=.obj C [Str.ofString "_headers"] [.lst (BQ g s st q tab)]) (cO hsp);unfold V1;refine(A0 (ρ':=[.own (.hdr (some l) C) (BQ g s st q tab),.d (.str (A' (97+sp)))]) ?_).trans ?_
 ·unfold f8;have hi:isStr (.str nm)=true:=rfl;have hf:E9 (.str (A' (97+sp)))=true:=rfl;simp! only[hi,hnm,hc,hf]
 unfold f7;refine(A0 (ρ':=[.own (.hdr (some l) C) (BQ g s st q (FJ s st sp tab)),.d (.str (A' (97+sp)))]) ?_).trans (by rfl);unfold f9;have hl:DQ (.lst (BQ g s st q tab))=some (BQ g s st q tab):=by
  exact if_pos (HP (by unfold BQ;rw[List.length_map];lia))
 have hk:C0 [.own (.hdr (some l) C) (BQ g s st q tab),.d (.str (A' (97+sp)))] [(1,1)] (AX 2)=some [.unset,.d (.str (A' (97+sp)))]:=rfl;have hcf:B2 (BN (λρ d=>some (ρ.set 0 (LV.d d))) V3 V2 [.unset,.d (.str (A' (97+sp)))]) (BQ g s st q tab)=some (BQ g s st q (FJ s st sp tab)):=by
  unfold BQ FJ;refine T5 _ _ _ λx hx=>?_;have hlow:=U0 (k:=x.1-q x.2) (JM ok.hs (st+x.1));have hi0:BL (G9 g s st q x) (.int 0)=some (.str (C4 (x.1-q x.2) ((st+x.1)%s))):=rfl;have hi:isStr (.str (C4 (x.1-q x.2) ((st+x.1)%s)))=true:=rfl;have hne:(A' (97+(st+x.1)%s)!=A' (97+sp))=decide ((st+x.1)%s≠sp):=by
   rw[bne,l6];by_cases h:(st+x.1)%s=sp
   ·rw[decide_eq_true (show 97+(st+x.1)%s=97+sp by lia),decide_eq_false (by simpa using h)];rfl
   ·rw[decide_eq_false (show¬97+(st+x.1)%s=97+sp by lia),decide_eq_true h];rfl
  unfold BN V3 V2;simp! only[hi0,hi,hlow,hne];by_cases h:(st+x.1)%s=sp
  ·rw[decide_eq_false (by simpa using h)];rfl
  ·rw[decide_eq_true h];rfl
 have h1:(BQ g s st q tab).length≤100000:=by unfold BQ;rw[List.length_map];lia
 have h2:(BQ g s st q (FJ s st sp tab)).length≤100000:=by
  unfold BQ FJ;rw[List.length_map];have:=List.length_filter_le (λe=>decide ((st+e.1)%s≠sp)) tab;lia
 simp! only[hl,hk,hcf];exact if_pos ⟨trivial,h1,h2⟩
theorem My{tab:List (Nat×Nat)}{p c:Nat}(ok:QS g s q tab)(hk:p-q c<6)(hc:c<5)(kds:List D):FD C aN aV (BQ g s st q tab) [.str (C4 (p-q c) ((st+p)%s)),.str (BC g (p-q c) c)] kds=some (BQ g s st q (FJ s st ((st+p)%s) tab++[(p,c)])):=by
 have hlen:=ok.len;have hsp:=JM ok.hs (st+p);have hd:=Bq (C:=C) (aN:=aN) (aV:=aV) (st:=st) ok hsp (U0 (k:=p-q c) hsp) [];refine p6 rfl λl=>⟨[.own (.hdr (some l) C) (BQ g s st q (FJ s st ((st+p)%s) tab++[(p,c)])),.d (.str (C4 (p-q c) ((st+p)%s))),.d (.str (BC g (p-q c) c))],?_,rfl⟩;have e:A4 ((AX 3).set 0 (.own (.hdr (some l) C) (BQ g s st q tab))) [1,2] [.str (C4 (p-q c) ((st+p)%s)),.str (BC g (p-q c) c)]=[.own (.hdr (some l) C) (BQ g s st q tab),.d (.str (C4 (p-q c) ((st+p)%s))),.d (.str (BC g (p-q c) c))]:=rfl;rw[e];obtain⟨T',hT'⟩:∃T',T'=BQ g s st q (FJ s st ((st+p)%s) tab):=⟨_,rfl⟩;rw[←hT']at hd;have hTl:T'.length≤1000:=by
  rw[hT'];unfold BQ FJ;rw[List.length_map];have:=List.length_filter_le (λe=>decide ((st+e.1)%s≠(st+p)%s)) tab;lia
 have hT2:BQ g s st q (FJ s st ((st+p)%s) tab++[(p,c)])=T'++[.tup [.str (C4 (p-q c) ((st+p)%s)),.str (BC g (p-q c) c)]]:=by
  rw[hT'];unfold BQ;rw[List.map_append];rfl
 rw[hT2];have hc1:=aB (aN:=aN) (aV:=aV) (o:=.obj C [Str.ofString "_headers"] [.lst T']) (Fm (k:=p-q c) hsp);have hc2:=Ar (aN:=aN) (aV:=aV) (o:=.obj C [Str.ofString "_headers"] [.lst T']) (Fl ok.hg hk hc);unfold V';refine(A0 (ρ':=[.own (.hdr (some l) C) T',.d (.str (C4 (p-q c) ((st+p)%s))),.d (.str (BC g (p-q c) c))]) ?_).trans ?_
 ·unfold gJ;simp! only[hd]
 unfold gI;refine(A0 (ρ':=[.own (.hdr (some l) C) (T'++[.tup [.str (C4 (p-q c) ((st+p)%s)),.str (BC g (p-q c) c)]]),.d (.str (C4 (p-q c) ((st+p)%s))),.d (.str (BC g (p-q c) c))]) ?_).trans (by rfl);unfold gK;have hf1:∀x:Str,E9 (.str x)=true:= λV=>rfl;simp! only[hc1,hc2,hf1,M6 hTl]
def kL(C:Addr):List D→Option D
 |[]=>some (EI C [])
 |_=>none
theorem Ex(C l:Addr):∃ρ',V8 C (A4 ((AX 4).set 0 (.own (.ins (some l) C []) [])) [1] [.none])=some (.next,ρ')∧ρ'[0]? =some (.own (.ins (some l) C [Str.ofString "_headers"]) [.lst []]):=by
 refine⟨[.own (.ins (some l) C [Str.ofString "_headers"]) [.lst []],.d (.lst []),.unset,.unset],?_,rfl⟩;have e:A4 ((AX 4).set 0 (.own (.ins (some l) C []) [])) [1] [.none]=[.own (.ins (some l) C []) [],.d .none,.unset,.unset]:=rfl;rw[e];unfold V8;refine(A0 (ρ':=[.own (.ins (some l) C []) [],.d (.lst []),.unset,.unset]) ?_).trans ?_
 ·unfold gE;simp! only[if_true];rfl
 unfold gB;refine(A0 (ρ':=[.own (.ins (some l) C []) [],.d (.lst []),.unset,.unset]) ?_).trans ?_
 ·unfold gF;have hty:RB [.lst []]=some (.ty "list"):=rfl;have his:F8 (.ty "list") (.ty "list")=some true:=by decide
  simp! only[hty,his];rfl
 unfold gC;refine(A0 (ρ':=[.own (.ins (some l) C [Str.ofString "_headers"]) [.lst []],.d (.lst []),.unset,.unset]) ?_).trans ?_
 ·unfold gG;simp! only[if_true];rw[if_pos ⟨trivial,by simp,by decide⟩];rfl
 unfold gD;refine(A0 (ρ':=[.own (.ins (some l) C [Str.ofString "_headers"]) [.lst []],.d (.lst []),.unset,.unset]) ?_).trans (by rfl);rfl
end
theorem Au:(List.range 3).all (λg=>(List.range 8).all λk=>(List.range 5).all λc=>(Txt.count (BC g k c) (Str.ofString "\t")==k)&&(BC g 0 c==A' (97+c)))=true:=by decide+kernel
theorem aC{g k c:Nat}(hg:g<3)(hk:k<8)(hc:c<5):Q6 [.str (BC g k c),.str "\t"]=some (.int (k:Int))∧BC g 0 c=A' (97+c):=by
 have:=List.all_eq_true.mp (List.all_eq_true.mp (List.all_eq_true.mp Au g (List.mem_range.mpr hg)) k (List.mem_range.mpr hk)) c (List.mem_range.mpr hc);simp only[Bool.and_eq_true,beq_iff_eq]at this;refine⟨?_,this.2⟩;have h:=this.1;show some (D.int (Txt.count (BC g k c) (Str.ofString "\t")))=_;rw[h]
section
variable{aN aV C W':Addr}{s st n g:Nat}{ws rk:List Nat}
def C1(C:Addr)(s st g κ:Nat)(ws rk:List Nat)(x5 x6 x7 x8 x9:LV)(tab:List (Nat×Nat)):List LV:=[.d (.lst (vN ws)),.d (.lst (vN rk)),.d (.int (κ:Int)),.d (.str (D' g)),.d (.int (s:Int)),x5,x6,x7,x8,x9,.own (.hdr none C) (BQ g s st (qW s st ws) tab)]
structure DR(s:Nat)(tab:List (Nat×Nat))(T:Nat→Option Nat):Prop where
 nd:tab.Nodup
 iff:∀p c,(p,c)∈tab↔0<p∧p<s∧T p=some c
theorem RW{α β:Type}{f:α→β}:∀{l:List α},l.Nodup→(∀a∈l,∀b∈l,f a=f b→a=b)→(l.map f).Nodup
 |[],_,_=>.nil
 |a::l,h,hf=>by
  rw[List.nodup_cons]at h;rw[List.map_cons,List.nodup_cons];refine⟨λhm=>?_,RW h.2 λx hx y hy=>hf x (.tail _ hx) y (.tail _ hy)⟩;obtain⟨b,hb,e⟩:=List.mem_map.mp hm;have:=hf a (.head _) b (.tail _ hb) e.symm;exact h.1 (this▸hb)
theorem DR.len{tab:List (Nat×Nat)}{T:Nat→Option Nat}(h:DR s tab T):tab.length≤s:=by
 have h1:(tab.map (·.1)).Nodup:=by
  refine RW h.nd ?_;rintro⟨p,c⟩ ha ⟨p',c'⟩ hb e;have e:p=p':=e;subst e;have h1:=((h.iff p c).mp ha).2.2;have h2:=((h.iff p c').mp hb).2.2;rw[h1]at h2;cases h2;rfl
 have h2:=U6 (M:=List.range s) h1 λp hp=>by
  obtain⟨⟨p',c⟩,hm,rfl⟩:=List.mem_map.mp hp;exact List.mem_range.mpr ((h.iff p' c).mp hm).2.1
 rwa [List.length_map,List.length_range]at h2
theorem P4{st p p':Nat}(hst:st<s)(hp:p<s)(hp':p'<s)(h:(st+p)%s=(st+p')%s):p=p':=by
 rw[←PZ hst hp,←PZ hst hp',h]
theorem DR.seek{tab:List (Nat×Nat)}{T:Nat→Option Nat}(h:DR s tab T)(hst:st<s){p:Nat}(h0:0<p)(hp:p<s):seek s st ((st+p)%s) tab=(T p).map λc=>(p,c):=by
 unfold Mine.seek;cases hT:T p with
 |none=>
  rw[Option.map_none,List.find?_eq_none];rintro⟨p',c⟩ hm hd;have hd:(st+p')%s=(st+p)%s:=by simpa using hd
  have h1:=(h.iff p' c).mp hm;rw[P4 hst h1.2.1 hp hd,hT]at h1;cases h1.2.2
 |some c=>
  rw[Option.map_some];have hm:(p,c)∈tab:=(h.iff p c).mpr ⟨h0,hp,hT⟩;cases hf:tab.find? λe=>decide ((st+e.1)%s=(st+p)%s)with
  |none=>
   rw[List.find?_eq_none]at hf;exact absurd (by simp) (hf (p,c) hm)
  |some e=>
   obtain⟨p',c'⟩:=e;have h1:=List.find?_some hf;have h2:=(h.iff p' c').mp (List.mem_of_find?_eq_some hf);have h1:(st+p')%s=(st+p)%s:=by simpa using h1
   have e:=P4 hst h2.2.1 hp h1;subst e;rw[hT]at h2;cases h2.2.2;rfl
theorem DR.put{tab:List (Nat×Nat)}{T:Nat→Option Nat}(h:DR s tab T)(hst:st<s){p y:Nat}(h0:0<p)(hp:p<s):DR s (FJ s st ((st+p)%s) tab++[(p,y)]) (IB T p y):=by
 have hmem:∀p' c,(p',c)∈FJ s st ((st+p)%s) tab↔(p',c)∈tab∧p'≠p:=by
  intro p' c;unfold FJ;rw[List.mem_filter];constructor
  ·rintro⟨h1,h2⟩;refine⟨h1,?_⟩;rintro rfl;simp at h2
  ·rintro⟨h1,h2⟩;refine⟨h1,?_⟩;simp only[ne_eq,decide_eq_true_eq];intro e;exact h2 (P4 hst ((h.iff p' c).mp h1).2.1 hp e)
 constructor
 ·refine List.nodup_append.mpr ⟨h.nd.filter _,by simp,?_⟩;rintro⟨p',c⟩ h1 e h2 rfl;have:=List.mem_singleton.mp h2;cases this;exact((hmem _ _).mp h1).2 rfl
 ·intro p' c;rw[List.mem_append,hmem,List.mem_singleton];unfold IB;constructor
  ·rintro(⟨h1,h2⟩|h1)
   ·rw[if_neg h2];exact(h.iff p' c).mp h1
   ·cases h1;exact⟨h0,hp,if_pos rfl⟩
  ·rintro⟨h1,h2,h3⟩;by_cases e:p'=p
   ·rw[if_pos e]at h3;cases h3;right;rw[e]
   ·rw[if_neg e]at h3;left;exact⟨(h.iff p' c).mpr ⟨h1,h2,h3⟩,e⟩
def Rh(W':Addr):=JA W'
variable(O:B5 s st n g ws rk){κ:Nat}(hκ:κ<3)
include O in
theorem B5.tabOk{tab:List (Nat×Nat)}{T:Nat→Option Nat}(h:DR s tab T)(hT:∀p c,T p=some c→c<n):QS g s (qW s st ws) tab where
 hg:=O.hg
 hs:=O.hs
 len:=by have:=h.len;have:=O.s6;lia
 at':=by
  rintro⟨p,c⟩ hm;have h1:=(h.iff p c).mp hm;have h2:=hT p c h1.2.2;have h3:=O.q0 h2;have:=O.s6;have:=O.n4;refine⟨?_,?_⟩
  ·show p-qW s st ws c<6;lia
  ·show c<5;lia
def ld(g s st:Nat)(ws:List Nat)(p c:Nat):D:=.str (BC g (p-qW s st ws c) c)
noncomputable def DW(s st p:Nat):D:=.int (((st+p)%s:Nat):Int)
include O in
theorem Ka{tab:List (Nat×Nat)}{T:Nat→Option Nat}(h:DR s tab T)(hT:∀p c,T p=some c→c<n){p:Nat}(h0:0<p)(hp:p<s)(x5 x6 x8 x9:LV):
  X3 C (B1 C aN aV) (C1 C s st g κ ws rk x5 x6 (.d (DW s st p)) x8 x9 tab)=some (.next,C1 C s st g κ ws rk x5 x6 (.d (DW s st p)) (.d (match T p with|some b=>ld g s st ws p b|none=>.none)) x9 tab):=by
 have hs:=O.s6;have hsp:=JM O.hs (st+p);have hg:=oQ (C:=C) (aN:=aN) (aV:=aV) (st:=st) (O.tabOk h hT) hsp (qB hsp);rw[h.seek O.hst h0 hp]at hg;have hch:G5 [.int ((97+(st+p)%s:Nat):Int)]=some (.str (A' (97+(st+p)%s))):=O2 (by lia);have ha:(97:Int)+(((st+p)%s:Nat):Int)=((97+(st+p)%s:Nat):Int):=rfl;have hlo:PH g (qW s st ws) ((T p).map λc=>(p,c))=(match T p with|some b=>ld g s st ws p b|none=>.none):=by
  cases T p<;>rfl
 rw[hlo]at hg;have hf:E9 (match T p with|some b=>ld g s st ws p b|none=>.none)=true:=by cases T p<;>rfl
 unfold X3 C1 DW;unfold EI at hg;simp! only[ha,hch,hg,hf]
include O in
theorem rB{tab:List (Nat×Nat)}{T:Nat→Option Nat}(h:DR s tab T)(hT:∀p c,T p=some c→c<n){p y:Nat}(h0:0<p)(hp:p<s)(hy:y<n)(hq:qW s st ws y≤p)(x5 x8 x9:LV)(d8:D)(hx8:x8=.d d8):
  AG (λρ=>
                 (AD 6 ρ).bind λd=>
                  ((((((((AM 6 ρ).bind λr=>
                                 if Mine.isStr r=true then
                                  ((some (D.str "\t")).bind λa=>
                                     (some []).bind λl=>some (a::l)).bind
                                   λl=>Q6 (r::l)
                                 else none).bind
                               λa=>(some (D.int 2)).bind λb=>CZ a b).bind
                             HH).bind
                           λc=>if c=true then some (D.int 65)else some (D.int 97)).bind
                         λa=>(AD 7 ρ).bind λb=>BW a b).bind
                       λa=>(some []).bind λl=>some (a::l)).bind
                     G5).bind
                   λk=>
                   match ρ[10]? with
                   |some (LV.own (BE.hdr p C') ds)=>
                    if C'=C then Option.map (λds'=>(AC.next,ρ.set 10 (LV.own (BE.hdr p C') ds'))) (FD C aN aV ds [k,d] [])else none
                   |x=>none)
                (AG (λρ=>Option.map (λd=>(AC.next,ρ.set 6 (LV.d d))) (AD 8 ρ)) λρ=>some (AC.next,ρ)) (C1 C s st g κ ws rk x5 (.d (ld g s st ws p y)) (.d (DW s st p)) x8 x9 tab)=some (.next,C1 C s st g κ ws rk x5 x8 (.d (DW s st p)) x8 x9 (FJ s st ((st+p)%s) tab++[(p,y)])):=by
 have hs:=O.s6;have hn:=O.n4;have hsp:=JM O.hs (st+p);have hq0:=O.q0 hy;obtain⟨k,hk⟩:∃k,k=p-qW s st ws y:=⟨_,rfl⟩;have hk6:k<6:=by lia
 have hset:=My (C:=C) (aN:=aN) (aV:=aV) (st:=st) (p:=p) (c:=y) (O.tabOk h hT) (by lia) (by lia) [];have hcnt:=(aC (k:=k) (c:=y) O.hg (by lia) (by lia)).1;obtain⟨sp,hspe⟩:∃sp,sp=(st+p)%s:=⟨_,rfl⟩;rw[←hspe]at hsp hset;rw[←hk]at hset;have hm2:CZ (.int (k:Int)) (.int 2)=some (.int ((k%2:Nat):Int)):=O4 k 2 (by lia);have hch2:((if(((k%2:Nat):Int)!=0)=true then some (D.int 65)else some (D.int 97)).bind λa=>BW a (D.int (sp:Int)))=some (.int (((if k%2=0 then 97 else 65)+sp:Nat):Int)):=by
  have:k%2=0∨k%2=1:=by lia
  rcases this with h|h<;>rw[h]<;>rfl
 have hch3:G5 [.int (((if k%2=0 then 97 else 65)+sp:Nat):Int)]=some (.str (C4 k sp)):=O2 (by split<;>lia);have hi:isStr (.str (BC g k y))=true:=rfl;subst hx8;refine(A0 (ρ':=C1 C s st g κ ws rk x5 (.d (ld g s st ws p y)) (.d (DW s st p)) (.d d8) x9 (FJ s st ((st+p)%s) tab++[(p,y)])) ?_).trans ?_
 ·unfold C1 ld DW;rw[←hspe,←hk];simp! only[hi,hcnt,hm2,hch2,hch3,hset]
 ·rfl
end
section
variable{aN aV C W':Addr}{s st n g:Nat}{ws rk:List Nat}(O:B5 s st n g ws rk){κ:Nat}(hκ:κ<3)
theorem aO(p c:Nat):F8 (ld g s st ws p c) .none=some false:=rfl
include O hκ in
theorem Kb{p y b:Nat}(hp:p<s)(hy:y<n)(hb:b<n)(hqy:qW s st ws y≤p)(hqb:qW s st ws b≤p):
  JA W' [ld g s st ws p b,ld g s st ws p y,.lst (vN rk),.int (κ:Int)]=some (.bool (bt κ (qW s st ws) (rW rk) p b y)):=by
 have hs:=O.s6;have hn:=O.n4;have hlr:=O.lr;exact Oz O.hg (by have:=(O.q0 hb).1;lia) (by have:=(O.q0 hy).1;lia) (by lia) (by lia) (by lia) hκ
include O in
theorem rC{tab:List (Nat×Nat)}{p z:Nat}(hp:p+1<s+1)(hz:z<n)(hq:qW s st ws z≤p)(x5 x8 x9:LV):
  S8 (C1 C s st g κ ws rk x5 (.d (ld g s st ws p z)) (.d (DW s st p)) x8 x9 tab)=some (.next,C1 C s st g κ ws rk x5 (.d (ld g s st ws (p+1) z)) (.d (DW s st (p+1))) x8 x9 tab):=by
 have hs:=O.s6;have hn:=O.n4;have hq0:=O.q0 hz;have hk:p-qW s st ws z<8:=by lia
 have hz5:z<5:=by lia
 have hld:ld g s st ws (p+1) z=.str (BC g (p-qW s st ws z+1) z):=by
  unfold ld;rw[show p+1-qW s st ws z=p-qW s st ws z+1 by lia]
 have hsp:DW s st (p+1)=.int ((((st+p)%s+1)%s:Nat):Int):=by
  unfold DW;rw[show st+(p+1)=st+p+1 by lia,Nat.mod_add_mod]
 unfold S8;refine(A0 (ρ':=C1 C s st g κ ws rk x5 (.d (ld g s st ws p z)) (.d (DW s st p)) x8 x9 tab) ?_).trans ?_
 ·unfold i8 C1;simp! only[aO];rfl
 unfold i7;refine(A0 (ρ':=C1 C s st g κ ws rk x5 (.d (ld g s st ws (p+1) z)) (.d (DW s st (p+1))) x8 x9 tab) ?_).trans (by rfl);rw[hld,hsp];unfold i9 C1 ld DW;have ha:(((st+p)%s:Nat):Int)+1=(((st+p)%s+1:Nat):Int):=rfl;simp! only[mO O.hg,Ax O.hg hk hz5,ha,O4 _ s (show s≠0 by lia)]
include O hκ in
theorem Jy{tab:List (Nat×Nat)}{T:Nat→Option Nat}(h:DR s tab T)(hT:∀p c,T p=some c→c<n){p y:Nat}(h0:0<p)(hp:p<s)(hy:y<n)(hqy:qW s st ws y≤p)(hTq:∀b,T p=some b→qW s st ws b≤p)(x5 x8 x9:LV):
  S7 C (FD C aN aV) (B1 C aN aV) (JA W') (C1 C s st g κ ws rk x5 (.d (ld g s st ws p y)) (.d (DW s st p)) x8 x9 tab)=some (match T p with
   |none=>(.brk,C1 C s st g κ ws rk x5 (.d .none) (.d (DW s st p)) (.d .none) x9 (FJ s st ((st+p)%s) tab++[(p,y)]))
   |some b=>(.next,C1 C s st g κ ws rk x5 (.d (ld g s st ws (p+1) (if bt κ (qW s st ws) (rW rk) p b y=true then b else y))) (.d (DW s st (p+1))) (.d (ld g s st ws p b)) x9 (if bt κ (qW s st ws) (rW rk) p b y=true then FJ s st ((st+p)%s) tab++[(p,y)]else tab))):=by
 unfold S7;refine(A0 (Ka O h hT h0 hp x5 _ x8 x9)).trans ?_;unfold i6;cases hTp:T p with
 |none=>
  have hput:=rB (C:=C) (aN:=aN) (aV:=aV) (κ:=κ) O h hT h0 hp hy hqy x5 (.d .none) x9 .none rfl;refine(A0 (ρ':=C1 C s st g κ ws rk x5 (.d .none) (.d (DW s st p)) (.d .none) x9 (FJ s st ((st+p)%s) tab++[(p,y)])) ?_).trans ?_
  ·unfold S9;have g8:AM 8 (C1 C s st g κ ws rk x5 (.d (ld g s st ws p y)) (.d (DW s st p)) (.d .none) x9 tab)=some .none:=rfl;simp only[g8,Option.bind_some,CC,CF,CG,CH,CB,CJ,mQ,if_true];exact hput
  ·unfold S8;refine eJ ?_;rfl
 |some b=>
  have hb:=hT p b hTp;have hqb:=hTq b hTp;have htk:=Kb (W':=W') O hκ hp hy hb hqy hqb;have hput:=rB (C:=C) (aN:=aN) (aV:=aV) (κ:=κ) O h hT h0 hp hy hqy x5 (.d (ld g s st ws p b)) x9 (ld g s st ws p b) rfl;have g8:AM 8 (C1 C s st g κ ws rk x5 (.d (ld g s st ws p y)) (.d (DW s st p)) (.d (ld g s st ws p b)) x9 tab)=some (ld g s st ws p b):=rfl;have d8:AD 8 (C1 C s st g κ ws rk x5 (.d (ld g s st ws p y)) (.d (DW s st p)) (.d (ld g s st ws p b)) x9 tab)=some (ld g s st ws p b):=rfl;have d6:AD 6 (C1 C s st g κ ws rk x5 (.d (ld g s st ws p y)) (.d (DW s st p)) (.d (ld g s st ws p b)) x9 tab)=some (ld g s st ws p y):=rfl;have d1:AD 1 (C1 C s st g κ ws rk x5 (.d (ld g s st ws p y)) (.d (DW s st p)) (.d (ld g s st ws p b)) x9 tab)=some (.lst (vN rk)):=rfl;have d2:AD 2 (C1 C s st g κ ws rk x5 (.d (ld g s st ws p y)) (.d (DW s st p)) (.d (ld g s st ws p b)) x9 tab)=some (.int (κ:Int)):=rfl;have hF:(false=true)=False:=by simp
  dsimp only;cases hbt:bt κ (qW s st ws) (rW rk) p b y with
  |true=>
   rw[hbt]at htk;refine(A0 (ρ':=C1 C s st g κ ws rk x5 (.d (ld g s st ws p b)) (.d (DW s st p)) (.d (ld g s st ws p b)) x9 (FJ s st ((st+p)%s) tab++[(p,y)])) ?_).trans ?_
   ·unfold S9;simp only[g8,d8,d6,d1,d2,Option.bind_some,CC,CF,CG,CH,CB,CJ,aO,hF,if_false,htk,m0,if_true];exact hput
   ·simp only[if_true];exact rC O (by lia) hb hqb x5 _ x9
  |false=>
   rw[hbt]at htk;refine(A0 (ρ':=C1 C s st g κ ws rk x5 (.d (ld g s st ws p y)) (.d (DW s st p)) (.d (ld g s st ws p b)) x9 tab) ?_).trans ?_
   ·unfold S9;simp only[g8,d8,d6,d1,d2,Option.bind_some,CC,CF,CG,CH,CB,CJ,aO,hF,if_false,htk,m0,if_true]
   ·simp only[hF,if_false];exact rC O (by lia) hy hqy x5 _ x9
noncomputable def Wr:Nat→List Nat
 |0=>[]
 |k+1=>k::Wr k
theorem ZG:∀k,(Wr k).Perm (List.range k)
 |0=>.refl _
 |k+1=>by
  rw[List.range_succ];exact((ZG k).cons k).trans (List.perm_append_singleton k _).symm
theorem lB{k:Nat}(h:k≤n):EL n (Wr k):=by
 refine⟨List.range' k (n-k),?_⟩;have h1:List.range n=List.range k++List.range' k (n-k):=by
  rw[List.range_eq_range',List.range_eq_range'];have:=List.range'_append_1 (s:=0) (m:=k) (n:=n-k);rw[Nat.zero_add,show k+(n-k)=n by lia]at this;exact this.symm
 rw[h1];exact(ZG k).append_right _
include O in
theorem c6{W:List Nat}(hW:EL n W){p c:Nat}(h:BB κ (qW s st ws) (rW rk) W p=some c):c<n:=hW.lt c (N0 (O.parted hW) h).2.2.2.1
include O hκ in
theorem d5{x:Nat}{W:List Nat}(hW:EL n (x::W))(x5:LV):∀(steps:List Nat)(p y:Nat)(T:Nat→Option Nat)(tab:List (Nat×Nat))(x8 x9:LV),s≤p+steps.length→qW s st ws x≤p→I6 κ (qW s st ws) (rW rk) (s-1) W (x::W) p y T→DR s tab T→
  ∃x6 x7 x8' x9' tab',B7 (λρ d=>some (ρ.set 9 (LV.d d))) (S7 C (FD C aN aV) (B1 C aN aV) (JA W')) (vN steps) (C1 C s st g κ ws rk x5 (.d (ld g s st ws p y)) (.d (DW s st p)) x8 x9 tab)=some (.next,C1 C s st g κ ws rk x5 x6 x7 x8' x9' tab')∧DR s tab' (BB κ (qW s st ws) (rW rk) (x::W))
 |[],p,y,T,tab,x8,x9,hl,hx,D,h=>by
  have:=D.2.1;have:=O.s6;rw[List.length_nil]at hl;lia
 |a::steps,p,y,T,tab,x8,x9,hl,hx,D,h=>by
  have hs:=O.s6;have hp:p<s:=by have:=D.2.1;lia
  have hWt:EL n W:=by
   obtain⟨R,hR⟩:=hW;exact⟨x::R,(List.perm_middle).trans hR⟩
  have hyw:=Bv D;have hy:y<n:=hW.lt y hyw.1;have hTn:∀p' c,T p'=some c→c<n:=by
   intro p' c hc;rw[D.2.2.2 p']at hc;split at hc
   ·exact c6 O hW hc
   ·exact c6 O hWt hc
  have hTq:∀b,T p=some b→qW s st ws b≤p:= λb hb=>(nC (O.parted hWt) D hb).2.1;have hb:=Jy (C:=C) (aN:=aN) (aV:=aV) (W':=W') O hκ h hTn D.1 hp hy hyw.2.1 hTq x5 x8 (.d (.int (a:Int)));cases hTp:T p with
  |none=>
   rw[hTp]at hb;have hrep:=h.put (y:=y) O.hst D.1 hp;rw[funext (bF hx D hTp)]at hrep;exact⟨_,_,_,_,_,n9 rfl hb,hrep⟩
  |some b=>
   rw[hTp]at hb;dsimp only at hb;have hst:=bG hx hW.nodup (O.parted hW) (O.done hW) D hTp;cases hbt:bt κ (qW s st ws) (rW rk) p b y with
   |true=>
    rw[hbt]at hb hst;simp only[if_true]at hb hst;obtain⟨x6,x7,x8',x9',tab',e1,e2⟩:=d5 hW x5 steps (p+1) b _ _ (.d (ld g s st ws p b)) (.d (.int (a:Int))) (by rw[List.length_cons]at hl;lia) (by lia) hst (h.put O.hst D.1 hp);exact⟨x6,x7,x8',x9',tab',by rw[←e1];exact GV rfl hb,e2⟩
   |false=>
    rw[hbt]at hb hst;have hF:(false=true)=False:=by simp
    simp only[hF,if_false]at hb hst;obtain⟨x6,x7,x8',x9',tab',e1,e2⟩:=d5 hW x5 steps (p+1) y _ _ (.d (ld g s st ws p b)) (.d (.int (a:Int))) (by rw[List.length_cons]at hl;lia) (by lia) hst h;exact⟨x6,x7,x8',x9',tab',by rw[←e1];exact GV rfl hb,e2⟩
include O hκ in
theorem Jz{k:Nat}(hk:k<n){tab:List (Nat×Nat)}(h:DR s tab (BB κ (qW s st ws) (rW rk) (Wr k)))(x6 x7 x8 x9:LV):
  ∃y6 y7 y8 y9 tab',TA C (FD C aN aV) (B1 C aN aV) (JA W') (C1 C s st g κ ws rk (.d (.int (k:Int))) x6 x7 x8 x9 tab)=some (.next,C1 C s st g κ ws rk (.d (.int (k:Int))) y6 y7 y8 y9 tab')∧DR s tab' (BB κ (qW s st ws) (rW rk) (Wr (k+1))):=by
 have hs:=O.s6;have hn:=O.n4;have hst:=O.hst;have hq:=O.q0 hk;have hwk:=O.wish hk;have hD:I6 κ (qW s st ws) (rW rk) (s-1) (Wr k) (k::Wr k) (qW s st ws k) k (BB κ (qW s st ws) (rW rk) (Wr k)):=nD hq.1 (by lia);have hld:ld g s st ws (qW s st ws k) k=.str (A' (97+k)):=by
  unfold ld;rw[Nat.sub_self,(aC (k:=0) (c:=k) O.hg (by lia) (by lia)).2]
 have hsp:DW s st (qW s st ws k)=.int ((ws.getD k 0:Nat):Int):=by
  unfold DW;rw[show(st+qW s st ws k)%s=ws.getD k 0 from P5 O.hst hwk.1]
 obtain⟨y6,y7,y8,y9,tab',e1,e2⟩:=d5 (C:=C) (aN:=aN) (aV:=aV) (W':=W') O hκ (lB (k:=k+1) (by lia)) (.d (.int (k:Int))) (List.range s) (qW s st ws k) k _ tab x8 x9 (by rw[List.length_range];lia) (Nat.le_refl _) hD h;refine⟨y6,y7,y8,y9,tab',?_,e2⟩;unfold TA;refine(A0 (ρ':=C1 C s st g κ ws rk (.d (.int (k:Int))) (.d (ld g s st ws (qW s st ws k) k)) (.d (DW s st (qW s st ws k))) x8 x9 tab) ?_).trans ?_
 ·rw[hld,hsp];unfold jB C1;have h97:(97:Int)+(k:Int)=((97+k:Nat):Int):=rfl;have hch:G5 [.int ((97+k:Nat):Int)]=some (.str (A' (97+k))):=O2 (by lia);simp! only[h97,hch,HJ (by rw[O.lw];exact hk) O.lenw.1]
 unfold jA;refine(A0 (ρ':=C1 C s st g κ ws rk (.d (.int (k:Int))) y6 y7 y8 y9 tab') ?_).trans (by rfl);unfold jC;have g4:AD 4 (C1 C s st g κ ws rk (.d (.int (k:Int))) (.d (ld g s st ws (qW s st ws k) k)) (.d (DW s st (qW s st ws k))) x8 x9 tab)=some (.int (s:Int)):=rfl;simp only[g4,Option.bind_some,CC,CF,CG,CH,CB,CJ,JI (n:=s) (by lia)];exact e1
include O hκ in
theorem rA:∀(m k:Nat)(tab:List (Nat×Nat))(x5 x6 x7 x8 x9:LV),k+m≤n→DR s tab (BB κ (qW s st ws) (rW rk) (Wr k))→
  ∃y5 y6 y7 y8 y9 tab',B7 (λρ d=>some (ρ.set 5 (LV.d d))) (TA C (FD C aN aV) (B1 C aN aV) (JA W')) (vN (List.range' k m)) (C1 C s st g κ ws rk x5 x6 x7 x8 x9 tab)=some (.next,C1 C s st g κ ws rk y5 y6 y7 y8 y9 tab')∧DR s tab' (BB κ (qW s st ws) (rW rk) (Wr (k+m)))
 |0,k,tab,x5,x6,x7,x8,x9,_,h=>⟨x5,x6,x7,x8,x9,tab,rfl,h⟩
 |m+1,k,tab,x5,x6,x7,x8,x9,hm,h=>by
  obtain⟨y6,y7,y8,y9,tab',e1,e2⟩:=Jz (C:=C) (aN:=aN) (aV:=aV) (W':=W') O hκ (k:=k) (by lia) h x6 x7 x8 x9;obtain⟨z5,z6,z7,z8,z9,tab2,f1,f2⟩:=rA m (k+1) tab' (.d (.int (k:Int))) y6 y7 y8 y9 (by lia) e2;rw[show k+1+m=k+(m+1)by lia]at f2;refine⟨z5,z6,z7,z8,z9,tab2,?_,f2⟩;rw[←f1,List.range'_succ];exact GV rfl e1
def K8(C W' aN aV:Addr)(ds:List D):Option D:=if ds.length=5 then DB (X2 C (FD C aN aV) (B1 C aN aV) (JA W')) (A4 (AX 11) [0,1,2,3,4] ds)else none
include O hκ in
theorem Kc:∃tab,DR s tab (BB κ (qW s st ws) (rW rk) (List.range n))∧K8 C W' aN aV [.lst (vN ws),.lst (vN rk),.int (κ:Int),.str (D' g),.int (s:Int)]=some (EI C (BQ g s st (qW s st ws) tab)):=by
 have hn:=O.n4;have h0:DR s [] (BB κ (qW s st ws) (rW rk) (Wr 0)):=by
  refine⟨.nil,λp c=>⟨λh=>(by cases h),λ⟨_,_,h⟩=>?_⟩⟩;have:BU κ (qW s st ws) (rW rk) [] p=[]:=by
   cases e:BU κ (qW s st ws) (rW rk) [] p with
   |nil=>rfl
   |cons a l=>
    have:=(H7 (κ:=κ) (q:=qW s st ws) (r:=rW rk) (W:=[]) p a (by rw[e];exact .head _)).1;cases this
  have h:BB κ (qW s st ws) (rW rk) [] p=some c:=h;unfold BB at h;rw[if_pos this]at h;cases h
 obtain⟨y5,y6,y7,y8,y9,tab,e1,e2⟩:=rA (C:=C) (aN:=aN) (aV:=aV) (W':=W') O hκ n 0 [] .unset .unset .unset .unset .unset (by lia) h0;have hfe:BB κ (qW s st ws) (rW rk) (Wr n)=BB κ (qW s st ws) (rW rk) (List.range n):=funext λp=>pY (κ:=κ) (q:=qW s st ws) (O.parted (lB (Nat.le_refl n))) (ZG n) p;rw[Nat.zero_add,hfe]at e2;refine⟨tab,e2,?_⟩;unfold K8;refine(if_pos (by rfl)).trans ?_;have e:A4 (AX 11) [0,1,2,3,4] [.lst (vN ws),.lst (vN rk),.int (κ:Int),.str (D' g),.int (s:Int)]=[.d (.lst (vN ws)),.d (.lst (vN rk)),.d (.int (κ:Int)),.d (.str (D' g)),.d (.int (s:Int)),.unset,.unset,.unset,.unset,.unset,.unset]:=rfl;rw[e];unfold X2;rw[FY (show jE C [.d (.lst (vN ws)),.d (.lst (vN rk)),.d (.int (κ:Int)),.d (.str (D' g)),.d (.int (s:Int)),.unset,.unset,.unset,.unset,.unset,.unset]=some (.next,C1 C s st g κ ws rk .unset .unset .unset .unset .unset [])from rfl)];unfold jD;have hw:(ws.length:Int)=(n:Int):=by rw[O.lw]
 have s2:X4 C (FD C aN aV) (B1 C aN aV) (JA W') (C1 C s st g κ ws rk .unset .unset .unset .unset .unset [])=some (.next,C1 C s st g κ ws rk y5 y6 y7 y8 y9 tab):=by
  unfold X4;have g0:AM 0 (C1 C s st g κ ws rk .unset .unset .unset .unset .unset [])=some (.lst (vN ws)):=rfl;simp only[g0,Option.bind_some,CC,CF,CG,CH,CB,CJ,L5 O.lenw.1,hw,JI (n:=n) (by lia)];rw[List.range_eq_range'];exact e1
 rw[FY s2];rfl
end
theorem aD{l:List Nat}(hs:l.Pairwise (· ≤·))(x:Nat):(∀i,i<(l.filter λa=>decide (a<x)).length→l.getD i 0<x∧i<l.length)∧(∀i,(l.filter λa=>decide (a<x)).length≤i→i<l.length→¬l.getD i 0<x):=by
 induction l with
 |nil=>exact⟨λi h=>by simp at h,λi V h=>by simp at h⟩
 |cons a l ih=>
  rw[List.pairwise_cons]at hs;obtain⟨i1,i2⟩:=ih hs.2;by_cases ha:a<x
  ·rw[List.filter_cons_of_pos (by simpa using ha),List.length_cons];constructor
   ·intro i hi;cases i with
    |zero=>exact⟨ha,Nat.succ_pos _⟩
    |succ i=>
     have:=i1 i (Nat.lt_of_succ_lt_succ hi);exact⟨this.1,Nat.succ_lt_succ this.2⟩
   ·intro i hi hl;cases i with
    |zero=>exact absurd hi (Nat.not_succ_le_zero _)
    |succ i=>exact i2 i (Nat.le_of_succ_le_succ hi) (Nat.lt_of_succ_lt_succ hl)
  ·have hnil:l.filter (λa=>decide (a<x))=[]:=by
    rw[List.filter_eq_nil_iff];exact λb hb e=>ha (Nat.lt_of_le_of_lt (hs.1 b hb) (of_decide_eq_true e))
   rw[List.filter_cons_of_neg (by simpa using ha),hnil];constructor
   ·intro i hi;simp at hi
   ·intro i _ hl;cases i with
    |zero=>exact ha
    |succ i=>
     have hl':i<l.length:=Nat.lt_of_succ_lt_succ hl;show¬l.getD i 0<x;have:l.getD i 0∈l:=by
      rw[List.getD_eq_getElem?_getD,List.getElem?_eq_getElem hl',Option.getD_some];exact List.getElem_mem _
     exact λe=>ha (Nat.lt_of_le_of_lt (hs.1 _ this) e)
noncomputable def DS(l:List Nat)(x:Nat):Nat:=(l.filter λa=>decide (a<x)).length
section
variable{fdk:FuncData}{yk:Str}{fk:D→D→Option D}
theorem oS(a b:Nat):FO (.int ((a:Int)+(b:Int))) (.int 2)=some (.int (((a+b) / 2:Nat):Int)):=aJ (a+b) 2 (by decide) (by decide)
noncomputable def CP(a:LV)(x:Nat)(lo hi:Nat)(x4 x5:LV):List LV:=[a,.d (.int (x:Int)),.d (.int (lo:Int)),.d (.int (hi:Int)),x4,x5]
theorem lN(a:LV)(x lo hi:Nat)(x4 x5:LV):((AM 2 (CP a x lo hi x4 x5)).bind λp=>(AM 3 (CP a x lo hi x4 x5)).bind λq=>J0 p q)=some (decide (lo<hi)):=by
 have e:decide ((lo:Int)<(hi:Int))=decide (lo<hi):=decide_eq_decide.mpr Int.ofNat_lt;rw[←e];rfl
theorem Eu{lo hi:Nat}(h:lo<hi):lo≤(lo+hi) / 2∧(lo+hi) / 2<hi:=⟨(Nat.le_div_iff_mul_le (by decide)).mpr (Nat.mul_two lo▸Nat.add_le_add_left (Nat.le_of_lt h) lo),Nat.div_lt_of_lt_mul (Nat.two_mul hi▸Nat.add_lt_add_right h hi)⟩
theorem Ev{lo hi f:Nat}(h:lo<hi)(d:hi-lo<2^(f+1)):hi-((lo+hi) / 2+1)<2^f∧(lo+hi) / 2-lo<2^f:=by
 rw[Nat.pow_succ]at d;obtain⟨k,rfl⟩:=Nat.exists_eq_add_of_le (Nat.le_of_lt h);rw[Nat.add_sub_cancel_left]at d;have c:=Nat.div_lt_of_lt_mul (Nat.mul_comm _ 2▸d);rw[←Nat.add_assoc,←Nat.two_mul,Nat.mul_add_div (by decide),Nat.add_assoc,Nat.add_sub_add_left,Nat.add_sub_cancel_left];exact⟨Nat.lt_of_le_of_lt (Nat.sub_le_iff_le_add'.mpr (Nat.le_of_lt_succ (Nat.lt_of_lt_of_eq (Nat.lt_mul_div_succ k (by decide)) (Nat.two_mul (k / 2+1))))) c,c⟩
theorem lO{F:PF}{a:LV}{x:Nat}{x4:LV}{less:Nat→Bool}{len c:Nat}(h1:∀i,i<c→less i=true)(h2:∀i,c≤i→i<len→less i=false)
  (hb:∀(lo hi:Nat)(x5:LV),lo<hi→hi≤len→F (CP a x lo hi x4 x5)=some (.next,if less ((lo+hi) / 2)=true then CP a x ((lo+hi) / 2+1) hi x4 (.d (.int (((lo+hi) / 2:Nat):Int)))else CP a x lo ((lo+hi) / 2) x4 (.d (.int (((lo+hi) / 2:Nat):Int))))):
  ∀(f lo hi:Nat)(x5:LV),hi-lo<2^f→hi≤len→lo≤c→c≤hi→∃y5,IC (λρ=>(AM 2 ρ).bind λp=>(AM 3 ρ).bind λq=>J0 p q) F (f+1) (CP a x lo hi x4 x5)=some (.next,CP a x c c x4 y5):=by
 have stop:∀(f lo hi:Nat)(x5:LV),lo≤c→c≤hi→¬lo<hi→∃y5,IC (λρ=>(AM 2 ρ).bind λp=>(AM 3 ρ).bind λq=>J0 p q) F (f+1) (CP a x lo hi x4 x5)=some (.next,CP a x c c x4 y5):= λf lo hi x5 g1 g2 hlt=>by
  have ht:=lN a x lo hi x4 x5;rw[decide_eq_false hlt]at ht;exact⟨x5,by rw[Ps ht,Nat.le_antisymm g1 (Nat.le_trans g2 (Nat.le_of_not_lt hlt)),Nat.le_antisymm (Nat.le_trans (Nat.le_of_not_lt hlt) g1) g2]⟩
 intro f
 induction f with
 |zero=>
  intro lo hi x5 d hl g1 g2;exact stop 0 lo hi x5 g1 g2 λh=>Nat.not_lt_of_le (Nat.le_of_lt_succ (show hi-lo<1 from d)) (Nat.sub_pos_of_lt h)
 |succ f ih=>
  intro lo hi x5 d hl g1 g2;by_cases hlt:lo<hi
  ·have ht:=lN a x lo hi x4 x5;rw[decide_eq_true hlt]at ht;have hB:=hb lo hi x5 hlt hl;obtain⟨k1,k2⟩:=Ev hlt d;obtain⟨k3,k4⟩:=Eu hlt;generalize (lo+hi) / 2=m at*
   by_cases hm:m<c
   ·rw[if_pos (h1 _ hm)]at hB;obtain⟨y5,hy⟩:=ih (m+1) hi (.d (.int (m:Int))) k1 hl hm g2;exact⟨y5,(tG ht hB).trans hy⟩
   ·rw[if_neg (by rw[h2 _ (Nat.le_of_not_lt hm) (Nat.lt_of_lt_of_le k4 hl)];exact Bool.false_ne_true)]at hB;obtain⟨y5,hy⟩:=ih lo m (.d (.int (m:Int))) k2 (Nat.le_trans (Nat.le_of_lt k4) hl) g1 (Nat.le_of_not_lt hm);exact⟨y5,(tG ht hB).trans hy⟩
  ·exact stop (f+1) lo hi x5 g1 g2 hlt
theorem yA{l:List Nat}{x:Nat}(hl:l.length≤1000)(lo hi:Nat)(x4 x5:LV)(h1:lo<hi)(h2:hi≤l.length):
  ST (CP (.d (.lst (vN l))) x lo hi x4 x5)=some (.next,if decide (l.getD ((lo+hi) / 2) 0<x)=true then CP (.d (.lst (vN l))) x ((lo+hi) / 2+1) hi x4 (.d (.int (((lo+hi) / 2:Nat):Int)))else CP (.d (.lst (vN l))) x lo ((lo+hi) / 2) x4 (.d (.int (((lo+hi) / 2:Nat):Int)))):=by
 obtain⟨m,hm⟩:∃m,m=(lo+hi) / 2:=⟨_,rfl⟩;have hh:=oS lo hi;rw[←hm]at hh⊢;unfold ST;refine(A0 (ρ':=CP (.d (.lst (vN l))) x lo hi x4 (.d (.int (m:Int)))) ?_).trans ?_
 ·unfold fW CP;simp! only[hh]
 unfold fV;have hit:=HJ (xs:=l) (c:=m) (by lia) hl;rw[F9]at hit;have hlt:decide (((l.getD m 0:Nat):Int)<(x:Int))=decide (l.getD m 0<x):=decide_eq_decide.mpr Int.ofNat_lt;have hm1:(m:Int)+1=((m+1:Nat):Int):=rfl;by_cases e:l.getD m 0<x
 ·rw[decide_eq_true e]at hlt;rw[if_pos (decide_eq_true e)];refine(A0 (ρ':=CP (.d (.lst (vN l))) x (m+1) hi x4 (.d (.int (m:Int)))) ?_).trans (by rfl);unfold VV CP;simp! only[hit,hlt];refine(A0 (ρ':=CP (.d (.lst (vN l))) x (m+1) hi x4 (.d (.int (m:Int)))) ?_).trans (by rfl);simp! only[hm1];rfl
 ·rw[decide_eq_false e]at hlt;rw[if_neg (by rw[decide_eq_false e];simp)];refine(A0 (ρ':=CP (.d (.lst (vN l))) x lo m x4 (.d (.int (m:Int)))) ?_).trans (by rfl);unfold VV CP;simp! only[hit,hlt];rw[if_neg (by simp)];refine(A0 (ρ':=CP (.d (.lst (vN l))) x lo m x4 (.d (.int (m:Int)))) ?_).trans (by rfl);simp! only[if_true];rfl
def K6(fdk:FuncData)(yk:Str)(fk:D→D→Option D)(ds:List D):Option D:=if ds.length=2 then DB (QH fdk yk fk) (A4 (AX 6) [0,1,2,3,4] (ds++[.int 0,.none,.none]))else none
theorem yB{l:List Nat}(hs:l.Pairwise (· ≤·))(hl:l.length≤1000)(x:Nat):K6 fdk yk fk [.lst (vN l),.int (x:Int)]=some (.int (DS l x:Int)):=by
 unfold K6;refine(if_pos (by rfl)).trans ?_;have e:A4 (AX 6) [0,1,2,3,4] ([.lst (vN l),.int (x:Int)]++[.int 0,.none,.none])=[.d (.lst (vN l)),.d (.int (x:Int)),.d (.int 0),.d .none,.d .none,.unset]:=rfl;rw[e];unfold QH;have h00:decide ((0:Int)<0)=false:=rfl;have s1:QI [.d (.lst (vN l)),.d (.int (x:Int)),.d (.int 0),.d .none,.d .none,.unset]=some (.next,[.d (.lst (vN l)),.d (.int (x:Int)),.d (.int 0),.d .none,.d .none,.unset]):=by
  unfold QI;simp! only[h00];rw[if_neg (by simp)]
 rw[FY s1];unfold VW;have s2:QJ [.d (.lst (vN l)),.d (.int (x:Int)),.d (.int 0),.d .none,.d .none,.unset]=some (.next,CP (.d (.lst (vN l))) x 0 l.length (.d .none) .unset):=by
  unfold QJ;simp! only[if_true];refine(A0 (ρ':=CP (.d (.lst (vN l))) x 0 l.length (.d .none) .unset) ?_).trans (by rfl);simp! only[L5 hl];rfl
 rw[FY s2];unfold VX;obtain⟨h1,h2⟩:=aD hs x;obtain⟨y5,hy⟩:=lO (F:=ST) (a:=.d (.lst (vN l))) (x:=x) (x4:=.d .none) (less:= λi=>decide (l.getD i 0<x)) (len:=l.length) (c:=DS l x) (λi hi=>decide_eq_true (h1 i hi).1) (λi hi hil=>decide_eq_false (h2 i hi hil))
  (λlo hi x5 g1 g2=>yA hl lo hi _ x5 g1 g2) 11 0 l.length .unset (by lia) (Nat.le_refl _) (Nat.zero_le _) (List.length_filter_le _ _)
 have s3:QK fdk yk fk (CP (.d (.lst (vN l))) x 0 l.length (.d .none) .unset)=some (.next,CP (.d (.lst (vN l))) x (DS l x) (DS l x) (.d .none) y5):=by
  unfold QK;have g4:AM 4 (CP (.d (.lst (vN l))) x 0 l.length (.d .none) .unset)=some .none:=rfl;simp only[g4,Option.bind_some,CC,CF,CG,CH,CB,CJ,mQ,if_true];exact(A0 hy).trans rfl
 rw[FY s3];rfl
def MY(fdk:FuncData)(yk:Str)(fk:D→D→Option D)(ds:List D)(e:D):Option D:=if ds.length=4 then DB (QH fdk yk fk) (A4 (AX 6) ([0,1,2,3]++[4]) (ds++[e]))else none
theorem xZ{l:List Nat}{x:Nat}{dy:D}{v:Nat→Nat}(hl:l.length≤1000)(hk:∀c∈l,fk (.int (c:Int)) dy=some (.int (v c:Int)))(lo hi:Nat)(x5:LV)(h1:lo<hi)(h2:hi≤l.length):
  SS fdk yk fk (CP (.d (.lst (vN l))) x lo hi (.d (.clo fdk [yk] [dy])) x5)=some (.next,if decide ((l.map v).getD ((lo+hi) / 2) 0<x)=true then CP (.d (.lst (vN l))) x ((lo+hi) / 2+1) hi (.d (.clo fdk [yk] [dy])) (.d (.int (((lo+hi) / 2:Nat):Int)))else CP (.d (.lst (vN l))) x lo ((lo+hi) / 2) (.d (.clo fdk [yk] [dy])) (.d (.int (((lo+hi) / 2:Nat):Int)))):=by
 obtain⟨m,hm⟩:∃m,m=(lo+hi) / 2:=⟨_,rfl⟩;have hh:=oS lo hi;rw[←hm]at hh⊢;have hml:m<l.length:=by lia
 unfold SS;refine(A0 (ρ':=CP (.d (.lst (vN l))) x lo hi (.d (.clo fdk [yk] [dy])) (.d (.int (m:Int)))) ?_).trans ?_
 ·unfold fU CP;simp! only[hh]
 unfold fT;have hit:=HJ (xs:=l) (c:=m) hml hl;rw[F9]at hit;have hmem:l.getD m 0∈l:=by
  rw[List.getD_eq_getElem?_getD,List.getElem?_eq_getElem hml,Option.getD_some];exact List.getElem_mem _
 have hkey:GI fdk yk fk (.clo fdk [yk] [dy]) [.int ((l.getD m 0:Nat):Int)]=some (.int (v (l.getD m 0):Int)):=by
  rw[cT];exact hk _ hmem
 have hmap:(l.map v).getD m 0=v (l.getD m 0):=by
  rw[List.getD_eq_getElem?_getD,List.getD_eq_getElem?_getD,List.getElem?_map,List.getElem?_eq_getElem hml];rfl
 rw[hmap];have hlt:decide ((v (l.getD m 0):Int)<(x:Int))=decide (v (l.getD m 0)<x):=decide_eq_decide.mpr Int.ofNat_lt;have hm1:(m:Int)+1=((m+1:Nat):Int):=rfl;by_cases e:v (l.getD m 0)<x
 ·rw[decide_eq_true e]at hlt;rw[if_pos (decide_eq_true e)];refine(A0 (ρ':=CP (.d (.lst (vN l))) x (m+1) hi (.d (.clo fdk [yk] [dy])) (.d (.int (m:Int)))) ?_).trans (by rfl);unfold VU CP;simp! only[hit,hkey,hlt];refine(A0 (ρ':=CP (.d (.lst (vN l))) x (m+1) hi (.d (.clo fdk [yk] [dy])) (.d (.int (m:Int)))) ?_).trans (by rfl);simp! only[hm1];rfl
 ·rw[decide_eq_false e]at hlt;rw[if_neg (by rw[decide_eq_false e];simp)];refine(A0 (ρ':=CP (.d (.lst (vN l))) x lo m (.d (.clo fdk [yk] [dy])) (.d (.int (m:Int)))) ?_).trans (by rfl);unfold VU CP;simp! only[hit,hkey,hlt];rw[if_neg (by simp)];refine(A0 (ρ':=CP (.d (.lst (vN l))) x lo m (.d (.clo fdk [yk] [dy])) (.d (.int (m:Int)))) ?_).trans (by rfl);simp! only[if_true];rfl
theorem xY{l:List Nat}{x:Nat}{dy:D}{v:Nat→Nat}(hs:(l.map v).Pairwise (· ≤·))(hl:l.length≤1000)(hk:∀c∈l,fk (.int (c:Int)) dy=some (.int (v c:Int))):
  MY fdk yk fk [.lst (vN l),.int (x:Int),.int 0,.none] (.clo fdk [yk] [dy])=some (.int (DS (l.map v) x:Int)):=by
 unfold MY;refine(if_pos (by rfl)).trans ?_;have e:A4 (AX 6) ([0,1,2,3]++[4]) ([.lst (vN l),.int (x:Int),.int 0,.none]++[.clo fdk [yk] [dy]])=[.d (.lst (vN l)),.d (.int (x:Int)),.d (.int 0),.d .none,.d (.clo fdk [yk] [dy]),.unset]:=rfl;rw[e];unfold QH;have h00:decide ((0:Int)<0)=false:=rfl;have s1:QI [.d (.lst (vN l)),.d (.int (x:Int)),.d (.int 0),.d .none,.d (.clo fdk [yk] [dy]),.unset]=some (.next,[.d (.lst (vN l)),.d (.int (x:Int)),.d (.int 0),.d .none,.d (.clo fdk [yk] [dy]),.unset]):=by
  unfold QI;simp! only[h00];rw[if_neg (by simp)]
 rw[FY s1];unfold VW;have s2:QJ [.d (.lst (vN l)),.d (.int (x:Int)),.d (.int 0),.d .none,.d (.clo fdk [yk] [dy]),.unset]=some (.next,CP (.d (.lst (vN l))) x 0 l.length (.d (.clo fdk [yk] [dy])) .unset):=by
  unfold QJ;simp! only[if_true];refine(A0 (ρ':=CP (.d (.lst (vN l))) x 0 l.length (.d (.clo fdk [yk] [dy])) .unset) ?_).trans (by rfl);simp! only[L5 hl];rfl
 rw[FY s2];unfold VX;obtain⟨h1,h2⟩:=aD hs x;have hln:(l.map v).length=l.length:=List.length_map ..;obtain⟨y5,hy⟩:=lO (F:=SS fdk yk fk) (a:=.d (.lst (vN l))) (x:=x) (x4:=.d (.clo fdk [yk] [dy])) (less:= λi=>decide ((l.map v).getD i 0<x)) (len:=l.length) (c:=DS (l.map v) x) (λi hi=>decide_eq_true (h1 i hi).1) (λi hi hil=>decide_eq_false (h2 i hi (by rw[hln];exact hil)))
  (λlo hi x5 g1 g2=>xZ hl hk lo hi x5 g1 g2) 11 0 l.length .unset (by lia) (Nat.le_refl _) (Nat.zero_le _) (by rw[←hln];exact List.length_filter_le _ _)
 have s3:QK fdk yk fk (CP (.d (.lst (vN l))) x 0 l.length (.d (.clo fdk [yk] [dy])) .unset)=some (.next,CP (.d (.lst (vN l))) x (DS (l.map v) x) (DS (l.map v) x) (.d (.clo fdk [yk] [dy])) y5):=by
  unfold QK;have g4:AM 4 (CP (.d (.lst (vN l))) x 0 l.length (.d (.clo fdk [yk] [dy])) .unset)=some (.clo fdk [yk] [dy]):=rfl;have hF:(false=true)=False:=by simp
  simp only[g4,Option.bind_some,CC,CF,CG,CH,CB,CJ,Bd,hF,if_false];exact(A0 hy).trans rfl
 rw[FY s3];rfl
open Classical in
def I8(fdk:FuncData)(yk:Str)(fk:D→D→Option D)(own ds kds:List D):Option (List D):=
 if h:∃own',ds.length=1∧∀l:Addr,∃ρ',OK fdk yk fk (MY fdk yk fk) (A4 ((AX 5).set 0 (.own (.list (some l)) own)) [1,2,3,4] (ds++[.int 0,.none]++kds))=some (.next,ρ')∧ρ'[0]? =some (.own (.list (some l)) own')then some h.choose else none
theorem Fi{own ds kds own':List D}(h:I8 fdk yk fk own ds kds=some own'):ds.length=1∧∀l:Addr,∃ρ',OK fdk yk fk (MY fdk yk fk) (A4 ((AX 5).set 0 (.own (.list (some l)) own)) [1,2,3,4] (ds++[.int 0,.none]++kds))=some (.next,ρ')∧ρ'[0]? =some (.own (.list (some l)) own'):=by
 unfold I8 at h;split at h
 ·rename_i hx;cases h;exact hx.choose_spec
 ·cases h
theorem Fg{own ds kds own':List D}(hl:ds.length=1)(h:∀l:Addr,∃ρ',OK fdk yk fk (MY fdk yk fk) (A4 ((AX 5).set 0 (.own (.list (some l)) own)) [1,2,3,4] (ds++[.int 0,.none]++kds))=some (.next,ρ')∧ρ'[0]? =some (.own (.list (some l)) own')):I8 fdk yk fk own ds kds=some own':=by
 have hx:∃own',ds.length=1∧∀l:Addr,∃ρ',OK fdk yk fk (MY fdk yk fk) (A4 ((AX 5).set 0 (.own (.list (some l)) own)) [1,2,3,4] (ds++[.int 0,.none]++kds))=some (.next,ρ')∧ρ'[0]? =some (.own (.list (some l)) own'):=⟨own',hl,h⟩;unfold I8;rw[dif_pos hx];obtain⟨ρ1,a1,a2⟩:=hx.choose_spec.2 0;obtain⟨ρ2,b1,b2⟩:=h 0;rw[a1]at b1;cases b1;rw[a2]at b2;simp only[Option.some.injEq,LV.own.injEq]at b2;rw[b2.2]
theorem Fh{l:List Nat}{c:Nat}{dy:D}{v:Nat→Nat}(hs:(l.map v).Pairwise (· ≤·))(hl:l.length≤1000)(hk:∀e∈c::l,fk (.int (e:Int)) dy=some (.int (v e:Int))):
  I8 fdk yk fk (vN l) [.int (c:Int)] [.clo fdk [yk] [dy]]=some (vN (l.take (DS (l.map v) (v c))++c::l.drop (DS (l.map v) (v c)))):=by
 obtain⟨b,hb⟩:∃b,b=DS (l.map v) (v c):=⟨_,rfl⟩;have hbl:b≤l.length:=by
  rw[hb];unfold DS;have:=List.length_filter_le (λa=>decide (a<v c)) (l.map v);rwa [List.length_map]at this
 have hB:=xY (fdk:=fdk) (yk:=yk) (fk:=fk) (x:=v c) hs hl λe he=>hk e (.tail _ he);rw[←hb]at hB⊢;have hkc:GI fdk yk fk (.clo fdk [yk] [dy]) [.int (c:Int)]=some (.int (v c:Int)):=by
  rw[cT];exact hk c (.head _)
 refine Fg rfl λa=>⟨[.own (.list (some a)) (vN (l.take b++c::l.drop b)),.d (.int (c:Int)),.d (.int (b:Int)),.d .none,.d (.clo fdk [yk] [dy])],?_,rfl⟩;have e:A4 ((AX 5).set 0 (.own (.list (some a)) (vN l))) [1,2,3,4] ([.int (c:Int)]++[.int 0,.none]++[.clo fdk [yk] [dy]])=[.own (.list (some a)) (vN l),.d (.int (c:Int)),.d (.int 0),.d .none,.d (.clo fdk [yk] [dy])]:=rfl;rw[e];unfold OK;have hF:(false=true)=False:=by simp
 refine(A0 (ρ':=[.own (.list (some a)) (vN l),.d (.int (c:Int)),.d (.int (b:Int)),.d .none,.d (.clo fdk [yk] [dy])]) ?_).trans ?_
 ·unfold gN;simp! only[hF,if_false];refine(A0 (ρ':=[.own (.list (some a)) (vN l),.d (.int (c:Int)),.d (.int (b:Int)),.d .none,.d (.clo fdk [yk] [dy])]) ?_).trans (by rfl);have hfl:E9 (.int (b:Int))=true:=rfl;simp! only[hkc,hB,hfl]
 unfold gM;refine(A0 (ρ':=[.own (.list (some a)) (vN (l.take b++c::l.drop b)),.d (.int (c:Int)),.d (.int (b:Int)),.d .none,.d (.clo fdk [yk] [dy])]) ?_).trans (by rfl);unfold gO;have hin:aM (vN l) [.int (b:Int),.int (c:Int)]=some (vN (l.take b++c::l.drop b)):=by
  refine(if_pos ?_).trans ?_
  ·rw[GZ (by lia),IU];simp;lia
  ·unfold vN;rw[List.map_append,List.map_cons,List.map_take,List.map_drop];rfl
 simp! only[hin]
end
noncomputable def MK(n i j:Nat):Bool:=decide (i<n)&&decide (j<n)&&decide (i≠j)
noncomputable def H9(v:List Nat)(i j:Nat):Bool:=decide (v.getD i 0<v.getD j 0)
noncomputable def QU(m:Nat):Nat→List (List Nat)
 |0=>[[]]
 |k+1=>(List.range m).flatMap λa=>(QU m k).map (a::·)
theorem qL{m:Nat}:∀(l:List Nat),(∀a∈l,a<m)→l∈QU m l.length
 |[],_=>.head _
 |a::l,h=>by
  show _∈List.flatMap _ _;rw[List.mem_flatMap];exact⟨a,List.mem_range.mpr (h a (.head _)),List.mem_map.mpr ⟨l,qL l λb hb=>h b (.tail _ hb),rfl⟩⟩
noncomputable def PP:List Nat→Bool
 |[]=>true
 |a::l=> !l.contains a&&PP l
theorem qQ:∀{l:List Nat},l.Nodup→PP l=true
 |[],_=>rfl
 |a::l,h=>by
  rw[List.nodup_cons]at h;show(!l.contains a&&PP l)=true;rw[qQ h.2];simp[h.1]
def SH(n:Nat)(π:List Nat):Bool:=KU (MK n) (H9 π) (kas_sort n)&&(((GM (H9 π) (kas_sort n)).toList.map λi=>π.getD i 0)==List.range n)&&(GM (H9 π) (kas_sort n)).toList.isPerm (List.range n)
theorem Nb:((QU 4 4).all λπ=> !PP π||SH 4 π)=true:=by decide+kernel
theorem Nc:((QU 5 5).all λπ=> !PP π||SH 5 π)=true:=by decide+kernel
theorem Nf{n:Nat}(hn:n=4∨n=5){π:List Nat}(hl:π.length=n)(hd:π.Nodup)(hlt:∀a∈π,a<n):SH n π=true:=by
 have hm:=qL (m:=n) π hlt;rw[hl]at hm;have h:((QU n n).all λπ=> !PP π||SH n π)=true:=by
  rcases hn with rfl|rfl
  ·exact Nb
  ·exact Nc
 have:=List.all_eq_true.mp h π hm;rw[qQ hd]at this;simpa using this
theorem eI{α:Type}{ok ok' lt lt':Nat→Nat→Bool}(h:∀i j,ok i j=true→lt i j=lt' i j)(h':∀i j,ok i j=true→ok' i j=true):∀t:KasT α,KU ok lt t=true→GM lt t=GM lt' t∧KU ok' lt' t=true
 |.ret a,_=>⟨rfl,rfl⟩
 |.ask i j k,ho=>by
  have ho':(ok i j&&KU ok lt (k (lt i j)))=true:=ho;rw[Bool.and_eq_true]at ho';have hij:=h i j ho'.1;obtain⟨e1,e2⟩:=eI h h' (k (lt i j)) ho'.2;rw[hij]at e1 e2;constructor
  ·show GM lt (k (lt i j))=GM lt' (k (lt' i j));rw[hij];exact e1
  ·show(ok' i j&&KU ok' lt' (k (lt' i j)))=true;rw[h' i j ho'.1,e2];rfl
noncomputable def N8(v:List Nat)(i:Nat):Nat:=(v.filter λa=>decide (a<v.getD i 0)).length
theorem nW{p q:Nat→Bool}(h:∀a,p a=true→q a=true):∀l:List Nat,(l.filter p).length≤(l.filter q).length
 |[]=>Nat.le_refl _
 |a::l=>by
  have ih:=nW h l;rw[List.filter_cons,List.filter_cons];by_cases hp:p a=true
  ·rw[if_pos hp,if_pos (h a hp),List.length_cons,List.length_cons];lia
  ·rw[if_neg hp];split
   ·rw[List.length_cons];lia
   ·exact ih
theorem bR{p q:Nat→Bool}(h:∀a,p a=true→q a=true){x:Nat}(hp:p x=false)(hq:q x=true):∀{l:List Nat},x∈l→(l.filter p).length<(l.filter q).length
 |a::l,hx=>by
  rcases List.mem_cons.mp hx with e|hx
  ·subst e;have:=nW h l;rw[List.filter_cons_of_neg (by rw[hp];simp),List.filter_cons_of_pos hq,List.length_cons];lia
  ·have ih:=bR h hp hq hx;rw[List.filter_cons,List.filter_cons];by_cases hpa:p a=true
   ·rw[if_pos hpa,if_pos (h a hpa),List.length_cons,List.length_cons];lia
   ·rw[if_neg hpa];split
    ·rw[List.length_cons];lia
    ·exact ih
theorem oL{v:List Nat}{i:Nat}(h:i<v.length):v.getD i 0∈v:=by
 rw[List.getD_eq_getElem?_getD,List.getElem?_eq_getElem h,Option.getD_some];exact List.getElem_mem _
theorem VF{v:List Nat}{i j:Nat}(hi:i<v.length)(h:v.getD i 0<v.getD j 0):N8 v i<N8 v j:=
 bR (x:=v.getD i 0) (λa ha=>by
  have ha:a<v.getD i 0:=of_decide_eq_true ha;exact decide_eq_true (by lia)) (decide_eq_false (by lia)) (decide_eq_true h) (oL hi)
theorem rP{v:List Nat}{i j:Nat}(hi:i<v.length)(hj:j<v.length):v.getD i 0<v.getD j 0↔N8 v i<N8 v j:=by
 constructor
 ·exact VF hi
 ·intro h;rcases Nat.lt_trichotomy (v.getD i 0) (v.getD j 0)with q|q|q
  ·exact q
  ·unfold N8 at h;rw[q]at h;lia
  ·have:=VF hj q;lia
theorem qR{v:List Nat}(hd:v.Nodup){i j:Nat}(hi:i<v.length)(hj:j<v.length)(h:v.getD i 0=v.getD j 0):i=j:=by
 rw[List.getD_eq_getElem?_getD,List.getD_eq_getElem?_getD,List.getElem?_eq_getElem hi,List.getElem?_eq_getElem hj,Option.getD_some,Option.getD_some]at h;exact(List.getElem_inj hd).mp h
theorem MF{β:Type}{f:Nat→β}{n i:Nat}{d:β}(h:i<n):((List.range n).map f).getD i d=f i:=by
 rw[List.getD_eq_getElem?_getD,List.getElem?_map,List.getElem?_range h];rfl
theorem Nd{n:Nat}(hn:n=4∨n=5){v:List Nat}(hl:v.length=n)(hd:v.Nodup):KU (MK n) (H9 v) (kas_sort n)=true∧(GM (H9 v) (kas_sort n)).toList.Perm (List.range n)∧((GM (H9 v) (kas_sort n)).toList.map λi=>v.getD i 0).Pairwise (· <·):=by
 obtain⟨π,hπ⟩:∃π,π=(List.range n).map (N8 v):=⟨_,rfl⟩;have hπl:π.length=n:=by rw[hπ,List.length_map,List.length_range]
 have hπd:π.Nodup:=by
  rw[hπ];refine(List.pairwise_map.mpr ?_);refine List.Pairwise.imp_of_mem ?_ (List.nodup_range (n:=n));intro i j hi hj hne e;have hi:=List.mem_range.mp hi;have hj:=List.mem_range.mp hj;rcases Nat.lt_trichotomy (v.getD i 0) (v.getD j 0)with q|q|q
  ·have:=VF (v:=v) (i:=i) (j:=j) (by lia) q;lia
  ·exact hne (qR hd (by lia) (by lia) q)
  ·have:=VF (v:=v) (i:=j) (j:=i) (by lia) q;lia
 have hπn:∀a∈π,a<n:=by
  intro a ha;rw[hπ]at ha;obtain⟨i,hi,rfl⟩:=List.mem_map.mp ha;have hi:=List.mem_range.mp hi;unfold N8;have h1:=bR (p:= λa=>decide (a<v.getD i 0)) (q:= λV=>true) (λV V=>rfl) (x:=v.getD i 0) (by simp) rfl (l:=v) (oL (by lia));have h2:(v.filter λV=>true).length≤v.length:=List.length_filter_le _ _;lia
 have hc:=Nf hn hπl hπd hπn;unfold SH at hc;rw[Bool.and_eq_true,Bool.and_eq_true,beq_iff_eq,List.isPerm_iff]at hc;have hcg:=eI (ok:=MK n) (ok':=MK n) (lt:=H9 π) (lt':=H9 v) (λi j hij=>by
  unfold MK at hij;simp only[Bool.and_eq_true,decide_eq_true_eq]at hij;unfold H9;rw[hπ,MF hij.1.1,MF hij.1.2];exact decide_eq_decide.mpr (rP (by lia) (by lia)).symm) (λV V h=>h) (kas_sort n) hc.1.1
 refine⟨hcg.2,?_,?_⟩
 ·rw[←hcg.1];exact hc.2
 ·rw[←hcg.1];have h1:=hc.1.2;have h2:((GM (H9 π) (kas_sort n)).toList.map λi=>π.getD i 0).Pairwise (· <·):=by rw[h1];exact List.pairwise_lt_range
  rw[List.pairwise_map]at h2⊢;refine List.Pairwise.imp_of_mem ?_ h2;intro i j hi hj h;have hi:=List.mem_range.mp (hc.2.subset hi);have hj:=List.mem_range.mp (hc.2.subset hj);rw[hπ,MF hi,MF hj]at h;exact(rP (by lia) (by lia)).mpr h
theorem VD{α:Type}{f:α→Nat}:∀{l m:List α},l.Perm m→(l.map f).Pairwise (· <·)→(m.map f).Pairwise (· <·)→l=m
 |[],m,h,_,_=>(List.nil_perm.mp h).symm
 |a::l,[],h,_,_=>absurd (List.perm_nil.mp h) (by simp)
 |a::l,b::m,h,h1,h2=>by
  rw[List.map_cons,List.pairwise_cons]at h1 h2;have hab:a=b:=by
   rcases List.mem_cons.mp (h.subset (.head _))with e|ha
   ·exact e
   ·rcases List.mem_cons.mp (h.symm.subset (.head _))with e|hb
    ·exact e.symm
    ·have q1:=h1.1 (f b) (List.mem_map.mpr ⟨b,hb,rfl⟩);have q2:=h2.1 (f a) (List.mem_map.mpr ⟨a,ha,rfl⟩);lia
  subst hab;rw[VD ((List.perm_cons a).mp h) h1.2 h2.2]
theorem eR{α:Type}{xs:List α}{f:α→Nat}{key val:α→D}(hn:xs.length=4∨xs.length=5)(hd:(xs.map f).Nodup)(hlt:∀a∈xs,∀b∈xs,f a≠f b→dE (key a) (key b)=some (decide (f a<f b)))(hk:((xs.map key).all IT||(xs.map key).all PC)=true):
  ∃ys:List α,ys.Perm xs∧(ys.map f).Pairwise (· <·)∧MR (xs.map key) (xs.map val)=some (ys.map val):=by
 obtain⟨hok,hpm,hpw⟩:=Nd hn (v:=xs.map f) (List.length_map ..) hd;obtain⟨x0,hx0⟩:∃x0,x0∈xs:=List.exists_mem_of_ne_nil xs (by rintro rfl;simp at hn);obtain⟨n,hnl⟩:∃n,n=xs.length:=⟨_,rfl⟩;have hf:∀i,i<n→(xs.map f).getD i 0=f (xs.getD i x0):= λi hi=>by
  rw[List.getD_eq_getElem?_getD,List.getD_eq_getElem?_getD,List.getElem?_map,List.getElem?_eq_getElem (by lia)];rfl
 have hat:∀(w:α→D) i,i<n→JD (xs.map w) i=w (xs.getD i x0):= λw i hi=>by
  unfold JD;rw[List.getD_eq_getElem?_getD,List.getD_eq_getElem?_getD,List.getElem?_map,List.getElem?_eq_getElem (by lia)];rfl
 have hmem:∀i,i<n→xs.getD i x0∈xs:= λi hi=>by
  rw[List.getD_eq_getElem?_getD,List.getElem?_eq_getElem (by lia),Option.getD_some];exact List.getElem_mem _
 have hne:∀i j,i<n→j<n→i≠j→f (xs.getD i x0)≠f (xs.getD j x0):= λi j hi hj h e=>by
  rw[←hf i hi,←hf j hj]at e;exact h (qR hd (by rw[List.length_map];lia) (by rw[List.length_map];lia) e)
 rw[←hnl]at hok hpm hpw hn;have hcg:=eI (ok:=MK n) (ok':=MJ (xs.map key)) (lt:=H9 (xs.map f)) (lt':=IX (xs.map key)) (λi j hij=>by
  unfold MK at hij;simp only[Bool.and_eq_true,decide_eq_true_eq]at hij;unfold H9 IX;rw[hf i hij.1.1,hf j hij.1.2,hat _ i hij.1.1,hat _ j hij.1.2,hlt _ (hmem i hij.1.1) _ (hmem j hij.1.2) (hne i j hij.1.1 hij.1.2 hij.2)];rfl) (λi j hij=>by
  unfold MK at hij;simp only[Bool.and_eq_true,decide_eq_true_eq]at hij;unfold MJ;rw[hat _ i hij.1.1,hat _ j hij.1.2,hlt _ (hmem i hij.1.1) _ (hmem j hij.1.2) (hne i j hij.1.1 hij.1.2 hij.2),List.length_map,decide_eq_true (show i<xs.length by lia),decide_eq_true (show j<xs.length by lia)];rfl) (kas_sort n) hok
 have hkl:(xs.map key).length=n:=by rw[List.length_map];exact hnl.symm
 refine⟨(GM (H9 (xs.map f)) (kas_sort n)).toList.map λi=>xs.getD i x0,?_,?_,?_⟩
 ·have h1:=hpm.map λi=>xs.getD i x0;refine h1.trans (List.Perm.of_eq ?_);apply List.ext_getElem
  ·simp[hnl]
  ·intro i h1 h2;simp[h2]
 ·rw[List.map_map];rw[List.pairwise_map]at hpw⊢;refine List.Pairwise.imp_of_mem ?_ hpw;intro i j hi hj h;have hi:=List.mem_range.mp (hpm.subset hi);have hj:=List.mem_range.mp (hpm.subset hj);rw[hf i hi,hf j hj]at h;exact h
 ·unfold MR;rw[hkl,←hcg.1];have hall:((GM (H9 (xs.map f)) (kas_sort n)).toList.all λi=>decide (i<(xs.map val).length))=true:=by
   rw[List.all_eq_true];intro i hi;have:=List.mem_range.mp (hpm.subset hi);rw[List.length_map];exact decide_eq_true (by lia)
  rw[if_pos]
  ·congr 1
   rw[List.map_map];refine List.map_congr_left λi hi=>?_;exact hat val i (List.mem_range.mp (hpm.subset hi))
  ·rw[hcg.2,hk,hall,List.length_map,decide_eq_true (show 2≤n by lia),decide_eq_true (show n<64 by lia),decide_eq_true hnl];rfl
noncomputable def aH(s w:Nat)(bs:List Bool):Option Nat:=((List.range s).map λj=>(w+j)%s).find? λf=>bs.getD f false
noncomputable def J1(s:Nat)(bs:List Bool):List Nat:=(List.range s).filter λf=>bs.getD f false
def R'(s w:Nat)(bs:List Bool):Bool:=match aH s w bs with
 |none=>true
 |some f=>decide (DS (J1 s bs) w%(J1 s bs).length<(J1 s bs).length)&&((J1 s bs).getD (DS (J1 s bs) w%(J1 s bs).length) 0==f)&&((J1 s bs).eraseIdx (DS (J1 s bs) w%(J1 s bs).length)==(J1 s bs).filter λe=> !(e==f))
noncomputable def QT:Nat→List (List Bool)
 |0=>[[]]
 |k+1=>(QT k).flatMap λl=>[true::l,false::l]
theorem qK:∀l:List Bool,l∈QT l.length
 |[]=>.head _
 |b::l=>by
  show _∈List.flatMap _ _;rw[List.mem_flatMap];refine⟨l,qK l,?_⟩;cases b<;>simp
theorem Ky:((QT 6).all λbs=>(List.range 6).all λw=>R' 6 w bs)=true:=by decide+kernel
theorem Kz:((QT 7).all λbs=>(List.range 7).all λw=>R' 7 w bs)=true:=by decide+kernel
theorem La{s w:Nat}(hs:s=6∨s=7)(hw:w<s){bs:List Bool}(hb:bs.length=s):R' s w bs=true:=by
 have hm:=qK bs;rw[hb]at hm;have h:((QT s).all λbs=>(List.range s).all λw=>R' s w bs)=true:=by
  rcases hs with rfl|rfl
  ·exact Ky
  ·exact Kz
 exact List.all_eq_true.mp (List.all_eq_true.mp h bs hm) w (List.mem_range.mpr hw)
section
variable{s st:Nat}
def E1(s st:Nat)(T:Nat→Option Nat):List Nat:=(List.range s).filter λsp=>(T (CR s st sp)).isNone
theorem Ec(T:Nat→Option Nat):(E1 s st T).Pairwise (· ≤·):=(List.pairwise_lt_range.filter _).imp λh=>Nat.le_of_lt h
theorem Ea(T:Nat→Option Nat):(E1 s st T).length≤s:=by
 have:=List.length_filter_le (λsp=>(T (CR s st sp)).isNone) (List.range s);rwa [List.length_range]at this
theorem Lb(hs:s=6∨s=7)(hst:st<s){w:Nat}(hw:w<s){T:Nat→Option Nat}{p x:Nat}(hp:p<s)(hq:CR s st w≤p)(hT:T p=none)(hb:∀p',CR s st w≤p'→p'<p→T p'≠none):
  DS (E1 s st T) w%(E1 s st T).length<(E1 s st T).length∧(E1 s st T).getD (DS (E1 s st T) w%(E1 s st T).length) 0=(st+p)%s∧(E1 s st T).eraseIdx (DS (E1 s st T) w%(E1 s st T).length)=E1 s st (IB T p x):=by
 have h0:0<s:=by lia
 obtain⟨bs,hbs⟩:∃bs:List Bool,bs=(List.range s).map λsp=>(T (CR s st sp)).isNone:=⟨_,rfl⟩;have hbl:bs.length=s:=by rw[hbs,List.length_map,List.length_range]
 have hat:∀f,f<s→bs.getD f false=(T (CR s st f)).isNone:= λf hf=>by rw[hbs,MF hf]
 have hfree:J1 s bs=E1 s st T:=List.filter_congr λf hf=>hat f (List.mem_range.mp hf);have hc:=La hs hw hbl;have hfind:aH s w bs=some ((st+p)%s):=by
  unfold aH;have hsp:∀j,CR s st w+j<s→(w+j)%s=(st+(CR s st w+j))%s:= λj V=>by
   conv=>lhs;rw[←P5 hst hw]
   rw[Nat.mod_add_mod,Nat.add_assoc]
  have hsplit:List.range s=List.range (p-CR s st w)++(p-CR s st w)::List.range' (p-CR s st w+1) (s-(p-CR s st w)-1):=by
   rw[List.range_eq_range',List.range_eq_range',←List.range'_succ,show s-(p-CR s st w)-1+1=s-(p-CR s st w)by lia];have:=List.range'_append_1 (s:=0) (m:=p-CR s st w) (n:=s-(p-CR s st w));rw[Nat.zero_add,show p-CR s st w+(s-(p-CR s st w))=s by lia]at this;exact this.symm
  rw[hsplit,List.map_append,List.find?_append];have hnone:((List.range (p-CR s st w)).map λj=>(w+j)%s).find? (λf=>bs.getD f false)=none:=by
   rw[List.find?_eq_none];intro f hf;obtain⟨j,hj,rfl⟩:=List.mem_map.mp hf;have hj:=List.mem_range.mp hj;rw[hat _ (Nat.mod_lt _ h0),hsp j (by lia),PZ hst (by lia)];have:=hb (CR s st w+j) (by lia) (by lia);cases e:T (CR s st w+j)with
   |none=>exact absurd e this
   |some a=>simp
  rw[hnone,Option.none_or,List.map_cons,List.find?_cons_of_pos]
  ·rw[hsp _ (by lia),show CR s st w+(p-CR s st w)=p by lia]
  ·show bs.getD ((w+(p-CR s st w))%s) false=true;rw[hat _ (Nat.mod_lt _ h0),hsp _ (by lia),show CR s st w+(p-CR s st w)=p by lia,PZ hst hp,hT];rfl
 unfold R' at hc;rw[hfind]at hc;dsimp only at hc;rw[hfree]at hc;simp only[Bool.and_eq_true,decide_eq_true_eq,beq_iff_eq]at hc;refine⟨hc.1.1,hc.1.2,hc.2.trans ?_⟩;unfold E1;rw[List.filter_filter];refine List.filter_congr λf hf=>?_;have hf:=List.mem_range.mp hf;unfold IB;by_cases e:CR s st f=p
 ·rw[if_pos e];have:f=(st+p)%s:=by rw[←e,P5 hst hf]
  rw[this];simp
 ·rw[if_neg e];have:(f==(st+p)%s)=false:=by
   rw[beq_eq_false_iff_ne];intro h;exact e (by rw[h,PZ hst hp])
  rw[this];simp
theorem nB{q r:Nat→Nat}{m x:Nat}{W:List Nat}(hn:(x::W).Nodup)(hp:CO r (x::W))(hQ:BM 0 q r (x::W) m=[])(hr:∀b∈W,r x<r b):∀(k p:Nat)(T:Nat→Option Nat),m≤p+k→q x≤p→I6 0 q r m W (x::W) p x T→
  ∃p',p≤p'∧p'≤m∧T p'=none∧(∀p'',p≤p''→p''<p'→T p''≠none)∧IB T p' x=BB 0 q r (x::W)
 |0,p,T,hk,hx,D=>by
  cases hT:T p with
  |none=>exact⟨p,Nat.le_refl _,D.2.1,hT,λp'' h1 h2=>by lia,funext (bF hx D hT)⟩
  |some b=>
   have:=bG hx hn hp hQ D hT;have:=D.2.1;split at* <;>(have h2:= ‹I6 0 q r m W (x::W) (p+1) _ _›.2.1;lia)
 |k+1,p,T,hk,hx,D=>by
  cases hT:T p with
  |none=>exact⟨p,Nat.le_refl _,D.2.1,hT,λp'' h1 h2=>by lia,funext (bF hx D hT)⟩
  |some b=>
   have hst:=bG hx hn hp hQ D hT;have hbW:=(nC (hp.sub λy hy=>.tail _ hy) D hT).1;have hbt:bt 0 q r p b x=false:=by
    have:=hr b hbW;cases e:bt 0 q r p b x with
    |false=>rfl
    |true=>have:=yO e;lia
   rw[hbt,if_neg (by simp)]at hst;obtain⟨p',h1,h2,h3,h4,h5⟩:=nB hn hp hQ hr k (p+1) T (by lia) (by lia) hst;refine⟨p',by lia,h2,h3,λp'' g1 g2=>?_,h5⟩;by_cases e:p''=p
   ·rw[e,hT];simp
   ·exact h4 p'' (by lia) g2
end
noncomputable def A8(a:Nat→LV):List LV:=[a 0,a 1,a 2,a 3,a 4,a 5,a 6,a 7,a 8,a 9,a 10,a 11,a 12,a 13,a 14,a 15,a 16,a 17,a 18,a 19,a 20,a 21,a 22,a 23,a 24]
noncomputable def up(a:Nat→LV)(i:Nat)(v:LV):Nat→LV:= λj=>if j=i then v else a j
theorem DI(a:Nat→LV)(i:Nat)(v:LV):up a i v i=v:=if_pos rfl
theorem BR(a:Nat→LV){i j:Nat}(v:LV)(h:j≠i):up a i v j=a j:=if_neg h
theorem cW(a:Nat→LV):A8 a=(List.range 25).map a:=rfl
theorem H6(a:Nat→LV){i:Nat}(h:i<25):(A8 a)[i]? =some (a i):=by
 rw[cW,List.getElem?_map,List.getElem?_range h];rfl
theorem D6(a:Nat→LV){i:Nat}(v:LV):(A8 a).set i v=A8 (up a i v):=by
 rw[cW,cW];apply List.ext_getElem?;intro j;rw[List.getElem?_set];by_cases hj:j<25
 ·rw[List.getElem?_map,List.getElem?_map,List.getElem?_range hj];by_cases e:i=j
  ·subst e;rw[if_pos rfl,if_pos (by simpa using hj)];show _=some (up a i v i);rw[DI]
  ·rw[if_neg e];show _=some (up a i v j);rw[BR _ _ (Ne.symm e)];rfl
 ·have h1:((List.range 25).map a)[j]? =none:=List.getElem?_eq_none (by simp;lia);have h2:((List.range 25).map (up a i v))[j]? =none:=List.getElem?_eq_none (by simp;lia);rw[h1,h2];split
  ·rw[if_neg (by simp;lia)]
  ·rfl
theorem EX{a:Nat→LV}{i:Nat}{d:D}(h:a i=.d d)(hi:i<25):AD i (A8 a)=some d:=by
 unfold AD;rw[H6 a hi,h];rfl
theorem FU{a:Nat→LV}{i:Nat}{d:D}(h:a i=.d d)(hi:i<25):AM i (A8 a)=some d:=by
 unfold AM;rw[H6 a hi,h];rfl
theorem bZ{a:Nat→LV}{i:Nat}{p:Option Addr}{ds:List D}(h:a i=.own (.list p) ds)(hi:i<25):AM i (A8 a)=some (.lst ds):=by
 unfold AM;rw[H6 a hi,h];rfl
theorem Eo{a:Nat→LV}{i:Nat}{p:Option Addr}{c:Addr}{q:Str}{d:D}(h:a i=.own (.tab p c q) [d])(hi:i<25):UI i (A8 a)=some d:=by
 unfold UI;rw[H6 a hi,h];rfl
theorem Ms(a:Nat→LV)(i j k:Nat)(d e f:D):A4 (A8 a) [i,j,k] [d,e,f]=A8 (up (up (up a i (.d d)) j (.d e)) k (.d f)):=by
 show(((A8 a).set i (.d d)).set j (.d e)).set k (.d f)=_;rw[D6,D6,D6]
noncomputable def FP(a:Nat→LV):List (Nat×Nat)→List LV→Option (List LV)
 |[],ρi=>some ρi
 |(i,j)::r,ρi=>match a j with
  |.d d=>FP a r (ρi.set i (.d d))
  |_=>none
theorem HK(a:Nat→LV):∀(l:List (Nat×Nat))(ρi:List LV),(∀e∈l,e.2<25)→C0 (A8 a) l ρi=FP a l ρi
 |[],_,_=>rfl
 |(i,j)::r,ρi,h=>by
  unfold C0 FP AD;dsimp only;rw[H6 a (h (i,j) (.head _))];cases a j<;>first|rfl|exact HK a r _ λe he=>h e (.tail _ he)
theorem FQ{a:Nat→LV}{i j:Nat}{r:List (Nat×Nat)}{ρi:List LV}{d:D}(h:a j=.d d):FP a ((i,j)::r) ρi=FP a r (ρi.set i (.d d)):=by
 rw[FP,h]
def L0(ds:List D):Option D:=if ds.length=2 then DB (X' OL OM) (A4 (AX 9) [0,1] ds)else none
theorem w5(x spots:Int)(hs:spots=6∨spots=7):L0 [.int x,.int spots]=some (.tup [.int (x.fmod spots),.int ((x.fdiv (12*spots)).fmod 8+1)]):=by
 unfold L0;refine(if_pos (by rfl)).trans ?_;exact Mh x spots hs
noncomputable def JP(us:List Int)(s n:Nat):List Nat:=(us.take n).map λx=>(x.fmod (s:Int)).toNat
noncomputable def GJ(us:List Int)(s n:Nat):List Nat:=(us.take n).map λx=>((x.fdiv (12*(s:Int))).fmod 8+1).toNat
theorem tW(us:List Int){s:Nat}(n:Nat)(h:0<s):vN (JP us s n)=(us.take n).map λx=>D.int (x.fmod (s:Int)):=by
 unfold vN JP;rw[List.map_map];refine List.map_congr_left λx V=>?_;show D.int (((x.fmod (s:Int)).toNat:Nat):Int)=_;rw[Int.toNat_of_nonneg (Int.fmod_nonneg_of_pos _ (by lia))]
theorem qD(us:List Int)(s n:Nat):vN (GJ us s n)=(us.take n).map λx=>D.int ((x.fdiv (12*(s:Int))).fmod 8+1):=by
 unfold vN GJ;rw[List.map_map];refine List.map_congr_left λx V=>?_;show D.int ((((x.fdiv (12*(s:Int))).fmod 8+1).toNat:Nat):Int)=_;rw[Int.toNat_of_nonneg (by have:=Int.fmod_nonneg_of_pos (x.fdiv (12*(s:Int))) (show(0:Int)<8 by lia);lia)]
theorem Qi(us:List Int){s:Nat}(n:Nat)(h:0<s):∀w∈JP us s n,w<s:=by
 intro w hw;obtain⟨x,_,rfl⟩:=List.mem_map.mp hw;have h1:=Int.fmod_nonneg_of_pos x (show(0:Int)<s by lia);have h2:=Int.fmod_lt_of_pos x (show(0:Int)<s by lia);lia
section
variable{a:Nat→LV}{us:List Int}{s n g:Nat}
theorem Gk{xs:List Int}{p:Option Addr}{c:Addr}{q:Str}(h0:a 0=.own (.tab p c q) [.ilst (vI xs)])(hd:LY [.ilst (vI xs)]=some (.lst (vI us))):WQ LY (A8 a)=some (.next,A8 (up a 21 (.d (.lst (vI us))))):=by
 unfold WQ;simp only[Eo h0 (by decide),Option.bind_some,CC,CF,CG,CH,CB,CJ,Option.map_some,hd,D6]
theorem Ft{us:List Int}{i:Nat}{x:Int}(h:us[i]? =some x)(hi:i<1000):BL (.lst (vI us)) (.int (i:Int))=some (.int x):=by
 rw[F9,PV (by lia) (by lia)];show(us.map D.int)[((i:Int)).toNat]? =_;rw[List.getElem?_map,show((i:Int)).toNat=i by lia,h];rfl
theorem Gy{u:Int}(h21:a 21=.d (.lst (vI us)))(hu:us[5]? =some u)(hs:(s:Int)=6+u.fmod 2)(hn:(n:Int)=4+(u.fdiv 2).fmod 2)(hg:(g:Int)=(u.fdiv 4).fmod 3)(hg3:g<3):W1 (A8 a)=some (.next,A8 (up (up (up a 17 (.d (.int (s:Int)))) 2 (.d (.int (n:Int)))) 7 (.d (.str (D' g))))):=by
 unfold W1;have hi:=Ft (i:=5) hu (by decide);have hi:BL (.lst (vI us)) (.int 5)=some (.int u):=hi;have m2:CZ (.int u) (.int 2)=some (.int (u.fmod 2)):=HZ (by decide);have d2:FO (.int u) (.int 2)=some (.int (u.fdiv 2)):=KN (by decide) (by decide);have m2':CZ (.int (u.fdiv 2)) (.int 2)=some (.int ((u.fdiv 2).fmod 2)):=HZ (by decide);have d4:FO (.int u) (.int 4)=some (.int (u.fdiv 4)):=KN (by decide) (by decide);have m3:CZ (.int (u.fdiv 4)) (.int 3)=some (.int (g:Int)):=by rw[HZ (by decide),hg]
 have hmul:KO (.str " ") (.int (g:Int))=some (.str (D' g)):=by
  exact aW (by decide) (by lia) (by lia)
 have a6:BW (.int 6) (.int (u.fmod 2))=some (.int (s:Int)):=by rw[Q5,hs]
 have a4:BW (.int 4) (.int ((u.fdiv 2).fmod 2))=some (.int (n:Int)):=by rw[Q5,hn]
 have ht:D5 [17,2,7].length (.tup [.int (s:Int),.int (n:Int),.str (D' g)])=some [.int (s:Int),.int (n:Int),.str (D' g)]:=rfl;simp only[FU h21 (by decide),Option.bind_some,CC,CF,CG,CH,CB,CJ,hi,m2,d2,m2',d4,m3,hmul,a6,a4,eN,if_true,ht,Option.map_some,Ms]
theorem bB(us:List Int)(n:Nat)(hl:us.length≤1000):KQ (.lst (vI us)) (.int (n:Int))=some (.lst (vI (us.take n))):=by
 refine(if_pos (HP (by simp;lia))).trans ?_;have:OD (vI us) (n:Int)=vI (us.take n):=by
  unfold OD vI;rw[if_pos (by lia),List.map_take];rfl
 rw[this]
theorem dD(us:List Int)(hl:us.length≤1000):DQ (.lst (vI us))=some (vI us):=by
 exact if_pos (HP (by simp;lia))
theorem Hd(h21:a 21=.d (.lst (vI us)))(h17:a 17=.d (.int (s:Int)))(h2:a 2=.d (.int (n:Int)))(hs:s=6∨s=7)(hl:us.length=6):W6 (A8 a)=some (.next,A8 (up a 24 (.d (.lst (vN (JP us s n)))))):=by
 unfold W6;have hc:B2 (BN (λρ d=>some (ρ.set 0 (LV.d d))) XQ WM [.unset,.d (.int (s:Int))]) (vI (us.take n))=some (vN (JP us s n)):=by
  rw[tW us n (by lia)];refine JG _ _ λx V=>?_;unfold BN XQ WM;have:CZ (.int x) (.int (s:Int))=some (.int (x.fmod (s:Int))):=HZ (by lia);simp! only[this]
 have hk:FP a [(1,17)] (AX 2)=some [.unset,.d (.int (s:Int))]:=by rw[FQ h17];rfl
 simp only[FU h21 (by decide),EX h2 (by decide),Option.bind_some,CC,CF,CG,CH,CB,CJ,bB us n (by lia),dD (us.take n) (by simp;lia),HK a [(1,17)] (AX 2) (by decide),hk,hc,Option.map_some,D6]
theorem He(h21:a 21=.d (.lst (vI us)))(h17:a 17=.d (.int (s:Int)))(h2:a 2=.d (.int (n:Int)))(hs:s=6∨s=7)(hl:us.length=6):W7 (A8 a)=some (.next,A8 (up a 11 (.d (.lst (vN (GJ us s n)))))):=by
 unfold W7;have hc:B2 (BN (λρ d=>some (ρ.set 0 (LV.d d))) XO WK [.unset,.d (.int (s:Int))]) (vI (us.take n))=some (vN (GJ us s n)):=by
  rw[qD us s n];refine JG _ _ λx V=>?_;unfold BN XO WK;have hm:EH (.int 12) (.int (s:Int))=some (.int (12*(s:Int))):=KP (by decide) (by rcases hs with rfl|rfl<;>decide);have hd:FO (.int x) (.int (12*(s:Int)))=some (.int (x.fdiv (12*(s:Int)))):=KN (by lia) (by rcases hs with rfl|rfl<;>decide);have hm8:CZ (.int (x.fdiv (12*(s:Int)))) (.int 8)=some (.int ((x.fdiv (12*(s:Int))).fmod 8)):=HZ (by decide);simp! only[hm,hd,hm8]
 have hk:FP a [(1,17)] (AX 2)=some [.unset,.d (.int (s:Int))]:=by rw[FQ h17];rfl
 simp only[FU h21 (by decide),EX h2 (by decide),Option.bind_some,CC,CF,CG,CH,CB,CJ,bB us n (by lia),dD (us.take n) (by simp;lia),HK a [(1,17)] (AX 2) (by decide),hk,hc,Option.map_some,D6]
noncomputable def KY(us:List Int)(s n:Nat):List D:=(us.take n).map λx=>.tup [.int (x.fmod (s:Int)),.int ((x.fdiv (12*(s:Int))).fmod 8+1)]
theorem Hf(h21:a 21=.d (.lst (vI us)))(h17:a 17=.d (.int (s:Int)))(h2:a 2=.d (.int (n:Int)))(hs:s=6∨s=7)(hl:us.length=6):W8 L0 (A8 a)=some (.next,A8 (up a 15 (.d (.lst (KY us s n))))):=by
 unfold W8;have hc:B2 (BN (λρ d=>some (ρ.set 0 (LV.d d))) XN (WJ L0) [.unset,.d (.int (s:Int))]) (vI (us.take n))=some (KY us s n):=by
  refine JG _ _ λx V=>?_;unfold BN XN WJ;have:=w5 x (s:Int) (by lia);simp! only[this]
 have hk:FP a [(1,17)] (AX 2)=some [.unset,.d (.int (s:Int))]:=by rw[FQ h17];rfl
 simp only[FU h21 (by decide),EX h2 (by decide),Option.bind_some,CC,CF,CG,CH,CB,CJ,bB us n (by lia),dD (us.take n) (by simp;lia),HK a [(1,17)] (AX 2) (by decide),hk,hc,Option.map_some,D6]
theorem Hg(h15:a 15=.d (.lst (KY us s n)))(h24:a 24=.d (.lst (vN (JP us s n))))(h11:a 11=.d (.lst (vN (GJ us s n))))(hs:0<s)(hl:us.length=6):W9 (A8 a)=some (.next,A8 a):=by
 unfold W9;have hz:List.zipWith (λa b=>D.tup [a,b]) (vN (JP us s n)) (vN (GJ us s n))=KY us s n:=by
  rw[tW us n hs,qD us s n,List.zipWith_map,List.zipWith_self];rfl
 have hlen:(vN (JP us s n)).length=(vN (GJ us s n)).length∧(vN (JP us s n)).length≤100000:=by
  rw[IU,IU];unfold JP GJ;simp;lia
 have hok:EA (.lst (KY us s n))=true:=R3 (n:=7) λd hd=>by
  obtain⟨x,_,rfl⟩:=List.mem_map.mp hd;exact PQ (n:=6) λe he=>by
   rcases List.mem_cons.mp he with rfl|he
   ·exact KV _ _
   ·rcases List.mem_cons.mp he with rfl|he
    ·exact KV _ _
    ·cases he
 have hF:(false=true)=False:=by simp
 simp only[FU h15 (by decide),FU h24 (by decide),FU h11 (by decide),Option.bind_some,CC,CF,CG,CH,CB,CJ,if_pos hlen,hz,Option.map_some,O5 hok rfl,hF,if_false]
theorem Hh:XA (A8 a)=some (.next,A8 (up a 14 (.own (.list none) []))):=by
 unfold XA;simp only[Option.bind_some,CC,CF,CG,CH,CB,CJ,VK,if_true,Option.map_some,D6]
end
def JJ(mg:Str→Option Value):FuncData:=LK {posonlyargs:=[],args:=[{arg:=Str.ofString "each",annotation:=none,pos:={line:=268,col:=41,endLine:=268,endCol:=45}}],vararg:=none,kwonlyargs:=[],kw_defaults:=[],kwarg:=none,defaults:=[]} (((Expr.Name (Str.ofString "seen") {line:=268,col:=47,endLine:=268,endCol:=51}).Subscript (Expr.Name (Str.ofString "each") {line:=268,col:=52,endLine:=268,endCol:=56}) {line:=268,col:=47,endLine:=268,endCol:=57}).Subscript (Expr.Constant (Const.int 1) 0 {line:=268,col:=58,endLine:=268,endCol:=59}) {line:=268,col:=47,endLine:=268,endCol:=60}) {kind:=ScopeKind.function,names:=[(Str.ofString "each",NameKind.local),(Str.ofString "seen",NameKind.free)],isGenerator:=false,isCoroutine:=false} ((mg (Str.ofString "__name__")).getD Value.none)
def NB(mg:Str→Option Value):FuncData:=LK {posonlyargs:=[],args:=[{arg:=Str.ofString "each",annotation:=none,pos:={line:=269,col:=46,endLine:=269,endCol:=50}}],vararg:=none,kwonlyargs:=[],kw_defaults:=[],kwarg:=none,defaults:=[]} (Expr.Tuple [(Expr.Name (Str.ofString "lights") {line:=269,col:=53,endLine:=269,endCol:=59}).Subscript (Expr.Name (Str.ofString "each") {line:=269,col:=60,endLine:=269,endCol:=64}) {line:=269,col:=53,endLine:=269,endCol:=65},Expr.UnaryOp UnaryOp.USub (Expr.Name (Str.ofString "each") {line:=269,col:=68,endLine:=269,endCol:=72}) {line:=269,col:=67,endLine:=269,endCol:=72}] 0 {line:=269,col:=52,endLine:=269,endCol:=73}) {kind:=ScopeKind.function,names:=[(Str.ofString "each",NameKind.local),(Str.ofString "lights",NameKind.free)],isGenerator:=false,isCoroutine:=false} ((mg (Str.ofString "__name__")).getD Value.none)
def RK(v:Nat→Nat)(l:List Nat)(k:Nat):List Nat:=l.take (DS (l.map v) (v k))++k::l.drop (DS (l.map v) (v k))
def FK(v:Nat→Nat):Nat→List Nat
 |0=>[]
 |k+1=>RK v (FK v k) k
theorem Fe(v:Nat→Nat)(l:List Nat)(k:Nat):(RK v l k).Perm (k::l):=by
 unfold RK;refine List.perm_middle.trans ?_;rw[List.take_append_drop]
theorem P2(v:Nat→Nat):∀k,(FK v k).Perm (List.range k)
 |0=>.refl _
 |k+1=>by
  rw[List.range_succ];exact(Fe v _ k).trans (((P2 v k).cons k).trans (List.perm_append_singleton k _).symm)
noncomputable def G8(v:Nat→Nat)(c:Nat):Nat:=v c*10+(9-c)
theorem Oy{v:Nat→Nat}{l:List Nat}(hs:(l.map v).Pairwise (· ≤·))(x:Nat):(∀e∈l.take (DS (l.map v) x),v e<x)∧(∀e∈l.drop (DS (l.map v) x),x≤v e):=by
 obtain⟨h1,h2⟩:=aD hs x;have hat:∀i,(h:i<l.length)→(l.map v).getD i 0=v l[i]:= λi h=>by
  rw[List.getD_eq_getElem?_getD,List.getElem?_map,List.getElem?_eq_getElem h];rfl
 constructor
 ·intro e he;obtain⟨i,hi,rfl⟩:=List.mem_iff_getElem.mp he;rw[List.length_take]at hi;have:=h1 i (show i<DS (l.map v) x by lia);rw[hat i (by lia)]at this;rw[List.getElem_take];exact this.1
 ·intro e he;obtain⟨i,hi,rfl⟩:=List.mem_iff_getElem.mp he;rw[List.length_drop]at hi;have:=h2 (DS (l.map v) x+i) (Nat.le_add_right _ _) (by rw[List.length_map];lia);rw[hat _ (by lia)]at this;rw[List.getElem_drop];lia
theorem Fd{v:Nat→Nat}{l:List Nat}{k:Nat}(hk:k<10)(hl:∀e∈l,e<k)(hs:(l.map v).Pairwise (· ≤·))(ho:(l.map (G8 v)).Pairwise (· <·)):((RK v l k).map (G8 v)).Pairwise (· <·):=by
 obtain⟨h1,h2⟩:=Oy hs (v k);rw[←List.take_append_drop (DS (l.map v) (v k)) l,List.map_append,List.pairwise_append]at ho;unfold RK;rw[List.map_append,List.map_cons,List.pairwise_append,List.pairwise_cons];have lo:∀e∈l.take (DS (l.map v) (v k)),G8 v e<G8 v k:= λe he=>by
  have:=h1 e he;unfold G8;lia
 have hi:∀e∈l.drop (DS (l.map v) (v k)),G8 v k<G8 v e:= λe he=>by
  have:=h2 e he;have:=hl e (List.mem_of_mem_drop he);unfold G8;lia
 refine⟨ho.1,⟨?_,ho.2.1⟩,?_⟩
 ·intro y hy;obtain⟨e,he,rfl⟩:=List.mem_map.mp hy;exact hi e he
 ·intro x hx y hy;rcases List.mem_cons.mp hy with rfl|hy'
  ·obtain⟨e,he,rfl⟩:=List.mem_map.mp hx;exact lo e he
  ·exact ho.2.2 x hx y hy'
theorem qX{v:Nat→Nat}{l:List Nat}(hl:∀e∈l,e<10)(ho:(l.map (G8 v)).Pairwise (· <·)):(l.map v).Pairwise (· ≤·):=by
 rw[List.pairwise_map]at ho⊢;refine List.Pairwise.imp_of_mem ?_ ho;intro x y hx hy h;have:=hl x hx;have:=hl y hy;unfold G8 at h;lia
theorem eG(v:Nat→Nat):∀k,k≤10→((FK v k).map (G8 v)).Pairwise (· <·)
 |0,_=>.nil
 |k+1,h=>by
  have ih:=eG v k (by lia);have hlt:∀e∈FK v k,e<k:= λe he=>List.mem_range.mp ((P2 v k).subset he);exact Fd (by lia) hlt (qX (λe he=>by have:=hlt e he;lia) ih) ih
theorem Ml(v:Nat→Nat)(k:Nat):(FK v k).length=k:=by
 have:=(P2 v k).length_eq;rwa [List.length_range]at this
def NN(us:List Int)(s n:Nat)(c:Nat):Nat:=(GJ us s n).getD c 0
section
variable{a:Nat→LV}{us:List Int}{s n g:Nat}{mg:Str→Option Value}{fk:D→D→Option D}
theorem Gi{dy:D}{v:Nat→Nat}{q:Str}{p:Option Addr}{tb:List D}{k:Nat}(hk:k<n)(hn:n≤5)(h0:a 0=.own (.tab p 315 q) tb)(hq:q=Str.ofString "law.<locals>."++Str.ofString "<lambda>")(h15:a 15=.d dy)(h14:a 14=.own (.list none) (vN (FK v k)))(h1:a 1=.d (.int (k:Int)))
  (hfk:∀c,c<n→fk (.int (c:Int)) dy=some (.int (v c:Int))):
  SZ mg (I8 (JJ mg) (Str.ofString "seen") fk) (A8 a)=some (.next,A8 (up a 14 (.own (.list none) (vN (FK v (k+1)))))):=by
 have hlt:∀e∈FK v k,e<k:= λe he=>List.mem_range.mp ((P2 v k).subset he);have hs:((FK v k).map v).Pairwise (· ≤·):=qX (λe he=>by have:=hlt e he;lia) (eG v k (by lia));have hi:=Fh (fdk:=JJ mg) (yk:=Str.ofString "seen") (fk:=fk) (dy:=dy) (c:=k) hs (by rw[Ml];lia) λe he=>by
  rcases List.mem_cons.mp he with rfl|he
  ·exact hfk e hk
  ·exact hfk e (by have:=hlt e he;lia)
 have hfl:(vN (FK v (k+1))).all E9=true:=by
  rw[List.all_eq_true];intro d hd;obtain⟨x,_,rfl⟩:=List.mem_map.mp hd;rfl
 have hi:I8 (JJ mg) (Str.ofString "seen") fk (vN (FK v k)) [.int (k:Int)] [.clo (JJ mg) [Str.ofString "seen"] [dy]]=some (vN (FK v (k+1))):=hi;unfold JJ at hi⊢;unfold SZ;refine(A0 (ρ':=A8 (up a 14 (.own (.list none) (vN (FK v (k+1)))))) ?_).trans rfl;unfold hM;rw[H6 a (show 0<25 by decide),h0,oH,EX h15 (by decide),Option.bind_some,H6 a (show 14<25 by decide),h14,CB,if_pos ⟨rfl,hq⟩];simp only[EX h1 (by decide),Option.bind_some,CC,CF,CG,CH,CB,CJ,hi,hfl,if_true,D6]
theorem pQ{dy:D}{v:Nat→Nat}{q:Str}{p:Option Addr}{tb:List D}(hn:n≤5)(hq:q=Str.ofString "law.<locals>."++Str.ofString "<lambda>")(hfk:∀c,c<n→fk (.int (c:Int)) dy=some (.int (v c:Int))):∀(m k:Nat)(a:Nat→LV),k+m≤n→a 0=.own (.tab p 315 q) tb→a 15=.d dy→a 14=.own (.list none) (vN (FK v k))→
  ∃a':Nat→LV,B7 (λρ d=>some (ρ.set 1 (LV.d d))) (SZ mg (I8 (JJ mg) (Str.ofString "seen") fk)) (vN (List.range' k m)) (A8 a)=some (.next,A8 a')∧a' 14=.own (.list none) (vN (FK v (k+m)))∧∀i,i≠1→i≠14→a' i=a i
 |0,k,a,_,_,_,h14=>⟨a,rfl,h14,λV V V=>rfl⟩
 |m+1,k,a,hm,h0,h15,h14=>by
  have hb:=Gi (a:=up a 1 (.d (.int (k:Int)))) (mg:=mg) (n:=n) (k:=k) (by lia) hn (by rw[BR _ _ (by decide)];exact h0) hq (by rw[BR _ _ (by decide)];exact h15) (by rw[BR _ _ (by decide)];exact h14) (DI _ _ _) hfk;obtain⟨a',e1,e2,e3⟩:=pQ hn hq hfk m (k+1) (up (up a 1 (.d (.int (k:Int)))) 14 (.own (.list none) (vN (FK v (k+1))))) (by lia) (by rw[BR _ _ (by decide),BR _ _ (by decide)];exact h0) (by rw[BR _ _ (by decide),BR _ _ (by decide)];exact h15) (DI _ _ _);refine⟨a',?_,by rw[show k+(m+1)=k+1+m by lia];exact e2,λi h1 h14=>by rw[e3 i h1 h14,BR _ _ h14,BR _ _ h1]⟩;rw[←e1,List.range'_succ];exact GV (by rw[D6]) hb
theorem Hi{dy:D}{v:Nat→Nat}{q:Str}{p:Option Addr}{tb:List D}(hn:n≤5)(hq:q=Str.ofString "law.<locals>."++Str.ofString "<lambda>")(hfk:∀c,c<n→fk (.int (c:Int)) dy=some (.int (v c:Int)))(h0:a 0=.own (.tab p 315 q) tb)(h15:a 15=.d dy)(h14:a 14=.own (.list none) [])(h2:a 2=.d (.int (n:Int))):
  ∃a':Nat→LV,XB mg (I8 (JJ mg) (Str.ofString "seen") fk) (A8 a)=some (.next,A8 a')∧a' 14=.own (.list none) (vN (FK v n))∧∀i,i≠1→i≠14→a' i=a i:=by
 obtain⟨a',e1,e2,e3⟩:=pQ (mg:=mg) hn hq hfk n 0 a (by lia) h0 h15 h14;rw[Nat.zero_add]at e2;refine⟨a',?_,e2,e3⟩;unfold XB;simp only[EX h2 (by decide),Option.bind_some,CC,CF,CG,CH,CB,CJ,JI (n:=n) (by lia)];rw[List.range_eq_range'];exact e1
theorem qI{gk:D→List D→Option D}{k:D}{key:Nat→D}:∀(l:List Nat),(∀c∈l,gk k [.int (c:Int)]=some (key c))→NS gk k (vN l)=some (l.map key)
 |[],_=>rfl
 |c::l,h=>by
  show(gk k [.int (c:Int)]).bind (λo=>(NS gk k (vN l)).map (o::·))=_;rw[h c (.head _),Option.bind_some,qI l λe he=>h e (.tail _ he)];rfl
noncomputable def NL(v:Nat→Nat)(c:Nat):D:=.tup [.int (v c:Int),.int (-(c:Int))]
theorem Mm(v:Nat→Nat)(hn:n=4∨n=5):MR ((List.range n).map (NL v)) (vN (List.range n))=some (vN (FK v n)):=by
 have hlt:∀c∈List.range n,c<10:= λc hc=>by have:=List.mem_range.mp hc;lia
 have hinj:∀x∈List.range n,∀y∈List.range n,G8 v x=G8 v y→x=y:= λx hx y hy h=>by
  have:=hlt x hx;have:=hlt y hy;unfold G8 at h;lia
 obtain⟨ys,h1,h2,h3⟩:=eR (xs:=List.range n) (f:=G8 v) (key:=NL v) (val:= λ(c:Nat)=>D.int (c:Int)) (by rw[List.length_range];exact hn) (RW List.nodup_range hinj)
  (λx hx y hy hne=>by
   have:=hlt x hx;have:=hlt y hy;show some (if(v x:Int)=(v y:Int)then decide (-(x:Int)< -(y:Int))else decide ((v x:Int)<(v y:Int)))=_
   congr 1
   unfold G8;split
   ·exact decide_eq_decide.mpr (by lia)
   ·exact decide_eq_decide.mpr (by lia)) (by
   have:((List.range n).map (NL v)).all IT=true:=by
    rw[List.all_eq_true];intro d hd;obtain⟨c,_,rfl⟩:=List.mem_map.mp hd;rfl
   rw[this];rfl)
 rw[h3,VD (h1.trans (P2 v n).symm) h2 (eG v n (by lia))]
theorem Hj{dy:D}{v:Nat→Nat}{q:Str}{p:Option Addr}{tb:List D}{gk2:D→List D→Option D}(hn:n=4∨n=5)(hq:q=Str.ofString "law.<locals>."++Str.ofString "<lambda>")(hgk:∀c,c<n→gk2 (.clo (NB mg) [Str.ofString "lights"] [dy]) [.int (c:Int)]=some (NL v c))(h0:a 0=.own (.tab p 315 q) tb)(h11:a 11=.d dy)(h14:a 14=.own (.list none) (vN (FK v n)))(h2:a 2=.d (.int (n:Int))):
  XC mg gk2 (A8 a)=some (.next,A8 a):=by
 have hm:=qI (gk:=gk2) (k:=.clo (NB mg) [Str.ofString "lights"] [dy]) (key:=NL v) (List.range n) λc hc=>hgk c (List.mem_range.mp hc);have hr:EQ 0 (n:Int)=vN (List.range n):=eD n;have hrk:HN 0 (n:Int)=true:=by simp[HN];lia
 have hII:((List.range n).map (NL v)).all IT=true:=by
  rw[List.all_eq_true];intro d hd;obtain⟨c,_,rfl⟩:=List.mem_map.mp hd;rfl
 have hok:EA (.lst (vN (FK v n)))=true:=R5 7 _;have hF:(false=true)=False:=by simp
 have hd:((AM 2 (A8 a)).bind λa=>(some []).bind λl=>some (a::l)).bind Q9=some (.rng 0 (n:Int)):=by
  rw[FU h2 (by decide)];rfl
 unfold NB at hm;unfold XC;rw[H6 a (show 0<25 by decide),h0,oH,EX h11 (by decide),Option.bind_some,H6 a (show 14<25 by decide),h14,CB,if_pos ⟨rfl,hq⟩,hd,Option.bind_some,xM,Option.bind_some,if_pos hrk,hr,hm];simp only[Option.bind_some,CC,CF,CG,CH,CB,CJ,hII,if_true,Mm v hn,O5 hok rfl,hF,if_false]
theorem pA{c:Nat}:∀{l:List Nat},c∈l→KR (c:Int) (vN l)=some (l.idxOf c)
 |x::l,h=>by
  show(if(x:Int)=(c:Int)then some 0 else(KR (c:Int) (vN l)).map (· +1))=_;by_cases e:x=c
  ·subst e;rw[if_pos rfl,List.idxOf_cons_self]
  ·have hb:(x==c)=false:=beq_eq_false_iff_ne.mpr e;rw[if_neg (by lia),List.idxOf_cons,hb,cond_false];have hc:c∈l:=by
    rcases List.mem_cons.mp h with h|h
    ·exact absurd h.symm e
    ·exact h
   rw[pA hc];rfl
noncomputable def C6(row:List Nat)(n:Nat):List Nat:=(List.range n).map λc=>row.idxOf c
theorem VI{row:List Nat}{n c:Nat}(h:c<n):(C6 row n).getD c 0=row.idxOf c:=MF h
theorem Mj{row:List Nat}(hp:row.Perm (List.range n)):CO (λc=>(C6 row n).getD c 0) (List.range n):=by
 intro x hx y hy h;have hx':=List.mem_range.mp hx;have hy':=List.mem_range.mp hy;have h:row.idxOf x=row.idxOf y:=by rw[←VI hx',←VI hy'];exact h
 have h1:=List.idxOf_lt_length_of_mem (hp.symm.subset hx);have h2:=List.idxOf_lt_length_of_mem (hp.symm.subset hy);have e1:=List.getElem_idxOf h1;have e2:=List.getElem_idxOf h2;rw[←e1,←e2]
 congr 1
theorem Gl{row:List Nat}(hn:n=4∨n=5)(hp:row.Perm (List.range n))(h14:a 14=.d (.lst (vN row)))(h2:a 2=.d (.int (n:Int))):WR (A8 a)=some (.next,A8 (up a 13 (.d (.lst (vN (C6 row n)))))):=by
 have hl:row.length=n:=by have:=hp.length_eq;rwa [List.length_range]at this
 have hc:B2 (BN (λρ d=>some (ρ.set 0 (LV.d d))) XM WI [.unset,.d (.lst (vN row))]) (vN (List.range n))=some (vN (C6 row n)):=by
  have:vN (C6 row n)=(List.range n).map λc=>D.int ((row.idxOf c:Nat):Int):=by unfold vN C6;rw[List.map_map];rfl
  rw[this];refine JG _ _ λc hc=>?_;unfold BN XM WI;have hi:cN (.lst (vN row))=true:=rfl;have hx:aL [.lst (vN row),.int (c:Int)]=some (.int ((row.idxOf c:Nat):Int)):=by
   refine(if_pos (by rw[GZ (by lia),UP];rfl)).trans ?_;rw[pA (hp.symm.subset hc)];rfl
  simp! only[hi,hx]
 have hk:FP a [(1,14)] (AX 2)=some [.unset,.d (.lst (vN row))]:=by rw[FQ h14];rfl
 unfold WR;simp only[EX h2 (by decide),Option.bind_some,CC,CF,CG,CH,CB,CJ,JI (n:=n) (by lia),HK a [(1,14)] (AX 2) (by decide),hk,hc,Option.map_some,D6]
end
theorem Bg{xs:List Nat}{w:Nat→Nat}(h0:0∈xs):M8 [.lst (xs.map λi=>D.int ((w i:Int)-(i:Int)))]=some (.int ((BV (xs.map λi=>w i-i):Nat):Int)):=by
 have hI:J5 (xs.map λi=>D.int ((w i:Int)-(i:Int)))=some (xs.map λ(i:Nat)=>((w i:Int)-(i:Int))):=by
  clear h0
  induction xs with
  |nil=>rfl
  |cons a l ih=>
   show(J5 (l.map λi=>D.int ((w i:Int)-(i:Int)))).map _=_;rw[ih];rfl
 show(J5 _).bind _=_;rw[hI,Option.bind_some];obtain⟨m,hm⟩:∃m,dI (xs.map λ(i:Nat)=>((w i:Int)-(i:Int)))=some m∧m∈(xs.map λ(i:Nat)=>((w i:Int)-(i:Int)))∧∀b∈(xs.map λ(i:Nat)=>((w i:Int)-(i:Int))),b≤m:=by
  cases xs with
  |nil=>cases h0
  |cons a l=>
   obtain⟨h1,h2⟩:=ZW (l.map λ(i:Nat)=>((w i:Int)-(i:Int))) ((w a:Int)-(a:Int));exact⟨_,rfl,h1,h2⟩
 obtain⟨hm1,hm2,hm3⟩:=hm;rw[hm1,Option.map_some];have hne:xs.map (λi=>w i-i)≠[]:=by
  cases xs with
  |nil=>cases h0
  |cons a l=>simp
 obtain⟨i,hi,ei⟩:=List.mem_map.mp hm2;obtain⟨j,hj,ej⟩:=List.mem_map.mp (NT hne);have b1:=U3 (List.mem_map.mpr ⟨i,hi,rfl⟩:w i-i∈xs.map λi=>w i-i);have b2:=hm3 _ (List.mem_map.mpr ⟨j,hj,rfl⟩);have b3:=hm3 _ (List.mem_map.mpr ⟨0,h0,rfl⟩)
 congr 2
 lia
section
variable{a:Nat→LV}{s st n g:Nat}{ws:List Nat}
theorem Bw{spot far:Nat}(hs:0<s)(hw:∀w∈ws,w<s)(hl:ws.length≤1000):
  S2 [.d (.int (far:Int)),.d (.lst (vN ws)),.d (.int (s:Int)),.d (.int (spot:Int))]=some (.int ((GQ (BJ ws) s spot far:Nat):Int)):=by
 have hc:B2 (BN (λρ d=>some (ρ.set 0 (LV.d d))) XJ WH [.unset,.d (.int (far:Int)),.d (.int (s:Int)),.d (.int (spot:Int))]) (vN ws)=some ((ws.filter λw=>Nat.blt ((spot+s-w)%s) far).map λV=>D.int 1):=by
  refine T5 _ _ _ λw hwm=>?_;have hwlt:=hw w hwm;unfold BN XJ WH;have hlt:decide ((((spot+s-w)%s:Nat):Int)<(far:Int))=Nat.blt ((spot+s-w)%s) far:=by
   rw[Bool.eq_iff_iff,decide_eq_true_eq,Nat.blt_eq];lia
  simp! only[aU _ _ _ (Nat.le_of_lt hwlt) hs,hlt];split<;>rfl
 have hk:C0 [.d (.int (far:Int)),.d (.lst (vN ws)),.d (.int (s:Int)),.d (.int (spot:Int))] [(1,0),(2,2),(3,3)] (AX 4)=some [.unset,.d (.int (far:Int)),.d (.int (s:Int)),.d (.int (spot:Int))]:=rfl;have hlo:DQ (.lst (vN ws))=some (vN ws):=by
  exact if_pos (GZ (by lia))
 have hln:GA [.lst ((ws.filter λw=>Nat.blt ((spot+s-w)%s) far).map λV=>D.int 1)]=some (.int ((GQ (BJ ws) s spot far:Nat):Int)):=by
  have hle:=List.length_filter_le (λw=>Nat.blt ((spot+s-w)%s) far) ws;rw[mR (HP (by rw[List.length_map];lia)),List.length_map];unfold GQ BJ;rw[List.countP_eq_length_filter]
 unfold S2;simp! only[hlo,hk,hc,hln]
theorem Gh{spot:Nat}{dr:List Nat}(hs:s=6∨s=7)(hn:n=4∨n=5)(hw:∀w∈ws,w<s)(hl:ws.length=n)(h2:a 2=.d (.int (n:Int)))(h24:a 24=.d (.lst (vN ws)))(h17:a 17=.d (.int (s:Int)))(h16:a 16=.d (.int (spot:Int)))(h5:a 5=.own (.list none) (vN dr))(hdr:dr.length≤500):
  ∃a':Nat→LV,SY (A8 a)=some (.next,A8 a')∧a' 5=.own (.list none) (vN (dr++[D8 (BJ ws) s n spot]))∧∀i,i≠5→i≠23→a' i=a i:=by
 refine⟨up (up a 23 (.d (.lst (vN ((List.range n).map (GQ (BJ ws) s spot)))))) 5 (.own (.list none) (vN (dr++[D8 (BJ ws) s n spot]))),?_,DI _ _ _,λi h5 h23=>by rw[BR _ _ h5,BR _ _ h23]⟩;unfold SY;refine(A0 (ρ':=A8 (up a 23 (.d (.lst (vN ((List.range n).map (GQ (BJ ws) s spot))))))) ?_).trans ?_
 ·unfold g7;have hk:FP a [(1,24),(2,17),(3,16)] (AX 4)=some [.unset,.d (.lst (vN ws)),.d (.int (s:Int)),.d (.int (spot:Int))]:=by rw[FQ h24,FQ h17,FQ h16];rfl
  have hc:B2 (BN (λρ d=>some (ρ.set 0 (LV.d d))) XK S2 [.unset,.d (.lst (vN ws)),.d (.int (s:Int)),.d (.int (spot:Int))]) (vN (List.range n))=some (vN ((List.range n).map (GQ (BJ ws) s spot))):=by
   have:vN ((List.range n).map (GQ (BJ ws) s spot))=(List.range n).map λfar=>D.int ((GQ (BJ ws) s spot far:Nat):Int):=by unfold vN;rw[List.map_map];rfl
   rw[this];refine JG _ _ λfar V=>?_;unfold BN XK;have:=Bw (ws:=ws) (s:=s) (spot:=spot) (far:=far) (by lia) hw (by lia);simp! only[this]
  simp only[EX h2 (by decide),Option.bind_some,CC,CF,CG,CH,CB,CJ,JI (n:=n) (by lia),HK a [(1,24),(2,17),(3,16)] (AX 4) (by decide),hk,hc,Option.map_some,D6]
 unfold gZ;refine(A0 (ρ':=A8 (up (up a 23 (.d (.lst (vN ((List.range n).map (GQ (BJ ws) s spot)))))) 5 (.own (.list none) (vN (dr++[D8 (BJ ws) s n spot]))))) ?_).trans rfl;unfold hJ;obtain⟨b,hb⟩:∃b,b=up a 23 (.d (.lst (vN ((List.range n).map (GQ (BJ ws) s spot))))):=⟨_,rfl⟩;rw[←hb];have b5:b 5=.own (.list none) (vN dr):=by rw[hb,BR _ _ (by decide)];exact h5
 have b2:b 2=.d (.int (n:Int)):=by rw[hb,BR _ _ (by decide)];exact h2
 have b23:b 23=.d (.lst (vN ((List.range n).map (GQ (BJ ws) s spot)))):=by rw[hb,DI]
 rw[H6 b (show 5<25 by decide),b5,CB];have hk:FP b [(1,23)] (AX 2)=some [.unset,.d (.lst (vN ((List.range n).map (GQ (BJ ws) s spot))))]:=by rw[FQ b23];rfl
 have hc:B2 (BN (λρ d=>some (ρ.set 0 (LV.d d))) XI WG [.unset,.d (.lst (vN ((List.range n).map (GQ (BJ ws) s spot))))]) (vN (List.range n))=some ((List.range n).map λfar=>D.int ((GQ (BJ ws) s spot far:Int)-(far:Int))):=by
  refine JG _ _ λfar hf=>?_;have hf:=List.mem_range.mp hf;unfold BN XI WG;have hi:=HJ (xs:=(List.range n).map (GQ (BJ ws) s spot)) (c:=far) (by simpa using hf) (by simp;lia);rw[MF hf,F9]at hi;simp! only[hi]
 have hmx:M8 [.lst ((List.range n).map λfar=>D.int ((GQ (BJ ws) s spot far:Int)-(far:Int)))]=some (.int ((D8 (BJ ws) s n spot:Nat):Int)):=Bg (w:=GQ (BJ ws) s spot) (List.mem_range.mpr (by lia));have happ:HY (vN dr) [.int ((D8 (BJ ws) s n spot:Nat):Int)]=some (vN (dr++[D8 (BJ ws) s n spot])):=by
  rw[M6 (by rw[IU];lia)];unfold vN;rw[List.map_append];rfl
 simp only[EX b2 (by decide),Option.bind_some,CC,CF,CG,CH,CB,CJ,JI (n:=n) (by lia),HK b [(1,23)] (AX 2) (by decide),hk,hc,Option.map_some,hmx,happ,D6]
theorem pN(hs:s=6∨s=7)(hn:n=4∨n=5)(hw:∀w∈ws,w<s)(hl:ws.length=n):∀(m k:Nat)(a:Nat→LV),k+m≤s→a 2=.d (.int (n:Int))→a 24=.d (.lst (vN ws))→a 17=.d (.int (s:Int))→a 5=.own (.list none) (vN ((List.range k).map (D8 (BJ ws) s n)))→
  ∃a':Nat→LV,B7 (λρ d=>some (ρ.set 16 (LV.d d))) SY (vN (List.range' k m)) (A8 a)=some (.next,A8 a')∧a' 5=.own (.list none) (vN ((List.range (k+m)).map (D8 (BJ ws) s n)))∧∀i,i≠5→i≠16→i≠23→a' i=a i
 |0,k,a,_,_,_,_,h5=>⟨a,rfl,h5,λV V V V=>rfl⟩
 |m+1,k,a,hm,h2,h24,h17,h5=>by
  obtain⟨b,e1,e2,e3⟩:=Gh (a:=up a 16 (.d (.int (k:Int)))) (spot:=k) hs hn hw hl (by rw[BR _ _ (by decide)];exact h2) (by rw[BR _ _ (by decide)];exact h24) (by rw[BR _ _ (by decide)];exact h17) (DI _ _ _) (by rw[BR _ _ (by decide)];exact h5) (by rw[List.length_map,List.length_range];lia);have e2:b 5=.own (.list none) (vN ((List.range (k+1)).map (D8 (BJ ws) s n))):=by
   rw[e2,List.range_succ,List.map_append];rfl
  obtain⟨a',f1,f2,f3⟩:=pN hs hn hw hl m (k+1) b (by lia) (by rw[e3 2 (by decide) (by decide),BR _ _ (by decide)];exact h2) (by rw[e3 24 (by decide) (by decide),BR _ _ (by decide)];exact h24) (by rw[e3 17 (by decide) (by decide),BR _ _ (by decide)];exact h17) e2;refine⟨a',?_,by rw[show k+(m+1)=k+1+m by lia];exact f2,λi h5 h16 h23=>by rw[f3 i h5 h16 h23,e3 i h5 h23,BR _ _ h16]⟩;rw[←f1,List.range'_succ];exact GV (by rw[D6]) e1
theorem Gp(hs:s=6∨s=7)(hn:n=4∨n=5)(hw:∀w∈ws,w<s)(hl:ws.length=n)(h2:a 2=.d (.int (n:Int)))(h24:a 24=.d (.lst (vN ws)))(h17:a 17=.d (.int (s:Int)))(h5:a 5=.own (.list none) []):
  ∃a':Nat→LV,WT (A8 a)=some (.next,A8 a')∧a' 5=.own (.list none) (vN ((List.range s).map (D8 (BJ ws) s n)))∧∀i,i≠5→i≠16→i≠23→a' i=a i:=by
 obtain⟨a',e1,e2,e3⟩:=pN hs hn hw hl s 0 a (by lia) h2 h24 h17 h5;rw[Nat.zero_add]at e2;refine⟨a',?_,e2,e3⟩;unfold WT;simp only[EX h17 (by decide),Option.bind_some,CC,CF,CG,CH,CB,CJ,JI (n:=s) (by lia)];rw[List.range_eq_range'];exact e1
theorem Go:WS (A8 a)=some (.next,A8 (up a 5 (.own (.list none) []))):=by
 unfold WS;simp only[Option.bind_some,CC,CF,CG,CH,CB,CJ,VK,if_true,Option.map_some,D6]
theorem oU{x:Nat}:∀(l:List Nat),NJ (x:Int) (vN l)=decide (0<l.countP λw=>Nat.beq w x)
 |[]=>rfl
 |y::l=>by
  show((y:Int)==(x:Int)||NJ (x:Int) (vN l))=_;rw[oU l,List.countP_cons];by_cases e:y=x
  ·subst e;rw[if_pos (Nat.beq_refl y),beq_self_eq_true,decide_eq_true (Nat.succ_pos _)];rfl
  ·have h1:((y:Int)==(x:Int))=false:=by rw[beq_eq_false_iff_ne];lia
   have h2:¬Nat.beq y x=true:=by rw[Nat.beq_eq];exact e
   rw[h1,if_neg h2];rfl
theorem Gq{rest:List Nat}(hs:s=6∨s=7)(hf:(List.range s).filter (ND (BJ ws) s n)=st::rest)(h17:a 17=.d (.int (s:Int)))(h24:a 24=.d (.lst (vN ws)))(h5:a 5=.d (.lst (vN ((List.range s).map (D8 (BJ ws) s n))))):WU (A8 a)=some (.next,A8 (up a 19 (.d (.int (st:Int))))):=by
 have hk:FP a [(1,24),(2,5)] (AX 3)=some [.unset,.d (.lst (vN ws)),.d (.lst (vN ((List.range s).map (D8 (BJ ws) s n))))]:=by rw[FQ h24,FQ h5];rfl
 obtain⟨dr,hdr⟩:∃dr,dr=(List.range s).map (D8 (BJ ws) s n):=⟨_,rfl⟩;have hdl:dr.length=s:=by rw[hdr,List.length_map,List.length_range]
 rw[←hdr]at hk;have hc:B2 (BN (λρ d=>some (ρ.set 0 (LV.d d))) XG WF [.unset,.d (.lst (vN ws)),.d (.lst (vN dr))]) (vN (List.range s))=some (vN (st::rest)):=by
  rw[←hf];refine T5 _ _ _ λspot hsp=>?_;have hsp:=List.mem_range.mp hsp;have hin:aK (.int (spot:Int)) (.lst (vN ws))=some (NJ (spot:Int) (vN ws)):=if_pos (UP ws);have hit:BL (.lst (vN dr)) (.int ((spot:Int)-1))=some (.int ((D8 (BJ ws) s n ((spot+s-1)%s):Nat):Int)):=by
   rcases Nat.eq_zero_or_pos spot with e|e
   ·subst e;have h1:=cQ (l:=dr) (by intro h;rw[h]at hdl;simp at hdl;lia) (by lia);have h2:dr.getLastD 0=D8 (BJ ws) s n ((0+s-1)%s):=by
     rw[List.getLastD_eq_getLast?,List.getLast?_eq_getElem?,hdl,hdr,List.getElem?_map,List.getElem?_range (by lia),Nat.mod_eq_of_lt (show 0+s-1<s by lia),show 0+s-1=s-1 by lia];rfl
    rw[h2]at h1;exact h1
   ·have e1:(spot:Int)-1=((spot-1:Nat):Int):=by lia
    have h1:=HJ (xs:=dr) (c:=spot-1) (by lia) (by lia);rw[e1,h1,hdr,MF (show spot-1<s by lia),show spot+s-1=spot-1+s by lia,Nat.add_mod_right,Nat.mod_eq_of_lt (by lia)]
  rw[F9]at hit;unfold BN XG WF;have hfc:ND (BJ ws) s n spot=((!NJ (spot:Int) (vN ws))&&(D8 (BJ ws) s n ((spot+s-1)%s)).beq 0):=by
   unfold ND
   congr 1
   rw[oU];unfold BJ;rw[Bool.eq_iff_iff,Nat.beq_eq,Bool.not_eq_true',decide_eq_false_iff_not];lia
  rw[hfc];have hb0:(((D8 (BJ ws) s n ((spot+s-1)%s):Nat):Int)==0)=(D8 (BJ ws) s n ((spot+s-1)%s)).beq 0:=by
   rw[Bool.eq_iff_iff,beq_iff_eq,Nat.beq_eq];lia
  simp! only[hin,hit,hb0];cases NJ (spot:Int) (vN ws)
  ·simp only[Bool.not_false,Bool.true_and,if_true,Option.bind_some,CC,CF,CG,CH,CB,CJ];split<;>rfl
  ·rfl
 have h0:BL (.lst (vN (st::rest))) (.int 0)=some (.int (st:Int)):=rfl;unfold WU;simp only[EX h17 (by decide),Option.bind_some,CC,CF,CG,CH,CB,CJ,JI (n:=s) (by lia),HK a [(1,24),(2,5)] (AX 3) (by decide),hk,hc,Option.map_some,h0,D6]
theorem Gr{rk:List Nat}(O:B5 s st n g ws rk)(h24:a 24=.d (.lst (vN ws)))(h13:a 13=.d (.lst (vN rk)))(h7:a 7=.d (.str (D' g)))(h17:a 17=.d (.int (s:Int)))(h19:a 19=.d (.int (st:Int))):
  WV LZ (A8 a)=some (.next,A8 (up a 4 (.d (.lst ((List.range 3).map λκ=>.lst (EB s st g κ n ws rk)))))):=by
 have hk:FP a [(1,24),(2,13),(3,7),(4,17),(5,19)] (AX 6)=some [.unset,.d (.lst (vN ws)),.d (.lst (vN rk)),.d (.str (D' g)),.d (.int (s:Int)),.d (.int (st:Int))]:=by rw[FQ h24,FQ h13,FQ h7,FQ h17,FQ h19];rfl
 have hc:B2 (BN (λρ d=>some (ρ.set 0 (LV.d d))) XF (WE LZ) [.unset,.d (.lst (vN ws)),.d (.lst (vN rk)),.d (.str (D' g)),.d (.int (s:Int)),.d (.int (st:Int))]) (vN (List.range 3))=some ((List.range 3).map λκ=>.lst (EB s st g κ n ws rk)):=by
  refine JG _ _ λκ hκ=>?_;have hl:=Ig O (List.mem_range.mp hκ);unfold BN XF WE;simp! only[hl]
 have h3:GU [.int 3]=some (vN (List.range 3)):=JI (n:=3) (by lia);unfold WV;simp only[Option.bind_some,CC,CF,CG,CH,CB,CJ,h3,HK a [(1,24),(2,13),(3,7),(4,17),(5,19)] (AX 6) (by decide),hk,hc,Option.map_some,D6]
end
theorem sQ:∀l:List Nat,B3 l=l.sum
 |[]=>rfl
 |a::l=>by rw[List.sum_cons,←sQ l];rfl
section
variable{s st n g:Nat}{ws rk:List Nat}
noncomputable abbrev oT(s st κ n:Nat)(ws rk:List Nat):List (Nat×Nat):=FX κ (qW s st ws) (rW rk) (List.range n) (s-1)
def B8(s st κ n:Nat)(ws rk:List Nat):List Nat:=(oT s st κ n ws rk).map λe=>e.1-qW s st ws e.2
theorem NW(O:B5 s st n g ws rk)(κ:Nat):DR s (oT s st κ n ws rk) (BB κ (qW s st ws) (rW rk) (List.range n)):=by
 have hs:=O.s6;refine⟨q7 _,λp c=>?_⟩;rw[PL];constructor
 ·rintro⟨h1,h2,h3⟩;exact⟨h1,by lia,h3⟩
 ·rintro⟨h1,h2,h3⟩;exact⟨h1,by lia,h3⟩
theorem RY(O:B5 s st n g ws rk)(κ:Nat):(oT s st κ n ws rk).length=n:=by
 have h:=dZ (κ:=κ) (q:=qW s st ws) (O.parted EL.all) (s-1);rw[O.done EL.all,List.length_nil,Nat.add_zero]at h;rw[h];have:(List.range n).filter (λc=>decide (0<qW s st ws c∧qW s st ws c≤s-1))=List.range n:=by
  rw[List.filter_eq_self];intro c hc;have:=O.q0 (List.mem_range.mp hc);exact decide_eq_true ⟨this.1,by lia⟩
 rw[this,List.length_range]
theorem RX(O:B5 s st n g ws rk){κ:Nat}{e:Nat×Nat}(h:e∈oT s st κ n ws rk):0<e.1∧e.1<s∧e.2<n∧qW s st ws e.2≤e.1∧0<qW s st ws e.2∧BB κ (qW s st ws) (rW rk) (List.range n) e.1=some e.2:=by
 obtain⟨p,c⟩:=e;have h1:=((NW O κ).iff p c).mp h;have h2:=N0 (O.parted EL.all) h1.2.2;exact⟨h1.1,h1.2.1,List.mem_range.mp h2.2.2.2.1,h2.2.2.2.2.1,h2.2.2.2.2.2,h1.2.2⟩
theorem VH{tab tab':List (Nat×Nat)}{T:Nat→Option Nat}(h:DR s tab T)(h':DR s tab' T):tab.Perm tab':=
 (List.perm_ext_iff_of_nodup h.nd h'.nd).mpr λ⟨p,c⟩=>(h.iff p c).trans (h'.iff p c).symm
theorem SP(O:B5 s st n g ws rk)(κ:Nat):(B8 s st κ n ws rk).length=n:=by
 unfold B8;rw[List.length_map,RY O κ]
theorem MV(O:B5 s st n g ws rk)(κ:Nat):B8 s st κ n ws rk≠[]:=by
 intro h;have h1:=SP O κ;have:=O.n4;rw[h,List.length_nil]at h1;lia
theorem QC(O:B5 s st n g ws rk)(κ:Nat):∀k∈B8 s st κ n ws rk,k<6:=by
 intro k hk;obtain⟨e,he,rfl⟩:=List.mem_map.mp hk;have:=RX O he;have:=O.s6;lia
theorem Pq(O:B5 s st n g ws rk)(κ:Nat):B3 (B8 s st κ n ws rk)=KB (cq (GY (BJ ws) s st)) (s-1):=by
 have h:=q8 (κ:=κ) (q:=qW s st ws) (O.parted EL.all) (s-1);rw[O.done EL.all]at h;have h0:K0 (qW s st ws) (s-1) []=0:=rfl;rw[h0,Nat.add_zero]at h;unfold B8;rw[sQ,h];have:(λp=>(DV (qW s st ws) (List.range n) p).length)=GY (BJ ws) s st:=by
  funext p;have:=pG (s:=s) (st:=st) (ws:=ws) p;rw[O.lw]at this;exact this
 rw[this]
def IP(s st:Nat)(ws:List Nat)(e:Nat×Nat):Nat:=(if(e.1-qW s st ws e.2)%2=0 then 97 else 65)+(st+e.1)%s
theorem Ah(O:B5 s st n g ws rk){e e':Nat×Nat}(h1:e.1<s)(h2:e'.1<s)(h:IP s st ws e=IP s st ws e'):e.1=e'.1:=by
 have a1:=JM O.hs (st+e.1);have a2:=JM O.hs (st+e'.1);unfold IP at h;refine P4 O.hst h1 h2 ?_;split at h<;>split at h<;>lia
theorem Oh{k i:Nat}(h:i<7):PyData.strOk (C4 k i)=true:=by
 have h1:(List.range 7).all (λi=>PyData.strOk (A' (97+i))&&PyData.strOk (A' (65+i)))=true:=by decide+kernel
 have h2:=List.all_eq_true.mp h1 i (List.mem_range.mpr h);rw[Bool.and_eq_true]at h2;unfold C4;split
 ·exact h2.1
 ·exact h2.2
theorem sL(O:B5 s st n g ws rk){κ:Nat}{tab:List (Nat×Nat)}(h:DR s tab (BB κ (qW s st ws) (rW rk) (List.range n))):
  ∃ys:List (Nat×Nat),ys.Perm tab∧(ys.map (IP s st ws)).Pairwise (· <·)∧L6 [.lst (BQ g s st (qW s st ws) tab)]=some (BQ g s st (qW s st ws) ys)∧EA (.lst (BQ g s st (qW s st ws) ys))=true:=by
 have hpm:=VH h (NW O κ);have hlen:tab.length=n:=by rw[hpm.length_eq,RY O κ]
 have hat:∀e∈tab,_:= λe he=>RX O (hpm.subset he);have hinj:∀e∈tab,∀e'∈tab,IP s st ws e=IP s st ws e'→e=e':=by
  rintro⟨p,c⟩ he ⟨p',c'⟩ he' hc;have a1:=hat _ he;have a2:=hat _ he';have e:p=p':=Ah O a1.2.1 a2.2.1 hc;subst e;have:=a1.2.2.2.2.2.symm.trans a2.2.2.2.2.2;cases this;rfl
 obtain⟨ys,h1,h2,h3⟩:=eR (xs:=tab) (f:=IP s st ws) (key:=G9 g s st (qW s st ws)) (val:=G9 g s st (qW s st ws)) (by rw[hlen];exact O.hn) (RW h.nd hinj)
  (λe he e' he' hne=>by
   show(if C4 (e.1-qW s st ws e.2) ((st+e.1)%s)=C4 (e'.1-qW s st ws e'.2) ((st+e'.1)%s)then none else some (decide ((C4 (e.1-qW s st ws e.2) ((st+e.1)%s)).cps.toList<(C4 (e'.1-qW s st ws e'.2) ((st+e'.1)%s)).cps.toList)))=_;have e1:C4 (e.1-qW s st ws e.2) ((st+e.1)%s)=A' (IP s st ws e):=rfl;have e2:C4 (e'.1-qW s st ws e'.2) ((st+e'.1)%s)=A' (IP s st ws e'):=rfl;rw[e1,e2,if_neg λq=>hne (l7 q)]
   congr 1
   refine decide_eq_decide.mpr ?_;show[IP s st ws e]<[IP s st ws e']↔IP s st ws e<IP s st ws e';rw[List.cons_lt_cons_iff];constructor
   ·rintro(q|⟨_,q⟩)
    ·exact q
    ·cases q
   ·exact λq=>.inl q) (by
   have:(tab.map (G9 g s st (qW s st ws))).all PC=true:=by
    rw[List.all_eq_true];intro d hd;obtain⟨c,_,rfl⟩:=List.mem_map.mp hd;rfl
   rw[this,Bool.or_true])
 refine⟨ys,h1,h2,?_,?_⟩
 ·have hsq:N9 (BQ g s st (qW s st ws) tab)=true:=by
   unfold BQ;clear h1 h2 h3 hinj hat hlen hpm h
   induction tab with
   |nil=>rfl
   |cons e l ih=>
    show(SG (G9 g s st (qW s st ws) e)&&N9 (l.map (G9 g s st (qW s st ws))))=true;rw[ih];rfl
  exact(if_pos hsq).trans h3
 ·refine R3 (n:=7) λd hd=>?_;obtain⟨e,he,rfl⟩:=List.mem_map.mp hd;have a1:=hat e (h1.subset he);have hn:=O.n4;have hs:=O.s6;refine PQ (n:=6) λd hd=>?_;rcases List.mem_cons.mp hd with rfl|hd
  ·exact qV _ (Oh (JM O.hs _))
  ·rcases List.mem_cons.mp hd with rfl|hd
   ·exact qV _ (RN O.hg (by lia) (by lia)).2.2.2.2.2
   ·cases hd
def KA(s st g κ n:Nat)(ws rk:List Nat)(p:Nat):D:=match BB κ (qW s st ws) (rW rk) (List.range n) p with
 |some c=>ld g s st ws p c
 |none=>.none
theorem qZ{κ:Nat}{q r:Nat→Nat}{W:List Nat}:∀m,FX κ q r W m=(List.range (m+1)).filterMap λp=>(BB κ q r W p).map λc=>(p,c)
 |0=>rfl
 |m+1=>by
  rw[List.range_succ,List.filterMap_append,←qZ m];show FX κ q r W m++_=_
  congr 1
  rw[List.filterMap_cons];cases BB κ q r W (m+1)<;>rfl
theorem Fy{ks:List Nat}(h:∀k∈ks,k<8)(h0:ks≠[])(hl:ks.length≤10):aP [.str "\t",.lst (ks.map λk=>.str (ER k))]=some (.str (Txt.join (Str.ofString "\t") (ks.map ER))):=by
 have h1:∀l:List Nat,SI (l.map λk=>D.str (ER k))=some (l.map ER):=by
  intro l
  induction l with
  |nil=>rfl
  |cons a l ih=>
   show(SI (l.map λk=>D.str (ER k))).map _=_;rw[ih];rfl
 have ht:(Str.ofString "\t").length=1:=by decide
 have hsl:∀k,k<8→(ER k).length=k:= λk hk=>by
  have:=congrArg List.length (aE hk);rw[List.length_replicate,Array.length_toList]at this;exact this
 have hfold:∀(l:List Nat)(b:Nat),(∀k∈l,k<8)→(l.map ER).foldl (λacc x=>acc+x.length+(Str.ofString "\t").length) b≤b+l.length*9:=by
  intro l
  induction l with
  |nil=>intro b _;exact Nat.le_refl _
  |cons a l ih=>
   intro b hb;have ha:=hb a (.head _);rw[List.map_cons,List.foldl_cons,hsl a ha,ht];have:=ih (b+a+1) λk hk=>hb k (.tail _ hk);rw[ht]at this;rw[List.length_cons];lia
 have hj:JoinOk (Str.ofString "\t") (ks.map ER)=true:=by
  unfold JoinOk;rw[List.foldl_toArray];have:=hfold ks 0 h;unfold PySem.Builtin.Str.tooLong;rw[Bool.not_eq_true',decide_eq_false_iff_not];show¬_>2^24;lia
 show(SI _).bind _=_;rw[h1,Option.bind_some];exact if_pos hj
theorem w'{ks:List Nat}(h:∀k∈ks,k<8)(h0:ks≠[])(hl:ks.length≤10):BW (.str (Txt.join (Str.ofString "\t") (ks.map ER))) (.str "x")=some (.str (MU ks)):=by
 have hc:=congrArg List.length (fA h h0);unfold MU at hc;rw[mJ,List.length_append,aA ks h0,Array.length_toList]at hc;have hsum:=VM (m:=7) (l:=ks) λk hk=>by have:=h k hk;lia
 have hx:(Str.ofString "x").length=1:=by decide
 refine T8 ?_;rw[hx];show(Txt.join (Str.ofString "\t") (ks.map ER)).cps.size+1≤_;lia
end
section
variable{a:Nat→LV}{H W aN aV:Addr}{s st n g:Nat}{ws rk:List Nat}
theorem Of(O:B5 s st n g ws rk){κ:Nat}{tab:List (Nat×Nat)}(h:DR s tab (BB κ (qW s st ws) (rW rk) (List.range n))){p:Nat}(hp:p<s):
  B1 H aN aV [EI H (BQ g s st (qW s st ws) tab),.str (A' (65+(st+p)%s))]=some (KA s st g κ n ws rk p):=by
 have hT:∀p c,BB κ (qW s st ws) (rW rk) (List.range n) p=some c→c<n:= λp c hc=>c6 O EL.all hc;rw[oQ (st:=st) (O.tabOk h hT) (JM O.hs (st+p)) (qC (JM O.hs (st+p)))]
 congr 1
 rcases Nat.eq_zero_or_pos p with e|e
 ·subst e;have hn:seek s st ((st+0)%s) tab=none:=by
   unfold seek;rw[List.find?_eq_none];rintro⟨p',c⟩ hm hd;have hd:(st+p')%s=(st+0)%s:=by simpa using hd
   have h1:=(h.iff p' c).mp hm;have:=P4 O.hst h1.2.1 hp hd;lia
  rw[hn];have h0:BB κ (qW s st ws) (rW rk) (List.range n) 0=none:=rfl;unfold KA;rw[h0];rfl
 ·rw[h.seek O.hst e hp];unfold KA;cases BB κ (qW s st ws) (rW rk) (List.range n) p<;>rfl
def DE(W:Addr)(s st κ n:Nat)(ws rk:List Nat):D:=A9 W (MU (B8 s st κ n ws rk)) (JQ (B8 s st κ n ws rk))
theorem Aq(O:B5 s st n g ws rk)(κ:Nat):B2 (BN (λρ d=>some (ρ.set 0 (LV.d d))) XD (WC W (IL W)) [.unset]) ((List.range s).map (KA s st g κ n ws rk))=some ((B8 s st κ n ws rk).map λk=>.str (ER k)):=by
 have hs:=O.s6;have hn:=O.n4;rw[T6 (KA s st g κ n ws rk) (λp=>(BB κ (qW s st ws) (rW rk) (List.range n) p).map λc=>D.str (ER (p-qW s st ws c)))]
 ·congr 1
  unfold B8 oT;rw[qZ,show s-1+1=s by lia,List.map_map,List.map_filterMap];refine bQ λp V=>?_;cases BB κ (qW s st ws) (rW rk) (List.range n) p<;>rfl
 ·intro p hp;have hp:=List.mem_range.mp hp;unfold BN XD WC KA;cases hc:BB κ (qW s st ws) (rW rk) (List.range n) p with
  |none=>
   simp! only[if_true];rfl
  |some c=>
   have h2:=N0 (O.parted EL.all) hc;have hcn:c<n:=List.mem_range.mp h2.2.2.2.1;have hq:=h2.2.2.2.2;have hk:p-qW s st ws c<8:=by lia
   have hmk:=dH (C:=W) O.hg hk (show c<5 by lia);have hnt:=(RO O.hg hk).2;have hat:=ZR (C:=W) (x:=BC g (p-qW s st ws c) c) (w:=FA g (p-qW s st ws c));rw[hnt]at hat;have hmul:KO (.str " ") (.int ((p-qW s st ws c:Nat):Int))=some (.str (ER (p-qW s st ws c))):=by
    exact aW (by decide) (by lia) (by lia)
   unfold ld;simp! only[hmk,hat,hmul];rfl
theorem Gg(O:B5 s st n g ws rk){κ:Nat}(hκ:κ<3){dr:List Nat}{ls:List D}(hdr:B3 dr=KB (cq (GY (BJ ws) s st)) (s-1))(hls:ls.length≤100)
  (h3:a 3=.d (.int (κ:Int)))(h24:a 24=.d (.lst (vN ws)))(h13:a 13=.d (.lst (vN rk)))(h7:a 7=.d (.str (D' g)))(h17:a 17=.d (.int (s:Int)))(h19:a 19=.d (.int (st:Int)))(h2:a 2=.d (.int (n:Int)))(h5:a 5=.d (.lst (vN dr)))(h4:a 4=.d (.lst ((List.range 3).map λκ=>.lst (EB s st g κ n ws rk))))(h10:a 10=.own (.list none) ls):
  ∃a':Nat→LV,SX H W (B1 H aN aV) (C7 H) (IL W) (K8 H W aN aV) (A8 a)=some (.next,A8 a')∧a' 10=.own (.list none) (ls++[DE W s st κ n ws rk])∧∀i,i≠9→i≠10→i≠18→i≠20→a' i=a i:=by
 have hs:=O.s6;have hn:=O.n4;obtain⟨tab,hrep,hpk⟩:=Kc (C:=H) (W':=W) (aN:=aN) (aV:=aV) O hκ;obtain⟨ks,hks⟩:∃ks,ks=B8 s st κ n ws rk:=⟨_,rfl⟩;have hkl:∀k∈ks,k<8:= λk hk=>by rw[hks]at hk;have:=QC O κ k hk;lia
 have hk0:ks≠[]:=by rw[hks];exact MV O κ
 have hkn:ks.length=n:=by rw[hks];exact SP O κ
 obtain⟨b1,hb1⟩:∃b1,b1=up a 20 (.d (EI H (BQ g s st (qW s st ws) tab))):=⟨_,rfl⟩;obtain⟨b2,hb2⟩:∃b2,b2=up b1 18 (.d (.lst ((List.range s).map (KA s st g κ n ws rk)))):=⟨_,rfl⟩;obtain⟨b3,hb3⟩:∃b3,b3=up b2 9 (.d (DE W s st κ n ws rk)):=⟨_,rfl⟩;have e1:∀i,i≠20→b1 i=a i:= λi h=>by rw[hb1,BR _ _ h]
 have e2:∀i,i≠20→i≠18→b2 i=a i:= λi h h'=>by rw[hb2,BR _ _ h',e1 i h]
 have e3:∀i,i≠20→i≠18→i≠9→b3 i=a i:= λi h h' h''=>by rw[hb3,BR _ _ h'',e2 i h h']
 have b1_20:b1 20=.d (EI H (BQ g s st (qW s st ws) tab)):=by rw[hb1,DI]
 have b3_20:b3 20=.d (EI H (BQ g s st (qW s st ws) tab)):=by rw[hb3,BR _ _ (by decide),hb2,BR _ _ (by decide),b1_20]
 have b2_18:b2 18=.d (.lst ((List.range s).map (KA s st g κ n ws rk))):=by rw[hb2,DI]
 have b3_9:b3 9=.d (DE W s st κ n ws rk):=by rw[hb3,DI]
 refine⟨up b3 10 (.own (.list none) (ls++[DE W s st κ n ws rk])),?_,DI _ _ _,λi h9 h10 h18 h20=>by rw[BR _ _ h10,e3 i h20 h18 h9]⟩;unfold SX;refine(A0 (ρ':=A8 b1) ?_).trans ?_
 ·unfold gU;simp only[EX h24 (by decide),EX h13 (by decide),EX h3 (by decide),EX h7 (by decide),EX h17 (by decide),Option.bind_some,CC,CF,CG,CH,CB,CJ,hpk,Option.map_some,D6,←hb1]
 unfold gQ;refine(A0 (ρ':=A8 b2) ?_).trans ?_
 ·unfold gV;have f17:b1 17=.d (.int (s:Int)):=by rw[e1 17 (by decide)];exact h17
  have f19:b1 19=.d (.int (st:Int)):=by rw[e1 19 (by decide)];exact h19
  have hk:FP b1 [(1,20),(2,17),(3,19)] (AX 4)=some [.unset,.d (EI H (BQ g s st (qW s st ws) tab)),.d (.int (s:Int)),.d (.int (st:Int))]:=by rw[FQ b1_20,FQ f17,FQ f19];rfl
  have hc:B2 (BN (λρ d=>some (ρ.set 0 (LV.d d))) XE (WD H (B1 H aN aV)) [.unset,.d (EI H (BQ g s st (qW s st ws) tab)),.d (.int (s:Int)),.d (.int (st:Int))]) (vN (List.range s))=some ((List.range s).map (KA s st g κ n ws rk)):=by
   refine JG _ _ λp hp=>?_;have hp:=List.mem_range.mp hp;have hg:=Of (H:=H) (aN:=aN) (aV:=aV) O hrep hp;have hsp:=JM O.hs (st+p);have ha:(st:Int)+(p:Int)=((st+p:Nat):Int):=rfl;have hm:=O4 (st+p) s (by lia);have ha2:(65:Int)+(((st+p)%s:Nat):Int)=((65+(st+p)%s:Nat):Int):=rfl;have hch:G5 [.int ((65+(st+p)%s:Nat):Int)]=some (.str (A' (65+(st+p)%s))):=O2 (by lia);have hni:¬Str.ofString "get"∈[Str.ofString "_headers"]:=by decide
   unfold BN XE WD;unfold EI at hg⊢;simp! only[hni,not_false_eq_true,and_self,ha,hm,ha2,hch,hg]
  simp only[EX f17 (by decide),Option.bind_some,CC,CF,CG,CH,CB,CJ,JI (n:=s) (by lia),HK b1 [(1,20),(2,17),(3,19)] (AX 4) (by decide),hk,hc,Option.map_some,D6,←hb2]
 unfold gR;refine(A0 (ρ':=A8 b3) ?_).trans ?_
 ·unfold gW;have hlo:DQ (.lst ((List.range s).map (KA s st g κ n ws rk)))=some ((List.range s).map (KA s st g κ n ws rk)):=by
   exact if_pos (HP (by rw[List.length_map,List.length_range];lia))
  have hk:FP b2 [] (AX 1)=some [.unset]:=rfl;have hcw:=Aq (W:=W) O κ;rw[←hks]at hcw;have hi:isStr (.str "\t")=true:=rfl;have hmk:IL W [.str (MU ks)]=some (DE W s st κ n ws rk):=by
   unfold DE;rw[←hks];refine(if_pos (Qk hkl hk0 (by lia))).trans ?_;rw[Qj hkl hk0]
  simp only[Option.bind_some,CC,CF,CG,CH,CB,CJ,hi,if_true,FU b2_18 (by decide),hlo,HK b2 [] (AX 1) (by simp),hk,hcw,Option.map_some,Fy hkl hk0 (by lia),w' hkl hk0 (by lia),hmk,D6,←hb3]
 unfold gS;have f2:b3 2=.d (.int (n:Int)):=by rw[e3 2 (by decide) (by decide) (by decide)];exact h2
 have f5:b3 5=.d (.lst (vN dr)):=by rw[e3 5 (by decide) (by decide) (by decide)];exact h5
 have f4:b3 4=.d (.lst ((List.range 3).map λκ=>.lst (EB s st g κ n ws rk))):=by rw[e3 4 (by decide) (by decide) (by decide)];exact h4
 have f3:b3 3=.d (.int (κ:Int)):=by rw[e3 3 (by decide) (by decide) (by decide)];exact h3
 have f10:b3 10=.own (.list none) ls:=by rw[e3 10 (by decide) (by decide) (by decide)];exact h10
 refine(A0 (ρ':=A8 b3) ?_).trans ?_
 ·unfold gX;have hattr:ES W (Str.ofString "n") (DE W s st κ n ws rk)=some (.int ((B3 ks+(ks.length-1):Nat):Int)):=by
   unfold DE;rw[←hks];exact ZP
  have hsub:((n:Int)-1)+((B3 dr:Nat):Int)=((B3 ks+(ks.length-1):Nat):Int):=by
   have:B3 ks=B3 dr:=by rw[hks,Pq O κ,hdr]
   lia
  have hne:(((B3 ks+(ks.length-1):Nat):Int)!=((B3 ks+(ks.length-1):Nat):Int))=false:=by simp
  obtain⟨ys,y1,y2,y3,y4⟩:=sL O hrep;obtain⟨zs,z1,z2,z3,z4⟩:=sL O (NW O κ);have hyz:ys=zs:=VD (y1.trans ((VH hrep (NW O κ)).trans z1.symm)) y2 z2;have hit:=Fv (C:=H) (g:=g) (s:=s) (st:=st) (q:=qW s st ws) (tab:=tab) (by have:=hrep.len;lia);have hni:¬Str.ofString "items"∈[Str.ofString "_headers"]:=by decide
  have hdl:BL (.lst ((List.range 3).map λκ=>.lst (EB s st g κ n ws rk))) (.int (κ:Int))=some (.lst (EB s st g κ n ws rk)):=by
   rw[F9,PV (by lia) (by lia),List.getElem?_map,show((κ:Int)).toNat=κ by lia,List.getElem?_range hκ];rfl
  have z3':L6 [.lst (EB s st g κ n ws rk)]=some (BQ g s st (qW s st ws) zs):=z3;have hF:(false=true)=False:=by simp
  unfold EI at hit b3_20;simp only[EX b3_9 (by decide),hattr,EX f2 (by decide),FU f5 (by decide),Option.bind_some,oG,Bo,a9,Q5,hsub,Bl,hne,hF,if_false,EX b3_20 (by decide),hni,not_false_eq_true,and_self,if_true,hit,y3,Option.map_some,FU f4 (by decide),EX f3 (by decide),hdl,z3',O5 y4 (congrArg (BQ g s st (qW s st ws)) hyz)]
 unfold gT;refine(A0 (ρ':=A8 (up b3 10 (.own (.list none) (ls++[DE W s st κ n ws rk])))) ?_).trans rfl;unfold gY;rw[H6 b3 (show 10<25 by decide),f10];simp only[EX b3_9 (by decide),Option.bind_some,CC,CF,CG,CH,CB,CJ,M6 (ds:=ls) (d:=DE W s st κ n ws rk) (by lia),Option.map_some,D6]
theorem Gs:WW (A8 a)=some (.next,A8 (up a 10 (.own (.list none) []))):=by
 unfold WW;simp only[Option.bind_some,CC,CF,CG,CH,CB,CJ,VK,if_true,Option.map_some,D6]
structure TN(s st n g:Nat)(ws rk dr:List Nat)(a:Nat→LV):Prop where
 h24:a 24=.d (.lst (vN ws))
 h13:a 13=.d (.lst (vN rk))
 h7:a 7=.d (.str (D' g))
 h17:a 17=.d (.int (s:Int))
 h19:a 19=.d (.int (st:Int))
 h2:a 2=.d (.int (n:Int))
 h5:a 5=.d (.lst (vN dr))
 h4:a 4=.d (.lst ((List.range 3).map λκ=>.lst (EB s st g κ n ws rk)))
theorem pP(O:B5 s st n g ws rk){dr:List Nat}(hdr:B3 dr=KB (cq (GY (BJ ws) s st)) (s-1)):∀(m k:Nat)(a:Nat→LV),k+m≤3→TN s st n g ws rk dr a→a 10=.own (.list none) ((List.range k).map λκ=>DE W s st κ n ws rk)→
  ∃a':Nat→LV,B7 (λρ d=>some (ρ.set 3 (LV.d d))) (SX H W (B1 H aN aV) (C7 H) (IL W) (K8 H W aN aV)) (vN (List.range' k m)) (A8 a)=some (.next,A8 a')∧a' 10=.own (.list none) ((List.range (k+m)).map λκ=>DE W s st κ n ws rk)∧∀i,i≠3→i≠9→i≠10→i≠18→i≠20→a' i=a i
 |0,k,a,_,_,h10=>⟨a,rfl,h10,λV V V V V V=>rfl⟩
 |m+1,k,a,hm,L,h10=>by
  have ne:∀i,i≠3→up a 3 (.d (.int (k:Int))) i=a i:= λi h=>BR _ _ h;obtain⟨b,e1,e2,e3⟩:=Gg (H:=H) (W:=W) (aN:=aN) (aV:=aV) (a:=up a 3 (.d (.int (k:Int)))) O (κ:=k) (by lia) hdr (ls:=(List.range k).map λκ=>DE W s st κ n ws rk) (by rw[List.length_map,List.length_range];lia) (DI _ _ _)
   ((ne 24 (by decide)).trans L.h24) ((ne 13 (by decide)).trans L.h13) ((ne 7 (by decide)).trans L.h7) ((ne 17 (by decide)).trans L.h17) ((ne 19 (by decide)).trans L.h19) ((ne 2 (by decide)).trans L.h2) ((ne 5 (by decide)).trans L.h5) ((ne 4 (by decide)).trans L.h4) ((ne 10 (by decide)).trans h10)
  have hb:∀i,i≠3→i≠9→i≠10→i≠18→i≠20→b i=a i:= λi g3 g9 g10 g18 g20=>by rw[e3 i g9 g10 g18 g20,ne i g3]
  have L':TN s st n g ws rk dr b:=⟨(hb 24 (by decide) (by decide) (by decide) (by decide) (by decide)).trans L.h24,(hb 13 (by decide) (by decide) (by decide) (by decide) (by decide)).trans L.h13,(hb 7 (by decide) (by decide) (by decide) (by decide) (by decide)).trans L.h7,(hb 17 (by decide) (by decide) (by decide) (by decide) (by decide)).trans L.h17,(hb 19 (by decide) (by decide) (by decide) (by decide) (by decide)).trans L.h19,(hb 2 (by decide) (by decide) (by decide) (by decide) (by decide)).trans L.h2,(hb 5 (by decide) (by decide) (by decide) (by decide) (by decide)).trans L.h5,(hb 4 (by decide) (by decide) (by decide) (by decide) (by decide)).trans L.h4⟩;have e2:b 10=.own (.list none) ((List.range (k+1)).map λκ=>DE W s st κ n ws rk):=by
   rw[e2,List.range_succ,List.map_append];rfl
  obtain⟨a',f1,f2,f3⟩:=pP O hdr m (k+1) b (by lia) L' e2;refine⟨a',?_,by rw[show k+(m+1)=k+1+m by lia];exact f2,λi g3 g9 g10 g18 g20=>by rw[f3 i g3 g9 g10 g18 g20,hb i g3 g9 g10 g18 g20]⟩;rw[←f1,List.range'_succ];exact GV (by rw[D6]) e1
theorem Gu(O:B5 s st n g ws rk){dr:List Nat}(hdr:B3 dr=KB (cq (GY (BJ ws) s st)) (s-1))(L:TN s st n g ws rk dr a)(h10:a 10=.own (.list none) []):
  ∃a':Nat→LV,WX H W (B1 H aN aV) (C7 H) (IL W) (K8 H W aN aV) (A8 a)=some (.next,A8 a')∧a' 10=.own (.list none) ((List.range 3).map λκ=>DE W s st κ n ws rk)∧∀i,i≠3→i≠9→i≠10→i≠18→i≠20→a' i=a i:=by
 obtain⟨a',e1,e2,e3⟩:=pP (H:=H) (W:=W) (aN:=aN) (aV:=aV) O hdr 3 0 a (by lia) L h10;refine⟨a',?_,e2,e3⟩;have h3:GU [.int 3]=some (vN (List.range' 0 3)):=JI (n:=3) (by lia);unfold WX;simp only[Option.bind_some,CC,CF,CG,CH,CB,CJ,h3];exact e1
noncomputable def FF(s st:Nat)(e:Nat×Nat):D:=.tup [.int (((st+e.1)%s:Nat):Int),.int (e.2:Int)]
theorem Gv(hs:s=6∨s=7)(h17:a 17=.d (.int (s:Int))):WY (A8 a)=some (.next,A8 (up (up a 6 (.own (.list none) (vN (List.range s)))) 8 (.own (.list none) []))):=by
 have hr:Q9 [.int (s:Int)]=some (.rng 0 (s:Int)):=rfl;have hl:aQ [.rng 0 (s:Int)]=some (vN (List.range s)):=by
  rw[←eD];exact if_pos (by simp[HN];lia)
 unfold WY;simp only[FU h17 (by decide),Option.bind_some,CC,CF,CG,CH,CB,CJ,hr,hl,VK,if_true,D6]
theorem nG:∀(l:List Nat)(i:Nat),(vN l).eraseIdx i=vN (l.eraseIdx i)
 |[],_=>rfl
 |_::_,0=>rfl
 |b::l,i+1=>by
  show D.int (b:Int)::(vN l).eraseIdx i=D.int (b:Int)::vN (l.eraseIdx i);rw[nG l i]
theorem Gf{fdk:FuncData}{yk:Str}{fk:D→D→Option D}(O:B5 s st n g ws rk){x p:Nat}{T:Nat→Option Nat}{gt:List (Nat×Nat)}(hx:x<n)(hp:p<s)(hq:qW s st ws x≤p)(hT:T p=none)(hb:∀p',qW s st ws x≤p'→p'<p→T p'≠none)(hgt:gt.length≤100)
  (h8:a 8=.own (.list none) (gt.map (FF s st)))(h6:a 6=.own (.list none) (vN (E1 s st T)))(h24:a 24=.d (.lst (vN ws)))(h1:a 1=.d (.int (x:Int))):
  SW (K6 fdk yk fk) (A8 a)=some (.next,A8 (up (up a 6 (.own (.list none) (vN (E1 s st (IB T p x))))) 8 (.own (.list none) ((gt++[(p,x)]).map (FF s st))))):=by
 have hs:=O.s6;have hw:=O.wish hx;obtain⟨q1,q2,q3⟩:=Lb O.hs O.hst hw.1 (x:=x) hp hq hT hb;obtain⟨fs,hfs⟩:∃fs,fs=E1 s st T:=⟨_,rfl⟩;have hfl:fs.length≤7:=by rw[hfs];have:=Ea (s:=s) (st:=st) T;lia
 have hbis:=yB (fdk:=fdk) (yk:=yk) (fk:=fk) (Ec (s:=s) (st:=st) T) (by rw[←hfs];lia) (ws.getD x 0);rw[←hfs]at q1 q2 q3 hbis h6;obtain⟨i,hi⟩:∃i,i=DS fs (ws.getD x 0)%fs.length:=⟨_,rfl⟩;rw[←hi]at q1 q2 q3;have hit:=HJ (xs:=ws) (c:=x) (by rw[O.lw];exact hx) O.lenw.1;have hm:CZ (.int (DS fs (ws.getD x 0):Int)) (.int (fs.length:Int))=some (.int (i:Int)):=by rw[O4 _ _ (by lia),←hi]
 have hfl2:E9 (.int (DS fs (ws.getD x 0):Int))=true:=rfl;have hB:H5 (i:Int) (vN fs)=true:=by
  unfold H5;rw[IU];simp;lia
 have hat:(vN fs)[((i:Int)).toNat]? =some (.int (((st+p)%s:Nat):Int)):=by
  rw[show((i:Int)).toNat=i by lia,List.getElem?_map,List.getElem?_eq_getElem q1];rw[List.getD_eq_getElem?_getD,List.getElem?_eq_getElem q1,Option.getD_some]at q2;rw[←q2];rfl
 have her:(vN fs).eraseIdx ((i:Int)).toNat=vN (E1 s st (IB T p x)):=by rw[show((i:Int)).toNat=i by lia,nG,q3]
 have h1':(up a 6 (.own (.list none) (vN (E1 s st (IB T p x))))) 1=.d (.int (x:Int)):=by rw[BR _ _ (by decide)];exact h1
 have happ:HY (gt.map (FF s st)) [.tup [.int (((st+p)%s:Nat):Int),.int (x:Int)]]=some ((gt++[(p,x)]).map (FF s st)):=by
  rw[M6 (by rw[List.length_map];lia),List.map_append];rfl
 have hidx:(((AM 6 (A8 a)).bind λb=>(((AM 24 (A8 a)).bind λa_1=>(AD 1 (A8 a)).bind λb=>BL a_1 b).bind λa=>(some []).bind λl=>some (a::l)).bind λl=>some (b::l)).bind λds=>(K6 fdk yk fk ds).bind λd=>if E9 d=true then some d else none)=some (.int (DS fs (ws.getD x 0):Int)):=by
  simp only[bZ h6 (by decide),FU h24 (by decide),EX h1 (by decide),Option.bind_some,CC,CF,CG,CH,CB,CJ,hit,hbis,hfl2,if_true]
 have hln:(((AM 6 (A8 a)).bind λa=>(some []).bind λl=>some (a::l)).bind GA)=some (.int (fs.length:Int)):=by
  simp only[bZ h6 (by decide),Option.bind_some,CC,CF,CG,CH,CB,CJ,L5 (xs:=fs) (by lia)]
 unfold SW;refine(A0 (ρ':=A8 (up (up a 6 (.own (.list none) (vN (E1 s st (IB T p x))))) 8 (.own (.list none) ((gt++[(p,x)]).map (FF s st))))) ?_).trans rfl;unfold gP;rw[H6 a (show 8<25 by decide),h8,CB,H6 a (show 6<25 by decide),h6,CB,hidx,hln];simp only[Option.bind_some,CC,CF,CG,CH,CB,CJ,hm,hB,if_true,hat,her,D6,EX h1' (by decide),happ,Option.map_some]
theorem pO{fdk:FuncData}{yk:Str}{fk:D→D→Option D}{row:List Nat}(O:B5 s st n g ws (C6 row n))(hp:row.Perm (List.range n)):∀(cs Wc:List Nat)(gt:List (Nat×Nat))(a:Nat→LV),row=cs.reverse++Wc→DR s gt (BB 0 (qW s st ws) (rW (C6 row n)) Wc)→
  a 8=.own (.list none) (gt.map (FF s st))→a 6=.own (.list none) (vN (E1 s st (BB 0 (qW s st ws) (rW (C6 row n)) Wc)))→a 24=.d (.lst (vN ws))→
  ∃(a':Nat→LV)(gt':List (Nat×Nat)),B7 (λρ d=>some (ρ.set 1 (LV.d d))) (SW (K6 fdk yk fk)) (vN cs) (A8 a)=some (.next,A8 a')∧DR s gt' (BB 0 (qW s st ws) (rW (C6 row n)) row)∧a' 8=.own (.list none) (gt'.map (FF s st))∧∀i,i≠1→i≠6→i≠8→a' i=a i
 |[],Wc,gt,a,hr,h,h8,_,_=>⟨a,gt,rfl,by rw[show row=Wc from hr];rw[show row=Wc from hr]at h;exact h,h8,λV V V V=>rfl⟩
 |x::cs,Wc,gt,a,hr,h,h8,h6,h24=>by
  have hs:=O.s6;have hr':row=cs.reverse++x::Wc:=by rw[hr,List.reverse_cons,List.append_assoc];rfl
  have hnd:row.Nodup:=hp.nodup_iff.mpr List.nodup_range;have hxr:x∈row:=by rw[hr'];simp
  have hxn:x<n:=List.mem_range.mp (hp.subset hxr);have hS:EL n (x::Wc):=⟨cs.reverse,by
   refine(List.perm_append_comm).trans ?_;rw[←hr'];exact hp⟩
  have hnd2:=hnd;rw[hr',List.nodup_append]at hnd2;have hxW:x∉Wc:=(List.nodup_cons.mp hnd2.2.1).1;have hidx:row.idxOf x=cs.length:=by
   have hna:x∉cs.reverse:= λhm=>hnd2.2.2 x hm x (.head _) rfl;rw[hr',List.idxOf_append,if_neg hna,List.idxOf_cons_self,List.length_reverse];lia
  have hrank:∀b∈Wc,rW (C6 row n) x<rW (C6 row n) b:=by
   intro b hb;have hbr:b∈row:=by rw[hr'];simp[hb]
   have hbn:b<n:=List.mem_range.mp (hp.subset hbr);have hna:b∉cs.reverse:= λhm=>hnd2.2.2 b hm b (.tail _ hb) rfl;have hbx:x≠b:= λe=>hxW (e▸hb);have e1:rW (C6 row n) x=row.idxOf x:=VI hxn;have e2:rW (C6 row n) b=row.idxOf b:=VI hbn;have hbe:(x==b)=false:=beq_eq_false_iff_ne.mpr hbx;rw[e1,e2,hidx,hr',List.idxOf_append,if_neg hna,List.idxOf_cons,hbe,cond_false,List.length_reverse];lia
  have hq:=O.q0 hxn;have hD:I6 0 (qW s st ws) (rW (C6 row n)) (s-1) Wc (x::Wc) (qW s st ws x) x (BB 0 (qW s st ws) (rW (C6 row n)) Wc):=nD hq.1 (by lia);obtain⟨p,p1,p2,p3,p4,p5⟩:=nB hS.nodup (O.parted hS) (O.done hS) hrank (s-1) (qW s st ws x) _ (by lia) (Nat.le_refl _) hD;have hps:p<s:=by lia
  have h0p:0<p:=by lia
  have hb1:=Gf (gt:=gt) (fdk:=fdk) (yk:=yk) (fk:=fk) (a:=up a 1 (.d (.int (x:Int)))) O hxn hps p1 p3 p4 (by have:=h.len;lia) (by rw[BR _ _ (by decide)];exact h8) (by rw[BR _ _ (by decide)];exact h6) (by rw[BR _ _ (by decide)];exact h24) (DI _ _ _);have hrep:DR s (gt++[(p,x)]) (BB 0 (qW s st ws) (rW (C6 row n)) (x::Wc)):=by
   rw[←p5];constructor
   ·refine List.nodup_append.mpr ⟨h.nd,by simp,?_⟩;rintro⟨p',c⟩ h1 e h2 rfl;have:=List.mem_singleton.mp h2;cases this;have:=((h.iff _ _).mp h1).2.2;rw[p3]at this;cases this
   ·intro p' c;rw[List.mem_append,h.iff,List.mem_singleton];unfold IB;constructor
    ·rintro(⟨g1,g2,g3⟩|g1)
     ·refine⟨g1,g2,?_⟩;rw[if_neg (by rintro rfl;rw[p3]at g3;cases g3)];exact g3
     ·cases g1;exact⟨h0p,hps,if_pos rfl⟩
    ·rintro⟨g1,g2,g3⟩;by_cases e:p'=p
     ·rw[if_pos e]at g3;cases g3;right;rw[e]
     ·rw[if_neg e]at g3;exact .inl ⟨g1,g2,g3⟩
  rw[p5]at hb1;obtain⟨b,hbdef⟩:∃b,b=up (up (up a 1 (.d (.int (x:Int)))) 6 (.own (.list none) (vN (E1 s st (BB 0 (qW s st ws) (rW (C6 row n)) (x::Wc)))))) 8 (.own (.list none) ((gt++[(p,x)]).map (FF s st))):=⟨_,rfl⟩;rw[←hbdef]at hb1;have hbe:∀i,i≠1→i≠6→i≠8→b i=a i:= λi g1 g6 g8=>by rw[hbdef,BR _ _ g8,BR _ _ g6,BR _ _ g1]
  obtain⟨a',gt',f1,f2,f3,f4⟩:=pO O hp cs (x::Wc) (gt++[(p,x)]) b hr' hrep (by rw[hbdef,DI]) (by rw[hbdef,BR _ _ (by decide),DI]) (by rw[hbe 24 (by decide) (by decide) (by decide)];exact h24);refine⟨a',gt',?_,f2,f3,λi g1 g6 g8=>by rw[f4 i g1 g6 g8,hbe i g1 g6 g8]⟩;rw[←f1];exact GV (by rw[D6]) hb1
theorem Eb:E1 s st (BB 0 (qW s st ws) (rW rk) [])=List.range s:=by
 unfold E1;rw[List.filter_eq_self];intro p _;have:BU 0 (qW s st ws) (rW rk) [] (CR s st p)=[]:=by
  cases e:BU 0 (qW s st ws) (rW rk) [] (CR s st p)with
  |nil=>rfl
  |cons b l=>
   have:=(H7 (κ:=0) (q:=qW s st ws) (r:=rW rk) (W:=[]) (CR s st p) b (by rw[e];exact .head _)).1;cases this
 unfold BB;rw[if_pos this];rfl
theorem Gw{fdk:FuncData}{yk:Str}{fk:D→D→Option D}{row:List Nat}(O:B5 s st n g ws (C6 row n))(hp:row.Perm (List.range n))(h14:a 14=.d (.lst (vN row)))(h8:a 8=.own (.list none) [])(h6:a 6=.own (.list none) (vN (List.range s)))(h24:a 24=.d (.lst (vN ws))):
  ∃(a':Nat→LV)(gt:List (Nat×Nat)),WZ (K6 fdk yk fk) (A8 a)=some (.next,A8 a')∧DR s gt (BB 0 (qW s st ws) (rW (C6 row n)) (List.range n))∧a' 8=.own (.list none) (gt.map (FF s st))∧∀i,i≠1→i≠6→i≠8→a' i=a i:=by
 have hn:=O.n4;have hl:row.length=n:=by have:=hp.length_eq;rwa [List.length_range]at this
 have h0:DR s [] (BB 0 (qW s st ws) (rW (C6 row n)) []):=by
  refine⟨.nil,λp c=>⟨λh=>(by cases h),λ⟨_,_,h⟩=>?_⟩⟩;have:=(N0 (κ:=0) (q:=qW s st ws) (r:=rW (C6 row n)) (W:=[]) (λx hx=>by cases hx) h).2.2.2.1;cases this
 obtain⟨a',gt,f1,f2,f3,f4⟩:=pO (fdk:=fdk) (yk:=yk) (fk:=fk) O hp row.reverse [] [] a (by rw[List.reverse_reverse,List.append_nil]) h0 h8 (by rw[Eb];exact h6) h24;have hfe:BB 0 (qW s st ws) (rW (C6 row n)) row=BB 0 (qW s st ws) (rW (C6 row n)) (List.range n):=funext λp=>pY (κ:=0) (q:=qW s st ws) (O.pt.sub λc hc=>hp.subset hc) hp p;rw[hfe]at f2;refine⟨a',gt,?_,f2,f3,f4⟩;have hm1: -(1:Int)= -1:=rfl;have hrv:aX (.lst (vN row)) (.int (-1))=some (.lst (vN row.reverse)):=by
  refine(if_pos (by rw[GZ (by lia)];rfl)).trans ?_;unfold vN;rw[List.map_reverse]
 have hlo:DQ (.lst (vN row.reverse))=some (vN row.reverse):=by
  exact if_pos (GZ (by rw[List.length_reverse];lia))
 unfold WZ;simp only[FU h14 (by decide),Option.bind_some,CC,CF,CG,CH,CB,CJ,Bm,hm1,hrv,hlo];exact f1
end
theorem qJ{l m:List Nat}(h:∀k∈l,0<k→∃j∈m,k≤j):BV l≤BV m:=by
 by_cases e:l=[]
 ·subst e;exact Nat.zero_le _
 ·have hm:=NT e;rcases Nat.eq_zero_or_pos (BV l)with h0|h0
  ·lia
  ·obtain⟨j,hj,hk⟩:=h _ hm h0;exact Nat.le_trans hk (U3 hj)
section
variable{a:Nat→LV}{H W aN aV:Addr}{s st n g:Nat}{ws rk:List Nat}
theorem qY{κ p c:Nat}(O:B5 s st n g ws rk)(hp:p≤s-1)(h:BB κ (qW s st ws) (rW rk) (List.range n) p=some c):p-qW s st ws c∈B8 s st κ n ws rk:=by
 have h2:=N0 (O.parted EL.all) h;have h3:=h2.2.2.2.2;exact List.mem_map.mpr ⟨(p,c),(PL _).mpr ⟨by lia,hp,h⟩,rfl⟩
theorem Pp(O:B5 s st n g ws rk):BV (B8 s st 1 n ws rk)≤BV (B8 s st 0 n ws rk):=by
 refine qJ λk hk h0=>?_;obtain⟨⟨p,c⟩,he,rfl⟩:=List.mem_map.mp hk;have h1:=(PL _).mp he;have h0:0<p-qW s st ws c:=h0;obtain⟨p',c',e1,e2,e3⟩:=Dl (κ:=0) (q:=qW s st ws) (O.parted EL.all) List.nodup_range (O.done EL.all) h1.2.1 h1.2.2 (by lia);exact⟨_,qY O e1 e2,e3⟩
theorem Po(O:B5 s st n g ws rk):BV (B8 s st 0 n ws rk)≤BV (B8 s st 2 n ws rk):=by
 refine qJ λk hk h0=>?_;obtain⟨⟨p,c⟩,he,rfl⟩:=List.mem_map.mp hk;have h1:=(PL _).mp he;have h0:0<p-qW s st ws c:=h0;obtain⟨p',c',e1,e2,e3⟩:=Hz (κ:=0) (q:=qW s st ws) (O.parted EL.all) List.nodup_range (O.done EL.all) h1.2.1 h1.2.2 (by lia);exact⟨_,qY O e1 e2,e3⟩
theorem sK(O:B5 s st n g ws rk){tab:List (Nat×Nat)}(h:DR s tab (BB 0 (qW s st ws) (rW rk) (List.range n))):
  ∃ys:List (Nat×Nat),ys.Perm tab∧(ys.map λe=>(st+e.1)%s).Pairwise (· <·)∧L6 [.lst (tab.map (FF s st))]=some (ys.map (FF s st))∧EA (.lst (ys.map (FF s st)))=true:=by
 have hpm:=VH h (NW O 0);have hlen:tab.length=n:=by rw[hpm.length_eq,RY O 0]
 have hat:∀e∈tab,_:= λe he=>RX O (hpm.subset he);have hinj:∀e∈tab,∀e'∈tab,(st+e.1)%s=(st+e'.1)%s→e=e':=by
  rintro⟨p,c⟩ he ⟨p',c'⟩ he' hc;have a1:=hat _ he;have a2:=hat _ he';have e:p=p':=P4 O.hst a1.2.1 a2.2.1 hc;subst e;have:=a1.2.2.2.2.2.symm.trans a2.2.2.2.2.2;cases this;rfl
 obtain⟨ys,h1,h2,h3⟩:=eR (xs:=tab) (f:= λe=>(st+e.1)%s) (key:=FF s st) (val:=FF s st) (by rw[hlen];exact O.hn) (RW h.nd hinj)
  (λe he e' he' hne=>by
   show some (if(((st+e.1)%s:Nat):Int)=(((st+e'.1)%s:Nat):Int)then decide ((e.2:Int)<(e'.2:Int))else decide ((((st+e.1)%s:Nat):Int)<(((st+e'.1)%s:Nat):Int)))=_;have hne:(st+e.1)%s≠(st+e'.1)%s:=hne;rw[if_neg (by lia)];exact congrArg some (decide_eq_decide.mpr (by lia))) (by
   have:(tab.map (FF s st)).all IT=true:=by
    rw[List.all_eq_true];intro d hd;obtain⟨c,_,rfl⟩:=List.mem_map.mp hd;rfl
   rw[this];rfl)
 refine⟨ys,h1,h2,?_,?_⟩
 ·have hsq:N9 (tab.map (FF s st))=true:=by
   clear h1 h2 h3 hinj hat hlen hpm h
   induction tab with
   |nil=>rfl
   |cons e l ih=>
    show(SG (FF s st e)&&N9 (l.map (FF s st)))=true;rw[ih];rfl
  exact(if_pos hsq).trans h3
 ·refine R3 (n:=7) λd hd=>?_;obtain⟨e,he,rfl⟩:=List.mem_map.mp hd;refine PQ (n:=6) λd hd=>?_;rcases List.mem_cons.mp hd with rfl|hd
  ·exact KV _ _
  ·rcases List.mem_cons.mp hd with rfl|hd
   ·exact KV _ _
   ·cases hd
theorem Gx(O:B5 s st n g ws rk){gt:List (Nat×Nat)}(h:DR s gt (BB 0 (qW s st ws) (rW rk) (List.range n)))(h8:a 8=.own (.list none) (gt.map (FF s st)))(h4:a 4=.d (.lst ((List.range 3).map λκ=>.lst (EB s st g κ n ws rk)))):W0 (A8 a)=some (.next,A8 a):=by
 have hs:=O.s6;have hn:=O.n4;obtain⟨ys,y1,y2,y3,y4⟩:=sK O h;obtain⟨zs,z1,z2,z3,z4⟩:=sK O (NW O 0);have hyz:ys=zs:=VD (y1.trans ((VH h (NW O 0)).trans z1.symm)) y2 z2;have hdl:BL (.lst ((List.range 3).map λκ=>.lst (EB s st g κ n ws rk))) (.int 0)=some (.lst (EB s st g 0 n ws rk)):=rfl;have hlo:DQ (.lst (EB s st g 0 n ws rk))=some (EB s st g 0 n ws rk):=by
  refine if_pos (HP ?_);have:=RY O 0;unfold EB lP;rw[List.length_map];have e:(FX 0 (qW s st ws) (rW rk) (List.range n) (s-1)).length=n:=this;lia
 have hc:B2 (BN (λρ d=>Option.map (λds=>A4 ρ [0,1] ds) (D5 [0,1].length d)) iT WP [.unset,.unset]) (EB s st g 0 n ws rk)=some ((oT s st 0 n ws rk).map (FF s st)):=by
  refine T7 (G9 g s st (qW s st ws)) (FF s st) λe he=>?_;have h1:=RX O he;have hsp:=JM O.hs (st+e.1);have hk:e.1-qW s st ws e.2<8:=by lia
  have hlow:=U0 (k:=e.1-qW s st ws e.2) hsp;have hi:isStr (.str (C4 (e.1-qW s st ws e.2) ((st+e.1)%s)))=true:=rfl;have hu:(Option.map (λds=>A4 [LV.unset,.unset] [0,1] ds) (D5 [0,1].length (G9 g s st (qW s st ws) e)))=some [.d (.str (C4 (e.1-qW s st ws e.2) ((st+e.1)%s))),.d (.str (BC g (e.1-qW s st ws e.2) e.2))]:=rfl;have hs1:∀i:Nat,((97+i:Nat):Int)-97=(i:Int):= λi=>by lia
  have hm1: -(1:Int)= -1:=rfl;refine mF hu rfl ?_;unfold WP;simp! only[hi,hlow,mY,hs1,hm1,cV O.hg hk (show e.2<5 by lia)];rfl
 have hk:FP a [] (AX 2)=some [.unset,.unset]:=rfl;have hF:(false=true)=False:=by simp
 unfold W0;simp only[bZ h8 (by decide),Option.bind_some,CC,CF,CG,CH,CB,CJ,y3,Option.map_some,FU h4 (by decide),hdl,hlo,HK a [] (AX 2) (by simp),hk,hc,z3,O5 y4 (congrArg (List.map (FF s st)) hyz),hF,if_false]
theorem Gz(O:B5 s st n g ws rk)(h4:a 4=.d (.lst ((List.range 3).map λκ=>.lst (EB s st g κ n ws rk)))):W2 (A8 a)=some (.next,A8 (up a 22 (.d (.lst ((List.range 3).map λκ=>.lst (vN (B8 s st κ n ws rk))))))):=by
 have hs:=O.s6;have hn:=O.n4;have hlo:∀κ,DQ (.lst (EB s st g κ n ws rk))=some (EB s st g κ n ws rk):= λκ=>by
  refine if_pos (HP ?_);have e:(FX κ (qW s st ws) (rW rk) (List.range n) (s-1)).length=n:=RY O κ;unfold EB lP;rw[List.length_map];lia
 have hc1:∀κ,B2 (BN (λρ d=>Option.map (λds=>A4 ρ [0,1] ds) (D5 [0,1].length d)) iU WN [.unset,.unset]) (EB s st g κ n ws rk)=some (vN (B8 s st κ n ws rk)):= λκ=>by
  have:vN (B8 s st κ n ws rk)=(oT s st κ n ws rk).map λe=>D.int ((e.1-qW s st ws e.2:Nat):Int):=by unfold vN B8;rw[List.map_map];rfl
  rw[this];refine T7 (G9 g s st (qW s st ws)) (λe=>D.int ((e.1-qW s st ws e.2:Nat):Int)) λe he=>?_;have h1:=RX O he;have hk:e.1-qW s st ws e.2<8:=by lia
  have hcnt:=(aC (k:=e.1-qW s st ws e.2) (c:=e.2) O.hg hk (by lia)).1;have hi:isStr (.str (BC g (e.1-qW s st ws e.2) e.2))=true:=rfl;have hu:(Option.map (λds=>A4 [LV.unset,.unset] [0,1] ds) (D5 [0,1].length (G9 g s st (qW s st ws) e)))=some [.d (.str (C4 (e.1-qW s st ws e.2) ((st+e.1)%s))),.d (.str (BC g (e.1-qW s st ws e.2) e.2))]:=rfl;refine mF hu rfl ?_;unfold WN;simp! only[hi,hcnt]
 have hc:B2 (BN (λρ d=>some (ρ.set 0 (LV.d d))) XT WO [.unset]) ((List.range 3).map λκ=>.lst (EB s st g κ n ws rk))=some ((List.range 3).map λκ=>.lst (vN (B8 s st κ n ws rk))):=by
  refine T7 (λκ=>.lst (EB s st g κ n ws rk)) (λκ=>.lst (vN (B8 s st κ n ws rk))) λκ V=>?_;have hk:C0 [.d (.lst (EB s st g κ n ws rk))] [] (AX 2)=some [.unset,.unset]:=rfl;have hc2:=hc1 κ;simp only[Hv]at hc2;unfold BN XT WO;simp! only[hlo κ,hk,hc2]
 have hl4:DQ (.lst ((List.range 3).map λκ=>.lst (EB s st g κ n ws rk)))=some ((List.range 3).map λκ=>.lst (EB s st g κ n ws rk)):=rfl;have hk:FP a [] (AX 1)=some [.unset]:=rfl;unfold W2;simp only[FU h4 (by decide),Option.bind_some,CC,CF,CG,CH,CB,CJ,hl4,HK a [] (AX 1) (by simp),hk,hc,Option.map_some,D6]
theorem fJ(O:B5 s st n g ws rk)(κ:Nat):G4 (JQ (B8 s st κ n ws rk)):=tV (MV O κ) (by rw[SP O κ];have:=O.n4;lia) λk hk=>by have:=QC O κ k hk;lia
def H8(s st n:Nat)(ws rk:List Nat):List Nat:=[BV (B8 s st 1 n ws rk),BV (B8 s st 0 n ws rk),BV (B8 s st 2 n ws rk)]
theorem Ha(O:B5 s st n g ws rk)(h10:a 10=.d (.lst ((List.range 3).map λκ=>DE W s st κ n ws rk))):W3 W (I9 W) (A8 a)=some (.next,A8 (up a 12 (.d (.lst (vN (H8 s st n ws rk)))))):=by
 have hlong:∀κ,I9 W [DE W s st κ n ws rk]=some (.int (BV (B8 s st κ n ws rk):Int)):= λκ=>by
  unfold DE;rw[RS (fJ O κ),fL (MV O κ)]
 have hk:FP a [(1,10)] (AX 2)=some [.unset,.d (.lst ((List.range 3).map λκ=>DE W s st κ n ws rk))]:=by rw[FQ h10];rfl
 have hc:B2 (BN (λρ d=>some (ρ.set 0 (LV.d d))) XR (WL W (I9 W)) [.unset,.d (.lst ((List.range 3).map λκ=>DE W s st κ n ws rk))]) (vN [1,0,2])=some (vN (H8 s st n ws rk)):=by
  have:vN (H8 s st n ws rk)=[1,0,2].map λκ=>D.int (BV (B8 s st κ n ws rk):Int):=rfl;rw[this];refine JG _ _ λκ hκ=>?_;have hκ3:κ<3:=by simp at hκ;lia
  have hdl:BL (.lst ((List.range 3).map λκ=>DE W s st κ n ws rk)) (.int (κ:Int))=some (DE W s st κ n ws rk):=by
   rw[F9,PV (by lia) (by lia),List.getElem?_map,show((κ:Int)).toNat=κ by lia,List.getElem?_range hκ3];rfl
  rw[F9]at hdl;have hl:=hlong κ;unfold BN XR WL;simp! only[hdl];unfold DE A9 at hl⊢;simp! only[dQ,not_false_eq_true,and_self,hl]
 have ht:SN (.tup [.int 1,.int 0,.int 2])=some (vN [1,0,2]):=rfl;unfold W3;simp only[Option.bind_some,CC,CF,CG,CH,CB,CJ,eN,if_true,ht,HK a [(1,10)] (AX 2) (by decide),hk,hc,Option.map_some,D6]
theorem Na{a b c:Int}(h:a≤b)(h2:b≤c):OC [a,b,c]=[a,b,c]:=by
 show HI a (HI b (HI c []))=_;rw[show HI c []=[c]from rfl,show HI b [c]=if b≤c then b::c::[]else c::HI b []from rfl,if_pos h2,show HI a [b,c]=if a≤b then a::b::[c]else b::HI a [c]from rfl,if_pos h]
theorem Hb(O:B5 s st n g ws rk)(h12:a 12=.d (.lst (vN (H8 s st n ws rk))))(h22:a 22=.d (.lst ((List.range 3).map λκ=>.lst (vN (B8 s st κ n ws rk))))):W4 (A8 a)=some (.next,A8 a):=by
 have h10:=Pp O;have h02:=Po O;have hsI:OC ((H8 s st n ws rk).map λ(x:Nat)=>(x:Int))=(H8 s st n ws rk).map λ(x:Nat)=>(x:Int):=by
  unfold H8;exact Na (Int.ofNat_le.mpr h10) (Int.ofNat_le.mpr h02)
 have hsort:UB [.lst (vN (H8 s st n ws rk))]=some (vN (H8 s st n ws rk)):=by
  unfold UB;rw[CJ,CC,Option.bind_some,UO,Option.bind_some];refine(if_pos (by unfold H8;simp)).trans ?_;rw[hsI];unfold vN;rw[List.map_map];rfl
 have hk:FP a [(1,22)] (AX 2)=some [.unset,.d (.lst ((List.range 3).map λκ=>.lst (vN (B8 s st κ n ws rk))))]:=by rw[FQ h22];rfl
 have hc:B2 (BN (λρ d=>some (ρ.set 0 (LV.d d))) XH WA [.unset,.d (.lst ((List.range 3).map λκ=>.lst (vN (B8 s st κ n ws rk))))]) (vN [1,0,2])=some (vN (H8 s st n ws rk)):=by
  have:vN (H8 s st n ws rk)=[1,0,2].map λκ=>D.int (BV (B8 s st κ n ws rk):Int):=rfl;rw[this];refine JG _ _ λκ hκ=>?_;have hκ3:κ<3:=by simp at hκ;lia
  have hdl:BL (.lst ((List.range 3).map λκ=>.lst (vN (B8 s st κ n ws rk)))) (.int (κ:Int))=some (.lst (vN (B8 s st κ n ws rk))):=by
   rw[F9,PV (by lia) (by lia),List.getElem?_map,show((κ:Int)).toNat=κ by lia,List.getElem?_range hκ3];rfl
  rw[F9]at hdl;unfold BN XH WA;simp! only[hdl,mV (MV O κ)]
 have ht:SN (.tup [.int 1,.int 0,.int 2])=some (vN [1,0,2]):=rfl;have hok:EA (.lst (vN (H8 s st n ws rk)))=true:=R5 7 _;have hF:(false=true)=False:=by simp
 unfold W4;simp only[FU h12 (by decide),Option.bind_some,CC,CF,CG,CH,CB,CJ,hsort,Option.map_some,O5 hok rfl,hF,if_false,eN,if_true,ht,HK a [(1,22)] (AX 2) (by decide),hk,hc]
theorem Hc(O:B5 s st n g ws rk)(h10:a 10=.d (.lst ((List.range 3).map λκ=>DE W s st κ n ws rk)))(h22:a 22=.d (.lst ((List.range 3).map λκ=>.lst (vN (B8 s st κ n ws rk))))):W5 W (M0 W) MZ (A8 a)=some (.ret (.bool true),A8 a):=by
 have hn:=O.n4;have l1:=SP O 1;have l2:=SP O 2;have hw:M0 W [DE W s st 1 n ws rk,DE W s st 2 n ws rk]=some (.lst (HB (B8 s st 1 n ws rk) (B8 s st 2 n ws rk) (BV (B8 s st 1 n ws rk++B8 s st 2 n ws rk)+1))):=by
  unfold DE;rw[Pv (fJ O 1) (fJ O 2),Pw (MV O 1) (MV O 2) (λk hk=>by have:=QC O 1 k hk;lia) (λk hk=>by have:=QC O 2 k hk;lia) (by lia) (by lia)]
 have hp:=Kf (l:=B8 s st 1 n ws rk) (r:=B8 s st 2 n ws rk) (λk hk=>by have:=QC O 1 k hk;lia) (λk hk=>by have:=QC O 2 k hk;lia) (MV O 1) (MV O 2) (by lia) (by lia);obtain⟨T,hT⟩:∃T,T=HB (B8 s st 1 n ws rk) (B8 s st 2 n ws rk) (BV (B8 s st 1 n ws rk++B8 s st 2 n ws rk)+1):=⟨_,rfl⟩;rw[←hT]at hw hp;have hok:EA (.lst T)=true:=R3 (n:=7) λd hd=>by
  rw[hT]at hd;unfold HB at hd;obtain⟨ts,_,h⟩:=List.mem_filterMap.mp hd;split at h
  ·cases h
  ·cases h;refine PQ (n:=6) λe he=>?_;rcases List.mem_cons.mp he with rfl|he
   ·exact KV _ _
   ·rcases List.mem_cons.mp he with rfl|he
    ·exact KV _ _
    ·rcases List.mem_cons.mp he with rfl|he
     ·exact KV _ _
     ·cases he
 have d1:BL (.lst ((List.range 3).map λκ=>DE W s st κ n ws rk)) (.int 1)=some (DE W s st 1 n ws rk):=rfl;have d2:BL (.lst ((List.range 3).map λκ=>DE W s st κ n ws rk)) (.int 2)=some (DE W s st 2 n ws rk):=rfl;have w1:BL (.lst ((List.range 3).map λκ=>.lst (vN (B8 s st κ n ws rk)))) (.int 1)=some (.lst (vN (B8 s st 1 n ws rk))):=rfl;have w2:BL (.lst ((List.range 3).map λκ=>.lst (vN (B8 s st κ n ws rk)))) (.int 2)=some (.lst (vN (B8 s st 2 n ws rk))):=rfl;have hni:¬Str.ofString "not_equal_witness"∈LT:=by decide
 unfold W5;simp only[FU h10 (by decide),FU h22 (by decide),Option.bind_some,CC,CF,CG,CH,CB,CJ,d1,d2,w1,w2];unfold DE A9 at hw⊢;simp only[Option.bind_some,oG,hni,not_false_eq_true,and_self,if_true,hw,hp,Az hok rfl,Option.map_some]
end
theorem bW{a:Nat→LV}{i:Nat}{p:Option Addr}{ds:List D}{F:PF}(hi:i<25)(h:a i=.own (.list p) ds):NI i F (A8 a)=F (A8 (up a i (.d (.lst ds)))):=by
 unfold NI;rw[H6 a hi,h,Ef,D6];rfl
def MB(d dy:D):Option D:=(BL dy d).bind λa=>BL a (.int 1)
def MA(d dy:D):Option D:=(BL dy d).bind λa=>(GT d).bind λb=>some (.tup [a,b])
theorem Dr{us:List Int}{s n c:Nat}(hl:us.length=6)(hn:n=4∨n=5)(hc:c<n):MB (.int (c:Int)) (.lst (KY us s n))=some (.int (NN us s n c:Int)):=by
 have hct:c<(us.take n).length:=by rw[List.length_take];lia
 have h1:BL (.lst (KY us s n)) (.int (c:Int))=some (.tup [.int (((us.take n)[c]).fmod (s:Int)),.int ((((us.take n)[c]).fdiv (12*(s:Int))).fmod 8+1)]):=by
  rw[F9,PV (by lia) (by lia)];unfold KY;rw[show((c:Int)).toNat=c by lia,List.getElem?_map,List.getElem?_eq_getElem hct];rfl
 have h2:(NN us s n c:Int)=(((us.take n)[c]).fdiv (12*(s:Int))).fmod 8+1:=by
  unfold NN GJ;rw[List.getD_eq_getElem?_getD,List.getElem?_map,List.getElem?_eq_getElem hct,Option.map_some,Option.getD_some];have:=Int.fmod_nonneg_of_pos (((us.take n)[c]).fdiv (12*(s:Int))) (show(0:Int)<8 by lia);lia
 unfold MB;rw[h1,h2];rfl
theorem Dq{us:List Int}{s n c:Nat}(hl:us.length=6)(hn:n=4∨n=5)(hc:c<n):MA (.int (c:Int)) (.lst (vN (GJ us s n)))=some (NL (NN us s n) c):=by
 have hct:c<(GJ us s n).length:=by unfold GJ;rw[List.length_map,List.length_take];lia
 have h1:=HJ (xs:=GJ us s n) (c:=c) hct (by unfold GJ;rw[List.length_map,List.length_take];lia);unfold MA;rw[h1];rfl
def TU(p:Option Addr)(q:Str)(xs:List Int):Nat→LV:= λi=>if i=0 then .own (.tab p 315 q) [.ilst (vI xs)]else .unset
theorem Hk{mg:Str→Option Value}{H W aN aV:Addr}{fdk:FuncData}{yk:Str}{fk:D→D→Option D}{p:Option Addr}{q:Str}(hq:q=Str.ofString "law.<locals>."++Str.ofString "<lambda>")(xs:List Int)(hx:xs.length≤100000):
  ∃a':Nat→LV,SV mg H W (B1 H aN aV) (C7 H) (I9 W) (M0 W) (IL W) LY L0 LZ (K8 H W aN aV) MZ (I8 (JJ mg) (Str.ofString "seen") MB) (K6 fdk yk fk) (GI (NB mg) (Str.ofString "lights") MA) (A8 (TU p q xs))=some (.ret (.bool true),A8 a')∧a' 0=.own (.tab p 315 q) [.ilst (vI xs)]:=by
 obtain⟨us,hul,hdr⟩:=Bu xs hx;obtain⟨u,hu⟩:∃u,us[5]? =some u:=⟨us[5],List.getElem?_eq_getElem (by lia)⟩;have m2:=Int.fmod_nonneg_of_pos u (show(0:Int)<2 by lia);have m2':=Int.fmod_lt_of_pos u (show(0:Int)<2 by lia);have c2:=Int.fmod_nonneg_of_pos (u.fdiv 2) (show(0:Int)<2 by lia);have c2':=Int.fmod_lt_of_pos (u.fdiv 2) (show(0:Int)<2 by lia);have g3:=Int.fmod_nonneg_of_pos (u.fdiv 4) (show(0:Int)<3 by lia);have g3':=Int.fmod_lt_of_pos (u.fdiv 4) (show(0:Int)<3 by lia);obtain⟨s,hs⟩:∃s:Nat,(s:Int)=6+u.fmod 2:=⟨(6+u.fmod 2).toNat,by lia⟩;obtain⟨n,hn⟩:∃n:Nat,(n:Int)=4+(u.fdiv 2).fmod 2:=⟨(4+(u.fdiv 2).fmod 2).toNat,by lia⟩;obtain⟨g,hg⟩:∃g:Nat,(g:Int)=(u.fdiv 4).fmod 3:=⟨((u.fdiv 4).fmod 3).toNat,by lia⟩;have hs6:s=6∨s=7:=by lia
 have hn4:n=4∨n=5:=by lia
 have hg3:g<3:=by lia
 obtain⟨ws,hws⟩:∃ws,ws=JP us s n:=⟨_,rfl⟩;have hwl:ws.length=n:=by rw[hws];unfold JP;rw[List.length_map,List.length_take];lia
 have hwlt:∀w∈ws,w<s:=by rw[hws];exact Qi us n (by lia)
 obtain⟨st,rest,t1,t2,t3,t4,t5,t6⟩:=Og hs6 hn4 hwl hwlt;obtain⟨row,hrow⟩:∃row,row=FK (NN us s n) n:=⟨_,rfl⟩;have hrp:row.Perm (List.range n):=by rw[hrow];exact P2 _ _
 have O:B5 s st n g ws (C6 row n):=⟨hs6,hn4,hg3,t2,hwl,by unfold C6;rw[List.length_map,List.length_range],hwlt,t3,Mj hrp,t5⟩;have hdrv:B3 ((List.range s).map (D8 (BJ ws) s n))=KB (cq (GY (BJ ws) s st)) (s-1):=t6;have z0:TU p q xs 0=.own (.tab p 315 q) [.ilst (vI xs)]:=rfl;obtain⟨a1,ha1⟩:∃a1,a1=up (TU p q xs) 21 (.d (.lst (vI us))):=⟨_,rfl⟩;have r1:=Gk (a:=TU p q xs) z0 hdr;rw[←ha1]at r1;have a1_21:a1 21=.d (.lst (vI us)):=by rw[ha1,DI]
 have a1_0:a1 0=.own (.tab p 315 q) [.ilst (vI xs)]:=by rw[ha1,BR _ _ (by decide)];exact z0
 have r2:=Gy a1_21 hu hs hn hg hg3;obtain⟨a2,ha2⟩:∃a2,a2=up (up (up a1 17 (.d (.int (s:Int)))) 2 (.d (.int (n:Int)))) 7 (.d (.str (D' g))):=⟨_,rfl⟩;rw[←ha2]at r2;have a2_17:a2 17=.d (.int (s:Int)):=by rw[ha2,BR _ _ (by decide),BR _ _ (by decide),DI]
 have a2_2:a2 2=.d (.int (n:Int)):=by rw[ha2,BR _ _ (by decide),DI]
 have a2_7:a2 7=.d (.str (D' g)):=by rw[ha2,DI]
 have a2_e:∀i,i≠17→i≠2→i≠7→a2 i=a1 i:= λi h h' h''=>by rw[ha2,BR _ _ h'',BR _ _ h',BR _ _ h]
 have a2_21:=(a2_e 21 (by decide) (by decide) (by decide)).trans a1_21;have a2_0:=(a2_e 0 (by decide) (by decide) (by decide)).trans a1_0;have r3:=Hd a2_21 a2_17 a2_2 hs6 hul;rw[←hws]at r3;obtain⟨a3,ha3⟩:∃a3,a3=up a2 24 (.d (.lst (vN ws))):=⟨_,rfl⟩;rw[←ha3]at r3;have a3_24:a3 24=.d (.lst (vN ws)):=by rw[ha3,DI]
 have a3_e:∀i,i≠24→a3 i=a2 i:= λi h=>by rw[ha3,BR _ _ h]
 have r4:=He ((a3_e 21 (by decide)).trans a2_21) ((a3_e 17 (by decide)).trans a2_17) ((a3_e 2 (by decide)).trans a2_2) hs6 hul;obtain⟨a4,ha4⟩:∃a4,a4=up a3 11 (.d (.lst (vN (GJ us s n)))):=⟨_,rfl⟩;rw[←ha4]at r4;have a4_11:a4 11=.d (.lst (vN (GJ us s n))):=by rw[ha4,DI]
 have a4_e:∀i,i≠24→i≠11→a4 i=a2 i:= λi h h'=>by rw[ha4,BR _ _ h',a3_e i h]
 have a4_24:a4 24=.d (.lst (vN ws)):=by rw[ha4,BR _ _ (by decide)];exact a3_24
 have r5:=Hf ((a4_e 21 (by decide) (by decide)).trans a2_21) ((a4_e 17 (by decide) (by decide)).trans a2_17) ((a4_e 2 (by decide) (by decide)).trans a2_2) hs6 hul;obtain⟨a5,ha5⟩:∃a5,a5=up a4 15 (.d (.lst (KY us s n))):=⟨_,rfl⟩;rw[←ha5]at r5;have a5_15:a5 15=.d (.lst (KY us s n)):=by rw[ha5,DI]
 have a5_e:∀i,i≠24→i≠11→i≠15→a5 i=a2 i:= λi h h' h''=>by rw[ha5,BR _ _ h'',a4_e i h h']
 have a5_24:a5 24=.d (.lst (vN ws)):=by rw[ha5,BR _ _ (by decide)];exact a4_24
 have a5_11:a5 11=.d (.lst (vN (GJ us s n))):=by rw[ha5,BR _ _ (by decide)];exact a4_11
 have r6:=Hg a5_15 (by rw[←hws];exact a5_24) a5_11 (by lia) hul;have r7:=Hh (a:=a5);obtain⟨a7,ha7⟩:∃a7,a7=up a5 14 (.own (.list none) []):=⟨_,rfl⟩;rw[←ha7]at r7;have a7_e:∀i,i≠14→a7 i=a5 i:= λi h=>by rw[ha7,BR _ _ h]
 have a5_0:=(a5_e 0 (by decide) (by decide) (by decide)).trans a2_0;have a5_2:=(a5_e 2 (by decide) (by decide) (by decide)).trans a2_2;have a5_17:=(a5_e 17 (by decide) (by decide) (by decide)).trans a2_17;have a5_7:=(a5_e 7 (by decide) (by decide) (by decide)).trans a2_7;obtain⟨a8,r8,a8_14,a8_e⟩:=Hi (mg:=mg) (v:=NN us s n) (n:=n) (fk:=MB) (by lia) hq (λc hc=>Dr hul hn4 hc) ((a7_e 0 (by decide)).trans a5_0) ((a7_e 15 (by decide)).trans a5_15) (by rw[ha7,DI]) ((a7_e 2 (by decide)).trans a5_2);have a8_5:∀i,i≠1→i≠14→a8 i=a5 i:= λi h h'=>by rw[a8_e i h h',a7_e i h']
 have r9:=Hj (mg:=mg) (v:=NN us s n) (gk2:=GI (NB mg) (Str.ofString "lights") MA) hn4 hq (λc hc=>by rw[cT];exact Dq hul hn4 hc) ((a8_5 0 (by decide) (by decide)).trans a5_0) ((a8_5 11 (by decide) (by decide)).trans a5_11) a8_14 ((a8_5 2 (by decide) (by decide)).trans a5_2);rw[←hrow]at a8_14;obtain⟨b9,hb9⟩:∃b9,b9=up a8 14 (.d (.lst (vN row))):=⟨_,rfl⟩;have b9_e:∀i,i≠1→i≠14→b9 i=a5 i:= λi h h'=>by rw[hb9,BR _ _ h',a8_5 i h h']
 have b9_14:b9 14=.d (.lst (vN row)):=by rw[hb9,DI]
 have b9_2:=(b9_e 2 (by decide) (by decide)).trans a5_2;have r10:=Gl hn4 hrp b9_14 b9_2;obtain⟨b10,hb10⟩:∃b10,b10=up b9 13 (.d (.lst (vN (C6 row n)))):=⟨_,rfl⟩;rw[←hb10]at r10;have r11:=Go (a:=b10);obtain⟨b11,hb11⟩:∃b11,b11=up b10 5 (.own (.list none) []):=⟨_,rfl⟩;rw[←hb11]at r11;have b11_e:∀i,i≠5→i≠13→b11 i=b9 i:= λi h h'=>by rw[hb11,BR _ _ h,hb10,BR _ _ h']
 have b11_13:b11 13=.d (.lst (vN (C6 row n))):=by rw[hb11,BR _ _ (by decide),hb10,DI]
 have b11_24:=(b11_e 24 (by decide) (by decide)).trans ((b9_e 24 (by decide) (by decide)).trans a5_24);have b11_17:=(b11_e 17 (by decide) (by decide)).trans ((b9_e 17 (by decide) (by decide)).trans a5_17);have b11_2:=(b11_e 2 (by decide) (by decide)).trans b9_2;have b11_7:=(b11_e 7 (by decide) (by decide)).trans ((b9_e 7 (by decide) (by decide)).trans a5_7);have b11_14:=(b11_e 14 (by decide) (by decide)).trans b9_14;have b11_0:=(b11_e 0 (by decide) (by decide)).trans ((b9_e 0 (by decide) (by decide)).trans a5_0);obtain⟨b12,r12,b12_5,b12_e⟩:=Gp hs6 hn4 hwlt hwl b11_2 b11_24 b11_17 (by rw[hb11,DI]);obtain⟨c12,hc12⟩:∃c12,c12=up b12 5 (.d (.lst (vN ((List.range s).map (D8 (BJ ws) s n))))):=⟨_,rfl⟩;have c12_e:∀i,i≠5→i≠16→i≠23→c12 i=b11 i:= λi h h' h''=>by rw[hc12,BR _ _ h,b12_e i h h' h'']
 have c12_5:c12 5=.d (.lst (vN ((List.range s).map (D8 (BJ ws) s n)))):=by rw[hc12,DI]
 have c12_17:=(c12_e 17 (by decide) (by decide) (by decide)).trans b11_17;have c12_24:=(c12_e 24 (by decide) (by decide) (by decide)).trans b11_24;have r13:=Gq hs6 t1 c12_17 c12_24 c12_5;obtain⟨c13,hc13⟩:∃c13,c13=up c12 19 (.d (.int (st:Int))):=⟨_,rfl⟩;rw[←hc13]at r13;have c13_e:∀i,i≠19→c13 i=c12 i:= λi h=>by rw[hc13,BR _ _ h]
 have c13_19:c13 19=.d (.int (st:Int)):=by rw[hc13,DI]
 have c13_24:=(c13_e 24 (by decide)).trans c12_24;have c13_17:=(c13_e 17 (by decide)).trans c12_17;have c13_13:=(c13_e 13 (by decide)).trans ((c12_e 13 (by decide) (by decide) (by decide)).trans b11_13);have c13_7:=(c13_e 7 (by decide)).trans ((c12_e 7 (by decide) (by decide) (by decide)).trans b11_7);have c13_2:=(c13_e 2 (by decide)).trans ((c12_e 2 (by decide) (by decide) (by decide)).trans b11_2);have c13_14:=(c13_e 14 (by decide)).trans ((c12_e 14 (by decide) (by decide) (by decide)).trans b11_14);have c13_0:=(c13_e 0 (by decide)).trans ((c12_e 0 (by decide) (by decide) (by decide)).trans b11_0);have c13_5:=(c13_e 5 (by decide)).trans c12_5;have r14:=Gr O c13_24 c13_13 c13_7 c13_17 c13_19;obtain⟨c14,hc14⟩:∃c14,c14=up c13 4 (.d (.lst ((List.range 3).map λκ=>.lst (EB s st g κ n ws (C6 row n))))):=⟨_,rfl⟩;rw[←hc14]at r14;have r15:=Gs (a:=c14);obtain⟨c15,hc15⟩:∃c15,c15=up c14 10 (.own (.list none) []):=⟨_,rfl⟩;rw[←hc15]at r15;have c15_e:∀i,i≠4→i≠10→c15 i=c13 i:= λi h h'=>by rw[hc15,BR _ _ h',hc14,BR _ _ h]
 have c15_4:c15 4=.d (.lst ((List.range 3).map λκ=>.lst (EB s st g κ n ws (C6 row n)))):=by rw[hc15,BR _ _ (by decide),hc14,DI]
 have L:TN s st n g ws (C6 row n) ((List.range s).map (D8 (BJ ws) s n)) c15:=⟨(c15_e 24 (by decide) (by decide)).trans c13_24,(c15_e 13 (by decide) (by decide)).trans c13_13,(c15_e 7 (by decide) (by decide)).trans c13_7,(c15_e 17 (by decide) (by decide)).trans c13_17,(c15_e 19 (by decide) (by decide)).trans c13_19,(c15_e 2 (by decide) (by decide)).trans c13_2,(c15_e 5 (by decide) (by decide)).trans c13_5,c15_4⟩;obtain⟨d16,r16,d16_10,d16_e⟩:=Gu (H:=H) (W:=W) (aN:=aN) (aV:=aV) O hdrv L (by rw[hc15,DI]);have d16_17:=(d16_e 17 (by decide) (by decide) (by decide) (by decide) (by decide)).trans L.h17;have d16_24:=(d16_e 24 (by decide) (by decide) (by decide) (by decide) (by decide)).trans L.h24;have d16_4:=(d16_e 4 (by decide) (by decide) (by decide) (by decide) (by decide)).trans L.h4;have d16_14:=(d16_e 14 (by decide) (by decide) (by decide) (by decide) (by decide)).trans ((c15_e 14 (by decide) (by decide)).trans c13_14);have d16_0:=(d16_e 0 (by decide) (by decide) (by decide) (by decide) (by decide)).trans ((c15_e 0 (by decide) (by decide)).trans c13_0);have r17:=Gv hs6 d16_17;obtain⟨d17,hd17⟩:∃d17,d17=up (up d16 6 (.own (.list none) (vN (List.range s)))) 8 (.own (.list none) []):=⟨_,rfl⟩;rw[←hd17]at r17;have d17_e:∀i,i≠6→i≠8→d17 i=d16 i:= λi h h'=>by rw[hd17,BR _ _ h',BR _ _ h]
 obtain⟨d18,gt,r18,hrep,d18_8,d18_e⟩:=Gw (fdk:=fdk) (yk:=yk) (fk:=fk) O hrp ((d17_e 14 (by decide) (by decide)).trans d16_14) (by rw[hd17,DI]) (by rw[hd17,BR _ _ (by decide),DI]) ((d17_e 24 (by decide) (by decide)).trans d16_24);have d18_16:∀i,i≠1→i≠6→i≠8→d18 i=d16 i:= λi h h' h''=>by rw[d18_e i h h' h'',d17_e i h' h'']
 have d18_4:=(d18_16 4 (by decide) (by decide) (by decide)).trans d16_4;have d18_10:=(d18_16 10 (by decide) (by decide) (by decide)).trans d16_10;have d18_0:=(d18_16 0 (by decide) (by decide) (by decide)).trans d16_0;have r19:=Gx O hrep d18_8 d18_4;have r20:=Gz O d18_4;obtain⟨d20,hd20⟩:∃d20,d20=up d18 22 (.d (.lst ((List.range 3).map λκ=>.lst (vN (B8 s st κ n ws (C6 row n)))))):=⟨_,rfl⟩;rw[←hd20]at r20;have d20_10:d20 10=.own (.list none) ((List.range 3).map λκ=>DE W s st κ n ws (C6 row n)):=by rw[hd20,BR _ _ (by decide)];exact d18_10
 obtain⟨e20,he20⟩:∃e20,e20=up d20 10 (.d (.lst ((List.range 3).map λκ=>DE W s st κ n ws (C6 row n)))):=⟨_,rfl⟩;have e20_10:e20 10=.d (.lst ((List.range 3).map λκ=>DE W s st κ n ws (C6 row n))):=by rw[he20,DI]
 have e20_22:e20 22=.d (.lst ((List.range 3).map λκ=>.lst (vN (B8 s st κ n ws (C6 row n))))):=by rw[he20,BR _ _ (by decide),hd20,DI]
 have e20_0:e20 0=.own (.tab p 315 q) [.ilst (vI xs)]:=by rw[he20,BR _ _ (by decide),hd20,BR _ _ (by decide)];exact d18_0
 have r21:=Ha O e20_10;obtain⟨e21,he21⟩:∃e21,e21=up e20 12 (.d (.lst (vN (H8 s st n ws (C6 row n))))):=⟨_,rfl⟩;rw[←he21]at r21;have e21_e:∀i,i≠12→e21 i=e20 i:= λi h=>by rw[he21,BR _ _ h]
 have r22:=Hb O (by rw[he21,DI]) ((e21_e 22 (by decide)).trans e20_22);have r23:=Hc O ((e21_e 10 (by decide)).trans e20_10) ((e21_e 22 (by decide)).trans e20_22);refine⟨e21,?_,(e21_e 0 (by decide)).trans e20_0⟩;unfold SV;rw[A0 r1]
 unfold hN;rw[A0 r2]
 unfold iG;rw[A0 r3]
 unfold iK;rw[A0 r4]
 unfold iL;rw[A0 r5]
 unfold iM;rw[A0 r6]
 unfold iO;rw[A0 r7]
 unfold iP;rw[A0 r8]
 unfold iQ;rw[A0 r9]
 unfold iR;rw[bW (by decide) a8_14,←hb9]
 unfold iX;rw[A0 r10]
 unfold hU;rw[A0 r11]
 unfold hV;rw[A0 r12]
 unfold hX;rw[bW (by decide) b12_5,←hc12]
 unfold iW;rw[A0 r13]
 unfold hY;rw[A0 r14]
 unfold hZ;rw[A0 r15]
 unfold iA;rw[A0 r16]
 unfold iB;rw[A0 r17]
 unfold iC;rw[A0 r18]
 unfold iD;rw[A0 r19]
 unfold iE;rw[A0 r20]
 unfold iH;rw[bW (by decide) d20_10,←he20]
 unfold iV;rw[A0 r21]
 unfold iI;rw[A0 r22]
 unfold iJ;rw[KZ r23]
noncomputable def RZ(K:Frag)(a:Addr):Obj:=(K.lookup a).getD {cls:=.none,data:=.plain}
noncomputable def UF(K:Frag)(a:Addr):Option FuncData:=match K.lookup a with
 |some ⟨_,_,.func fd,_⟩=>some fd
 |_=>none
def BF(K:Frag)(a:Addr):FuncData:=(UF K a).getD default
def B'(K:Frag)(Sg:AP)(a:Addr):Bool:=match UF K a with
 |some fd=> !fd.scope.isCoroutine&& !fd.scope.isGenerator&&codeIn K fd.code fd.qualname&&fd.globals==mainGlobals&&fd.builtins==builtinsNs&&fd.closure.isEmpty&&rZ Sg fd.scope
 |none=>false
theorem n3{K:Frag}{a:Addr}{fd:FuncData}(h:UF K a=some fd):K.lookup a=some (RZ K a)∧(RZ K a).data=.func fd∧BF K a=fd:=by
 unfold BF;rw[h];unfold UF at h;split at h
 ·rename_i e;cases h;unfold RZ;rw[e];exact⟨rfl,rfl,rfl⟩
 ·cases h
theorem DD{K:Frag}{AA:Heap}{Sg:AP}{a:Addr}{body:List Stmt}(X:K.In AA)(h:B' K Sg a=true)(hb:(BF K a).body=.stmts body):LX AA Sg a (RZ K a) (BF K a) body:=by
 unfold B' at h;split at h
 ·rename_i fd e;obtain⟨e1,e2,e3⟩:=n3 e;rw[e3]at hb⊢;simp only[Bool.and_eq_true,Bool.not_eq_true',beq_iff_eq,List.isEmpty_iff]at h;obtain⟨⟨⟨⟨⟨⟨h1,h2⟩,h3⟩,h4⟩,h5⟩,h6⟩,h7⟩:=h;exact⟨X _ _ e1,e2,h1,h2,hb,codeRec_of X h3,h4,h5,h6,E2 h7⟩
 ·cases h
theorem EZ{K:Frag}{s:Shared}(X:K.In s.heap){fd:FuncData}{args:Args}{binds:List (Str×Value)}(e:∀S,peek K S (bindArgs fd args)=some binds):BindsTo s fd args binds:=
 λM A E Q q=>(Looks.of_peek (M:=M) X (e ⟨M.prog,M.w.params⟩)).here q
section
variable{prog:Program}{w:World}{AA:Heap}{n:Nat}{Sg:AP}{mg mb:Str→Option Value}{K:Frag}{C:Addr}
theorem G6(X:K.In AA){name:Str}{a:Addr}(h:B' K Sg a=true)(hf:findIn K (.ref C) name=some (some (.ref a)))(ht:typeIn K (.ref a)=some (.type "function")):FC K AA C name a (RZ K a) (BF K a):=by
 unfold B' at h;split at h
 ·rename_i fd e;obtain⟨e1,e2,e3⟩:=n3 e;exact⟨hf,ht,X _ _ e1,by rw[e3];exact e2⟩
 ·cases h
theorem n5{fa:Addr}{ob:Obj}{fd:FuncData}{body:List Stmt}{xs:List Str}{is:List Nat}{F:PF}{G:DF}(B:B0 AA mg mb)(O:LX AA Sg fa ob fd body)(ht:OF Sg xs is=true)(m:Nat)(us:List Value→List Value)(uds:List D→List D)
  (hbind:∀(s:Shared)(vs:List Value),A3 AA s.heap→vs.length=m→BindsTo s fd ⟨vs,[]⟩ (xs.zip (us vs))∧(us vs).length=xs.length)(hu:∀(g:Gm) vs ds,AJ g vs ds→vs.length=m→AJ g (us vs) (uds ds))(hP:PS prog w AA n Sg body F)
  (hG:∀ds d,G ds=some d→ds.length=m∧DB F (A4 (AX Sg.names.length) is (uds ds))=some d):CK prog w AA (n+1) fa G:=by
 intro A s hid vs ds d E hA hb Kh hd hf;obtain⟨hlen,hF⟩:=hG ds d hf;obtain⟨h1,h2⟩:=OG ht;have hvs:vs.length=m:=hd.length.trans hlen;obtain⟨hbi,hul⟩:=hbind s vs hb hvs;refine m6 B O hA hb Kh hbi (is:=is) (ds:=uds ds) (λj x v e=>?_) (by rw[List.length_zip,hul,Nat.min_self,h1]) ?_ hP hF
 ·rw[List.getElem?_zip_eq_some]at e;exact h2 j x e.1
 ·rw[List.map_snd_zip (Nat.le_of_eq hul)];exact hu _ _ _ hd hvs
end
structure Fx(K:Frag):Prop where
 Tp:(BF K 63).body=.stmts (C3 (C9 5 0))
 Uo:B' K YZ 63=true
 Tk:(BF K 70).body=.stmts (C3 (C9 5 1))
 Uk:B' K YV 70=true
 Tr:(BF K 84).body=.stmts (C3 (C9 5 3))
 Uq:B' K Y1 84=true
 Tm:(BF K 89).body=.stmts (C3 (C9 5 4))
 Um:B' K YX 89=true
 Tn:(BF K 118).body=.stmts (C3 (C9 5 8))
 Un:B' K YY 118=true
 Tq:(BF K 135).body=.stmts (C3 (C9 5 11))
 Up:B' K Y0 135=true
 Tt:(BF K 184).body=.stmts (DH 7)
 Us:B' K Y3 184=true
 Tj:(BF K 193).body=.stmts (DH 8)
 Uj:B' K YU 193=true
 Tz:(BF K 200).body=.stmts (DH 10)
 Uy:B' K Y8 200=true
 Ts:(BF K 207).body=.stmts (DH 11)
 Ur:B' K Y2 207=true
 Ud:(BF K 224).body=.stmts (C3 (C9 13 1))
 Vc:B' K ZB 224=true
 Uf:(BF K 231).body=.stmts (C3 (C9 13 2))
 Ve:B' K ZD 231=true
 Uc:(BF K 238).body=.stmts (C3 (C9 13 3))
 Vb:B' K ZA 238=true
 Ub:(BF K 245).body=.stmts (C3 (C9 13 4))
 Va:B' K Y' 245=true
 Ug:(BF K 252).body=.stmts (C3 (C9 13 5))
 Vf:B' K ZE 252=true
 Ue:(BF K 259).body=.stmts (C3 (C9 13 6))
 Vd:B' K ZC 259=true
 Tl:(BF K 280).body=.stmts (DH 15)
 Ul:B' K YW 280=true
 Ty:(BF K 287).body=.stmts (DH 16)
 Ux:B' K Y7 287=true
 Ua:(BF K 294).body=.stmts (DH 17)
 Uz:B' K Y9 294=true
 Tw:(BF K 301).body=.stmts (DH 18)
 Uv:B' K Y5 301=true
 Tv:(BF K 306).body=.stmts (DH 19)
 Uu:B' K Y4 306=true
 Tx:(BF K 311).body=.stmts (DH 20)
 Uw:B' K Y6 311=true
 Xk:∀(S:Setting)(a0:Value),peek K S (bindArgs (BF K 63) ⟨[a0],[]⟩)=some ([("self",a0),("headers",.none)]:List (Str×Value))
 Xg:∀(S:Setting)(a0 a1 a2:Value),peek K S (bindArgs (BF K 70) ⟨[a0,a1],[("name",a2)]⟩)=some ([("self",a0),("value",a1),("name",a2)]:List (Str×Value))
 Xm:∀(S:Setting)(a0 a1 a2:Value),peek K S (bindArgs (BF K 84) ⟨[a0,a1,a2],[]⟩)=some ([("self",a0),("name",a1),("val",a2)]:List (Str×Value))
 Xi:∀(S:Setting)(a0 a1:Value),peek K S (bindArgs (BF K 89) ⟨[a0,a1],[]⟩)=some ([("self",a0),("name",a1)]:List (Str×Value))
 Xj:∀(S:Setting)(a0 a1:Value),peek K S (bindArgs (BF K 118) ⟨[a0,a1],[]⟩)=some ([("self",a0),("name",a1),("default",.none)]:List (Str×Value))
 Xl:∀(S:Setting)(a0:Value),peek K S (bindArgs (BF K 135) ⟨[a0],[]⟩)=some ([("self",a0)]:List (Str×Value))
 Xw:∀(S:Setting)(a0 a1 a2:Value),peek K S (bindArgs (BF K 200) ⟨[a0,a1,a2],[]⟩)=some ([("r",a0),("g",a1),("b",a2)]:List (Str×Value))
 Xn:∀(S:Setting)(a0 a1 a2:Value),peek K S (bindArgs (BF K 207) ⟨[a0,a1,a2],[]⟩)=some ([("h",a0),("s",a1),("v",a2)]:List (Str×Value))
 Yb:∀(S:Setting)(a0 a1:Value),peek K S (bindArgs (BF K 224) ⟨[a0,a1],[]⟩)=some ([("self",a0),("ws",a1)]:List (Str×Value))
 Yd:∀(S:Setting)(a0:Value),peek K S (bindArgs (BF K 231) ⟨[a0],[]⟩)=some ([("self",a0)]:List (Str×Value))
 Xz:∀(S:Setting)(a0 a1:Value),peek K S (bindArgs (BF K 238) ⟨[a0,a1],[]⟩)=some ([("self",a0),("tabsize",a1)]:List (Str×Value))
 Xy:∀(S:Setting)(a0 a1:Value),peek K S (bindArgs (BF K 245) ⟨[a0,a1],[]⟩)=some ([("self",a0),("other",a1)]:List (Str×Value))
 Ye:∀(S:Setting)(a0 a1:Value),peek K S (bindArgs (BF K 252) ⟨[a0,a1],[]⟩)=some ([("self",a0),("other",a1)]:List (Str×Value))
 Yc:∀(S:Setting)(a0 a1:Value),peek K S (bindArgs (BF K 259) ⟨[a0,a1],[]⟩)=some ([("self",a0),("other",a1)]:List (Str×Value))
 Xh:∀(S:Setting)(a0:Value),peek K S (bindArgs (BF K 280) ⟨[a0],[]⟩)=some ([("script",a0)]:List (Str×Value))
 Xv:∀(S:Setting)(a0 a1:Value),peek K S (bindArgs (BF K 287) ⟨[a0,a1],[]⟩)=some ([("x",a0),("spots",a1)]:List (Str×Value))
 Xx:∀(S:Setting)(a0 a1 a2 a3:Value),peek K S (bindArgs (BF K 294) ⟨[a0,a1,a2,a3],[]⟩)=some ([("stands",a0),("comes",a1),("ranks",a2),("custom",a3)]:List (Str×Value))
 Xs:∀(S:Setting)(a0 a1 a2 a3 a4:Value),peek K S (bindArgs (BF K 301) ⟨[a0,a1,a2,a3,a4],[]⟩)=some ([("wishes",a0),("ranks",a1),("custom",a2),("gap",a3),("spots",a4)]:List (Str×Value))
 Xr:∀(S:Setting)(a0 a1 a2 a3 a4 a5:Value),peek K S (bindArgs (BF K 306) ⟨[a0,a1,a2,a3,a4,a5],[]⟩)=some ([("wishes",a0),("ranks",a1),("custom",a2),("gap",a3),("spots",a4),("start",a5)]:List (Str×Value))
 Xu:∀(S:Setting)(a0 a1:Value),peek K S (bindArgs (BF K 311) ⟨[a0,a1],[]⟩)=some ([("left",a0),("right",a1)]:List (Str×Value))
 Xe:∃t:Tok,∀(S:Setting)(a0 a1:Value),peek K S (bindArgs (BF K 193) ⟨[a0,a1],[]⟩)=some ([("a",a0),("x",a1),("lo",.int 0 t),("hi",.none),("key",.none)]:List (Str×Value))
 Xf:∀(S:Setting)(a0 a1 a2 a3 a4:Value),peek K S (bindArgs (BF K 193) ⟨[a0,a1,a2,a3],[("key",a4)]⟩)=some ([("a",a0),("x",a1),("lo",a2),("hi",a3),("key",a4)]:List (Str×Value))
 Xo:∃t:Tok,∀(S:Setting)(a0 a1 a2:Value),peek K S (bindArgs (BF K 184) ⟨[a0,a1],[("key",a2)]⟩)=some ([("a",a0),("x",a1),("lo",.int 0 t),("hi",.none),("key",a2)]:List (Str×Value))
 Uh:D1 K 171
 Yi:QR K 171
 Xb:makesIn K 171=true
 Wz:keepIn K (.ref 171)=true
 Ui:D1 K 269
 Yj:QR K 269
 Xc:makesIn K 269=true
 Xa:keepIn K (.ref 269)=true
 Yg:noSeq K 171=true
 Td:EC K 171 "_headers"
 Yk:takerIn K 171 "_headers"=some none
 Ti:EC K 269 "raw"
 Yp:takerIn K 269 "raw"=some none
 Tf:EC K 269 "n"
 Ym:takerIn K 269 "n"=some none
 Th:EC K 269 "nt"
 Yo:takerIn K 269 "nt"=some none
 Tg:EC K 269 "norm"
 Yn:takerIn K 269 "norm"=some none
 Te:EC K 269 "is_simple"
 Yl:takerIn K 269 "is_simple"=some none
 Vj:findIn K (.ref 171) "__init__"=some (some (.ref 63))
 Yu:typeIn K (.ref 63)=some (.type "function")
 Vg:findIn K (.ref 171) "_convert_string_type"=some (some (.ref 70))
 Yr:typeIn K (.ref 70)=some (.type "function")
 Vl:findIn K (.ref 171) "__setitem__"=some (some (.ref 84))
 Yw:typeIn K (.ref 84)=some (.type "function")
 Vh:findIn K (.ref 171) "__delitem__"=some (some (.ref 89))
 Ys:typeIn K (.ref 89)=some (.type "function")
 Vi:findIn K (.ref 171) "get"=some (some (.ref 118))
 Yt:typeIn K (.ref 118)=some (.type "function")
 Vk:findIn K (.ref 171) "items"=some (some (.ref 135))
 Yv:typeIn K (.ref 135)=some (.type "function")
 Vo:findIn K (.ref 269) "__init__"=some (some (.ref 224))
 Yz:typeIn K (.ref 224)=some (.type "function")
 Vq:findIn K (.ref 269) "longest_run_of_spaces"=some (some (.ref 231))
 Zb:typeIn K (.ref 231)=some (.type "function")
 Vn:findIn K (.ref 269) "indent_level"=some (some (.ref 238))
 Yy:typeIn K (.ref 238)=some (.type "function")
 Vm:findIn K (.ref 269) "equal"=some (some (.ref 245))
 Yx:typeIn K (.ref 245)=some (.type "function")
 Vr:findIn K (.ref 269) "not_equal_witness"=some (some (.ref 252))
 Zc:typeIn K (.ref 252)=some (.type "function")
 Vp:findIn K (.ref 269) "less"=some (some (.ref 259))
 Za:typeIn K (.ref 259)=some (.type "function")
 Yh:readsIn K 269 (.type "type")=true
 Tb:∃t,findCls K (.ref 269) (.type "type") "S"=some (.val (.str " " t))
 Tc:∃t,findCls K (.ref 269) (.type "type") "T"=some (.val (.str "\t" t))
 Vs:nsIn K mainGlobals "Headers"=some (some (.ref 171))
 Vt:nsIn K mainGlobals "Whitespace"=some (some (.ref 269))
 Vu:nsIn K mainGlobals "bisect_left"=some (some (.ref 193))
 Vy:nsIn K mainGlobals "insort_left"=some (some (.ref 184))
 Wp:nsIn K mainGlobals "rgb_to_hsv"=some (some (.ref 200))
 Vx:nsIn K mainGlobals "hsv_to_rgb"=some (some (.ref 207))
 Wb:nsIn K mainGlobals "_law_drawn"=some (some (.ref 280))
 Wg:nsIn K mainGlobals "_law_read"=some (some (.ref 287))
 Wh:nsIn K mainGlobals "_law_takes"=some (some (.ref 294))
 We:nsIn K mainGlobals "_law_parked"=some (some (.ref 301))
 Wd:nsIn K mainGlobals "_law_line"=some (some (.ref 306))
 Wf:nsIn K mainGlobals "_law_parting"=some (some (.ref 311))
 Wm:nsIn K mainGlobals "_name_disallowed_re"=some (some (.ref 43))
 Wx:nsIn K mainGlobals "_value_disallowed_re"=some (some (.ref 48))
 Wi:nsIn K mainGlobals "len"=some none
 Wk:nsIn K mainGlobals "max"=some none
 Wl:nsIn K mainGlobals "min"=some none
 Wu:nsIn K mainGlobals "sum"=some none
 Ws:nsIn K mainGlobals "sorted"=some none
 Vv:nsIn K mainGlobals "chr"=some none
 Wn:nsIn K mainGlobals "ord"=some none
 Wq:nsIn K mainGlobals "round"=some none
 Wo:nsIn K mainGlobals "range"=some none
 Wj:nsIn K mainGlobals "list"=some none
 Wy:nsIn K mainGlobals "zip"=some none
 Vz:nsIn K mainGlobals "int"=some none
 Wt:nsIn K mainGlobals "str"=some none
 Ww:nsIn K mainGlobals "type"=some none
 Wv:nsIn K mainGlobals "tuple"=some none
 Vw:nsIn K mainGlobals "enumerate"=some none
 Tu:(BF K 316).body=.stmts (DH 21)
 Ut:B' K {OP with code:=none} 316=true
 Wa:nsIn K mainGlobals "law"=some (some (.ref 316))
 Xp:∀(S:Setting)(a0:Value),peek K S (bindArgs (BF K 316) ⟨[a0],[]⟩)=some ([("script",a0)]:List (Str×Value))
 Yq:(BF K 316).code=.ref 315
 Zd:(BF K 316).qualname="law"
 Xd:noTabs K=true
structure Bs(K:Frag)(w:World)(AA:Heap)(mg mb:Str→Option Value):Prop where
 B:B0 AA mg mb
 X:K.In AA
 F:Fx K
 sk:∀prog,OO K prog w (ML 43 48)
 bi:∀x:Str,x≠"__name__"→mb x=bootBuiltins x
theorem GH{α:Type}{c:Prop}[Decidable c]{o:Option α}{d:α}(h:(if c then o else none)=some d):c∧o=some d:=
 (Decidable.em c).elim (λq=>⟨q,(if_pos q).symm.trans h⟩) λq=>nomatch (if_neg q).symm.trans h
@[elab_as_elim] theorem ME{α:Type}{P:List α→Prop}{l:List α}(h:l.length=1)(k:∀a,P [a]):P l:=
 List.casesOn (motive:= λl=>l.length=1→P l) l (λh=>nomatch h) (λa t h=>List.length_eq_zero_iff.mp (Nat.succ.inj h)▸k a) h
@[elab_as_elim] theorem RP{α:Type}{P:List α→Prop}{l:List α}{n:Nat}(h:l.length=n+1)(k:∀a t,t.length=n→P (a::t)):P l:=
 List.casesOn (motive:= λl=>l.length=n+1→P l) l (λh=>nomatch h) (λa t h=>k a t (Nat.succ.inj h)) h
@[elab_as_elim] theorem J6{α:Type}{P:List α→Prop}{l:List α}(h:l.length=2)(k:∀a b,P [a,b]):P l:=RP h λa t h=>ME h (k a)
@[elab_as_elim] theorem cY{α:Type}{P:List α→Prop}{l:List α}(h:l.length=3)(k:∀a b c,P [a,b,c]):P l:=RP h λa t h=>J6 h (k a)
@[elab_as_elim] theorem cZ{α:Type}{P:List α→Prop}{l:List α}(h:l.length=4)(k:∀a b c d,P [a,b,c,d]):P l:=RP h λa t h=>cY h (k a)
@[elab_as_elim] theorem pT{α:Type}{P:List α→Prop}{l:List α}(h:l.length=5)(k:∀a b c d e,P [a,b,c,d,e]):P l:=RP h λa t h=>cZ h (k a)
@[elab_as_elim] theorem Hu{α:Type}{P:List α→Prop}{l:List α}(h:l.length=6)(k:∀a b c d e f,P [a,b,c,d,e,f]):P l:=RP h λa t h=>pT h (k a)
section
variable{prog:Program}{w:World}{AA:Heap}{n:Nat}{mg mb:Str→Option Value}{K:Frag}
theorem Bs.glb(Z:Bs K w AA mg mb){x:Str}{v:Value}(e:nsIn K mainGlobals x=some none)(hv:bootBuiltins x=some v)(hn:x≠"__name__"):BK mg mb x v:=
 .inr ⟨mg_none_of Z.X Z.B.ng e,(Z.bi x hn).trans hv⟩
theorem Bs.mgv(Z:Bs K w AA mg mb){x:Str}{v:Value}(e:nsIn K mainGlobals x=some (some v)):mg x=some v:=mg_of Z.X Z.B.ng e
theorem Bs.g_len(Z:Bs K w AA mg mb):BK mg mb "len" (.builtin "len"):=Z.glb Z.F.Wi (by kernel_rfl) (by decide)
theorem Bs.g_max(Z:Bs K w AA mg mb):BK mg mb "max" (.builtin "max"):=Z.glb Z.F.Wk (by kernel_rfl) (by decide)
theorem Bs.g_min(Z:Bs K w AA mg mb):BK mg mb "min" (.builtin "min"):=Z.glb Z.F.Wl (by kernel_rfl) (by decide)
theorem Bs.g_sum(Z:Bs K w AA mg mb):BK mg mb "sum" (.builtin "sum"):=Z.glb Z.F.Wu (by kernel_rfl) (by decide)
theorem Bs.g_sorted(Z:Bs K w AA mg mb):BK mg mb "sorted" (.builtin "sorted"):=Z.glb Z.F.Ws (by kernel_rfl) (by decide)
theorem Bs.g_chr(Z:Bs K w AA mg mb):BK mg mb "chr" (.builtin "chr"):=Z.glb Z.F.Vv (by kernel_rfl) (by decide)
theorem Bs.g_ord(Z:Bs K w AA mg mb):BK mg mb "ord" (.builtin "ord"):=Z.glb Z.F.Wn (by kernel_rfl) (by decide)
theorem Bs.g_round(Z:Bs K w AA mg mb):BK mg mb "round" (.builtin "round"):=Z.glb Z.F.Wq (by kernel_rfl) (by decide)
theorem Bs.g_range(Z:Bs K w AA mg mb):BK mg mb "range" (.type "range"):=Z.glb Z.F.Wo (by kernel_rfl) (by decide)
theorem Bs.g_list(Z:Bs K w AA mg mb):BK mg mb "list" (.type "list"):=Z.glb Z.F.Wj (by kernel_rfl) (by decide)
theorem Bs.g_zip(Z:Bs K w AA mg mb):BK mg mb "zip" (.type "zip"):=Z.glb Z.F.Wy (by kernel_rfl) (by decide)
theorem Bs.g_int(Z:Bs K w AA mg mb):BK mg mb "int" (.type "int"):=Z.glb Z.F.Vz (by kernel_rfl) (by decide)
theorem Bs.g_str(Z:Bs K w AA mg mb):BK mg mb "str" (.type "str"):=Z.glb Z.F.Wt (by kernel_rfl) (by decide)
theorem Bs.g_type(Z:Bs K w AA mg mb):BK mg mb "type" (.type "type"):=Z.glb Z.F.Ww (by kernel_rfl) (by decide)
theorem Bs.g_tuple(Z:Bs K w AA mg mb):BK mg mb "tuple" (.type "tuple"):=Z.glb Z.F.Wv (by kernel_rfl) (by decide)
theorem Bs.g_enumerate(Z:Bs K w AA mg mb):BK mg mb "enumerate" (.type "enumerate"):=Z.glb Z.F.Vw (by kernel_rfl) (by decide)
theorem Nq(Z:Bs K w AA mg mb):CK prog w AA (n+1) 207 OL:=
 H0 (xs:=["h","s","v"]) (is:=[0,1,2]) Z.B (DD Z.X Z.F.Ur Z.F.Ts) (by kernel_rfl) (λs vs hg hl=>cY hl λa0 a1 a2=>EZ (Z.X.keeps hg) λS=>Z.F.Xn S a0 a1 a2)
  (Lm (n:=n+0) Z.B Z.g_int) λV V h=>GH h
theorem De(Z:Bs K w AA mg mb):GR prog w AA mg (n+1) "hsv_to_rgb" OL:=
 let O:=DD Z.X Z.F.Ur Z.F.Ts;⟨207,_,_,Z.mgv Z.F.Vx,O.obj,O.data,Nq Z⟩
theorem Nz(Z:Bs K w AA mg mb):CK prog w AA (n+1) 200 OM:=
 H0 (xs:=["r","g","b"]) (is:=[0,1,2]) Z.B (DD Z.X Z.F.Uy Z.F.Tz) (by kernel_rfl) (λs vs hg hl=>cY hl λa0 a1 a2=>EZ (Z.X.keeps hg) λS=>Z.F.Xw S a0 a1 a2)
  (Lu (n:=n+0) Z.B Z.g_max Z.g_min) λV V h=>GH h
theorem Dj(Z:Bs K w AA mg mb):GR prog w AA mg (n+1) "rgb_to_hsv" OM:=
 let O:=DD Z.X Z.F.Uy Z.F.Tz;⟨200,_,_,Z.mgv Z.F.Wp,O.obj,O.data,Nz Z⟩
theorem Ny(Z:Bs K w AA mg mb):CK prog w AA (n+2) 287 L0:=
 H0 (xs:=["x","spots"]) (is:=[0,1]) Z.B (DD Z.X Z.F.Ux Z.F.Ty) (by kernel_rfl) (λs vs hg hl=>J6 hl λa0 a1=>EZ (Z.X.keeps hg) λS=>Z.F.Xv S a0 a1)
  (Ls (n:=n+1) Z.B Z.g_round (De Z) (Dj Z)) λV V h=>GH h
theorem Di(Z:Bs K w AA mg mb):GR prog w AA mg (n+2) "_law_read" L0:=
 let O:=DD Z.X Z.F.Ux Z.F.Ty;⟨287,_,_,Z.mgv Z.F.Wg,O.obj,O.data,Ny Z⟩
theorem Nk(Z:Bs K w AA mg mb):CK prog w AA (n+1) 280 LY:=
 H0 (xs:=["script"]) (is:=[0]) Z.B (DD Z.X Z.F.Ul Z.F.Tl) (by kernel_rfl) (λs vs hg hl=>ME hl λa0=>EZ (Z.X.keeps hg) λS=>Z.F.Xh S a0)
  (Lg (n:=n+0) Z.B Z.g_enumerate) λV V h=>GH h
theorem Dc(Z:Bs K w AA mg mb):GR prog w AA mg (n+1) "_law_drawn" LY:=
 let O:=DD Z.X Z.F.Ul Z.F.Tl;⟨280,_,_,Z.mgv Z.F.Wb,O.obj,O.data,Nk Z⟩
theorem Nx(Z:Bs K w AA mg mb):CK prog w AA (n+1) 311 MZ:=
 H0 (xs:=["left","right"]) (is:=[0,1]) Z.B (DD Z.X Z.F.Uw Z.F.Tx) (by kernel_rfl) (λs vs hg hl=>J6 hl λa0 a1=>EZ (Z.X.keeps hg) λS=>Z.F.Xu S a0 a1)
  (Lr (n:=n+0) Z.B Z.g_range Z.g_max Z.g_sum) λV V h=>GH h
theorem Dh(Z:Bs K w AA mg mb):GR prog w AA mg (n+1) "_law_parting" MZ:=
 let O:=DD Z.X Z.F.Uw Z.F.Tx;⟨311,_,_,Z.mgv Z.F.Wf,O.obj,O.data,Nx Z⟩
theorem Nv(Z:Bs K w AA mg mb):CK prog w AA (n+1) 306 LZ:=
 H0 (xs:=["wishes","ranks","custom","gap","spots","start"]) (is:=[0,1,2,3,4,5]) Z.B (DD Z.X Z.F.Uu Z.F.Tv) (by kernel_rfl) (λs vs hg hl=>Hu hl λa0 a1 a2 a3 a4 a5=>EZ (Z.X.keeps hg) λS=>Z.F.Xr S a0 a1 a2 a3 a4 a5)
  (Lp (n:=n+0) Z.B Z.g_len Z.g_range Z.g_max Z.g_chr) λV V h=>GH h
theorem Df(Z:Bs K w AA mg mb):GR prog w AA mg (n+1) "_law_line" LZ:=
 let O:=DD Z.X Z.F.Uu Z.F.Tv;⟨306,_,_,Z.mgv Z.F.Wd,O.obj,O.data,Nv Z⟩
theorem eW(Z:Bs K w AA mg mb):CK prog w AA (n+1) 231 (I9 269):=
 H0 (xs:=["self"]) (is:=[0]) Z.B (DD Z.X Z.F.Ve Z.F.Uf) (by kernel_rfl) (λs vs hg hl=>ME hl λa0=>EZ (Z.X.keeps hg) λS=>Z.F.Yd S a0)
  (Mb (n:=n+0) Z.B Z.X Z.F.Ui Z.F.Tg Z.g_len Z.g_max) λV V h=>GH h
theorem sN(Z:Bs K w AA mg mb):CK prog w AA (n+1) 238 (JR 269):=
 H0 (xs:=["self","tabsize"]) (is:=[0,1]) Z.B (DD Z.X Z.F.Vb Z.F.Uc) (by kernel_rfl) (λs vs hg hl=>J6 hl λa0 a1=>EZ (Z.X.keeps hg) λS=>Z.F.Xz S a0 a1)
  (Ly (n:=n+0) Z.B Z.X Z.F.Ui Z.F.Tg Z.F.Th Z.g_len Z.g_range) λV V h=>GH h
theorem Oc(Z:Bs K w AA mg mb):CK prog w AA (n+1) 245 (I7 269):=
 H0 (xs:=["self","other"]) (is:=[0,1]) Z.B (DD Z.X Z.F.Va Z.F.Ub) (by kernel_rfl) (λs vs hg hl=>J6 hl λa0 a1=>EZ (Z.X.keeps hg) λS=>Z.F.Xy S a0 a1)
  (Lx (n:=n+0) Z.B Z.X Z.F.Ui Z.F.Tg) λV V h=>GH h
theorem Oe(Z:Bs K w AA mg mb):CK prog w AA (n+2) 252 (M0 269):=
 H0 (xs:=["self","other"]) (is:=[0,1]) Z.B (DD Z.X Z.F.Vf Z.F.Ug) (by kernel_rfl) (λs vs hg hl=>J6 hl λa0 a1=>EZ (Z.X.keeps hg) λS=>Z.F.Ye S a0 a1)
  (Mc (n:=n+1) Z.B Z.X Z.F.Ui Z.g_max Z.g_range (G6 Z.X Z.F.Ve Z.F.Vq Z.F.Zb) (eW Z) (G6 Z.X Z.F.Vb Z.F.Vn Z.F.Yy) (sN Z)) λV V h=>GH h
theorem Od(Z:Bs K w AA mg mb):CK prog w AA (n+2) 259 (IK 269):=
 H0 (xs:=["self","other"]) (is:=[0,1]) Z.B (DD Z.X Z.F.Vd Z.F.Ue) (by kernel_rfl) (λs vs hg hl=>J6 hl λa0 a1=>EZ (Z.X.keeps hg) λS=>Z.F.Yc S a0 a1)
  (Ma (n:=n+1) Z.B Z.X Z.F.Ui Z.F.Tf Z.F.Te Z.F.Th Z.g_max Z.g_range (G6 Z.X Z.F.Ve Z.F.Vq Z.F.Zb) (eW Z) (G6 Z.X Z.F.Vb Z.F.Vn Z.F.Yy) (sN Z)) λV V h=>GH h
theorem Nn(Z:Bs K w AA mg mb):CK prog w AA (n+1) 135 (C7 171):=
 H0 (xs:=["self"]) (is:=[0]) Z.B (DD Z.X Z.F.Up Z.F.Tq) (by kernel_rfl) (λs vs hg hl=>ME hl λa0=>EZ (Z.X.keeps hg) λS=>Z.F.Xl S a0)
  (Lk (n:=n+0) Z.B Z.X Z.F.Uh Z.F.Td) λV V h=>GH h
theorem eT(Z:Bs K w AA mg mb):KD prog w AA (n+1) 70 "name" (K7 43 48):=
 n6 (xs:=["self","value"]) (is:=[0,1]) (ik:=2) Z.B (DD Z.X Z.F.Uk Z.F.Tk) (by kernel_rfl) (by kernel_rfl) (λs vs u hg hl=>J6 hl λa0 a1=>EZ (Z.X.keeps hg) λS=>Z.F.Xg S a0 a1 u)
  (Lf (n:=n) Z.B Z.X Z.g_type Z.g_str (.inl (Z.mgv Z.F.Wm)) (.inl (Z.mgv Z.F.Wx)) (Z.sk prog)) λV V V h=>GH h
theorem sM(Z:Bs K w AA mg mb):CK prog w AA (n+2) 118 (B1 171 43 48):=
 n5 (xs:=["self","name","default"]) (is:=[0,1,2]) Z.B (DD Z.X Z.F.Un Z.F.Tn) (by kernel_rfl) 2 (λvs=>vs++[.none]) (λds=>ds++[.none]) (λs vs hg hl=>J6 hl λa0 a1=>⟨EZ (Z.X.keeps hg) λS=>Z.F.Xj S a0 a1,rfl⟩) (λg vs ds h V=>h.append (.cons .none .nil))
  (Li (n:=n+1) Z.B Z.X Z.F.Uh Z.F.Td (G6 Z.X Z.F.Uk Z.F.Vg Z.F.Yr) (eT Z)) λV V h=>GH h
theorem Nm(Z:Bs K w AA mg mb):JS prog w AA (n+2) 89 [] (λl=>.hdr (some l) 171) (LD 171 43 48):=
 dA (x0:="self") (xs:=["name"]) (i0:=0) (is:=[1]) (us:= λvs V=>vs) (uds:= λds V=>ds) Z.B (DD Z.X Z.F.Um Z.F.Tm) (by kernel_rfl) (by kernel_rfl) 1 0 (λs v0 vs kvs hg hl hk=>by
   refine ME hl λa0=>?_;exact⟨EZ (Z.X.keeps hg) λS=>Z.F.Xi S v0 a0,rfl⟩) (λg vs ds kvs kds h V V V=>h)
  (Lh (n:=n+1) Z.B Z.X Z.F.Uh Z.F.Td (G6 Z.X Z.F.Uk Z.F.Vg Z.F.Yr) (eT Z)) (λl=>rfl) λown ds kds own' h=>p7 h
theorem Np(Z:Bs K w AA mg mb):JS prog w AA (n+3) 84 [] (λl=>.hdr (some l) 171) (FD 171 43 48):=
 dA (x0:="self") (xs:=["name","val"]) (i0:=0) (is:=[1,2]) (us:= λvs V=>vs) (uds:= λds V=>ds) Z.B (DD Z.X Z.F.Uq Z.F.Tr) (by kernel_rfl) (by kernel_rfl) 2 0 (λs v0 vs kvs hg hl hk=>by
   refine J6 hl λa0 a1=>?_;exact⟨EZ (Z.X.keeps hg) λS=>Z.F.Xm S v0 a0 a1,rfl⟩) (λg vs ds kvs kds h V V V=>h)
  (Ll (n:=n+2) Z.B Z.X Z.F.Uh Z.F.Td (G6 Z.X Z.F.Uk Z.F.Vg Z.F.Yr) (eT Z) Z.F.Yg Z.F.Vh Z.F.Ys (Nm Z)) (λl=>rfl) λown ds kds own' h=>p7 h
theorem No(Z:Bs K w AA mg mb):CK prog w AA (n+2) 171 (kL 171):=
 qO (x0:="self") (xs:=["headers"]) (i0:=0) (is:=[1]) (us:= λvs=>vs++[.none]) (uds:= λds=>ds++[.none]) Z.B Z.X Z.F.Xb (G6 Z.X Z.F.Uo Z.F.Vj Z.F.Yu) (DD Z.X Z.F.Uo Z.F.Tp) (by kernel_rfl) (by kernel_rfl) 0 (λs v0 vs hg hl=>by
   obtain rfl:=List.eq_nil_of_length_eq_zero hl;exact⟨EZ (Z.X.keeps hg) λS=>Z.F.Xk S v0,rfl⟩) (λg vs ds h V=>h.append (.cons .none .nil))
  (Lj (n:=n) Z.B Z.X Z.F.Uh Z.F.Yi Z.F.Yk Z.g_type Z.g_list) λds d h=>by
   unfold kL at h;split at h
   ·cases h;exact⟨rfl,_,_,rfl,λl=>Ex 171 l⟩
   ·cases h
theorem sO(Z:Bs K w AA mg mb):CK prog w AA (n+2) 269 (IL 269):=by
 obtain⟨tS,hS⟩:=Z.F.Tb;obtain⟨tT,hT⟩:=Z.F.Tc;exact
 qO (x0:="self") (xs:=["ws"]) (i0:=0) (is:=[1]) (us:= λvs=>vs) (uds:= λds=>ds) Z.B Z.X Z.F.Xc (G6 Z.X Z.F.Vc Z.F.Vo Z.F.Yz) (DD Z.X Z.F.Vc Z.F.Ud) (by kernel_rfl) (by kernel_rfl) 1 (λs v0 vs hg hl=>by
   refine ME hl λa0=>?_;exact⟨EZ (Z.X.keeps hg) λS=>Z.F.Yb S v0 a0,rfl⟩) (λg vs ds h V=>h)
  (Lz (n:=n) Z.B Z.X Z.F.Ui Z.F.Yj Z.F.Ti Z.F.Yp Z.F.Ym Z.F.Yo Z.F.Yn Z.F.Yl Z.g_len Z.g_tuple (Z.mgv Z.F.Vt) Z.F.Yh hS hT) λds d h=>by
   unfold IL at h;split at h
   ·split at h
    ·rename_i q;cases h;exact⟨rfl,_,_,rfl,λl=>Ql 269 l q⟩
    ·cases h
   ·cases h
theorem Oa(Z:Bs K w AA mg mb):CK prog w AA (n+4) 294 (JA 269):=
 H0 (xs:=["stands","comes","ranks","custom"]) (is:=[0,1,2,3]) Z.B (DD Z.X Z.F.Uz Z.F.Ua) (by kernel_rfl) (λs vs hg hl=>cZ hl λa0 a1 a2 a3=>EZ (Z.X.keeps hg) λS=>Z.F.Xx S a0 a1 a2 a3)
  (Lv (n:=n+3) Z.B Z.X Z.F.Ui Z.g_ord (Z.mgv Z.F.Vt) Z.F.Xa (sO (n:=n+1) Z) (G6 Z.X Z.F.Va Z.F.Vm Z.F.Yx) (Oc (n:=n+2) Z) (G6 Z.X Z.F.Vd Z.F.Vp Z.F.Za) (Od (n:=n+1) Z)) λV V h=>GH h
theorem Dk(Z:Bs K w AA mg mb):GR prog w AA mg (n+4) "_law_takes" (JA 269):=
 let O:=DD Z.X Z.F.Uz Z.F.Ua;⟨294,_,_,Z.mgv Z.F.Wh,O.obj,O.data,Oa Z⟩
theorem Nw(Z:Bs K w AA mg mb):CK prog w AA (n+5) 301 (K8 171 269 43 48):=
 H0 (xs:=["wishes","ranks","custom","gap","spots"]) (is:=[0,1,2,3,4]) Z.B (DD Z.X Z.F.Uv Z.F.Tw) (by kernel_rfl) (λs vs hg hl=>pT hl λa0 a1 a2 a3 a4=>EZ (Z.X.keeps hg) λS=>Z.F.Xs S a0 a1 a2 a3 a4)
  (Lq (n:=n+4) Z.B Z.X Z.F.Uh Z.F.Wz (Z.mgv Z.F.Vs) (No (n:=n+2) Z) rfl Z.F.Yg Z.F.Vl Z.F.Yw (Np (n:=n+1) Z) (G6 Z.X Z.F.Un Z.F.Vi Z.F.Yt) (sM (n:=n+2) Z) Z.g_range Z.g_len Z.g_chr (Dk Z)) λV V h=>GH h
theorem Dg(Z:Bs K w AA mg mb):GR prog w AA mg (n+5) "_law_parked" (K8 171 269 43 48):=
 let O:=DD Z.X Z.F.Uv Z.F.Tw;⟨301,_,_,Z.mgv Z.F.We,O.obj,O.data,Nw Z⟩
end
theorem Dp:(λd dy=>((((AM 1 [.d d,.d dy]).bind λa=>(AD 0 [.d d,.d dy]).bind λb=>BL a b).bind λa=>(((AD 0 [.d d,.d dy]).bind GT).bind λa=>(some ([]:List D)).bind λl=>some (a::l)).bind λl=>some (a::l)).bind λl=>if BG l then some (.tup l)else none))=MA:=by
 funext d dy;show((BL dy d).bind λa=>((GT d).bind λb=>some [b]).bind λl=>some (a::l)).bind _=(BL dy d).bind λa=>(GT d).bind λb=>some (D.tup [a,b]);cases BL dy d with
 |none=>rfl
 |some a=>
  cases GT d with
  |none=>rfl
  |some b=>rfl
section
variable{prog:Program}{w:World}{AA:Heap}{n:Nat}{mg mb:Str→Option Value}{K:Frag}
theorem eU(Z:Bs K w AA mg mb):HT prog w AA (n+1) (GI (JJ mg) (Str.ofString "seen") MB):=by
 have h:=pH (prog:=prog) (w:=w) (n:=n) (Sg:=⟨[("each",true),("seen",false)],[],[],none⟩) (x:="each") (y:="seen") (pm:=(mg (Str.ofString "__name__")).getD Value.none) Z.B
  (params:={posonlyargs:=[],args:=[{arg:=Str.ofString "each",annotation:=none,pos:={line:=268,col:=41,endLine:=268,endCol:=45}}],vararg:=none,kwonlyargs:=[],kw_defaults:=[],kwarg:=none,defaults:=[]})
  (scope:={kind:=ScopeKind.function,names:=[(Str.ofString "each",NameKind.local),(Str.ofString "seen",NameKind.free)],isGenerator:=false,isCoroutine:=false})
  (λfd v h1 h2 h3=>by
   cases fd;cases h1;cases h2;cases h3;kernel_rfl) rfl rfl rfl rfl (E2 (by decide+kernel)) (by decide)
  (C2 (pos:={line:=268,col:=47,endLine:=268,endCol:=60}) (A7 (C2 (pos:={line:=268,col:=47,endLine:=268,endCol:=57}) (AR 1 (x:="seen") (pos:={line:=268,col:=47,endLine:=268,endCol:=51}) rfl) (AE 0 (x:="each") (pos:={line:=268,col:=52,endLine:=268,endCol:=56}) rfl) (λV V=>rfl))) (A1 1 (k:=0) (pos:={line:=268,col:=58,endLine:=268,endCol:=59})) (λV V=>rfl))
 exact h
theorem Nt(Z:Bs K w AA mg mb):HT prog w AA (n+1) (GI (NB mg) (Str.ofString "lights") MA):=by
 have h:=pH (prog:=prog) (w:=w) (n:=n) (Sg:=⟨[("each",true),("lights",false)],[],[],none⟩) (x:="each") (y:="lights") (pm:=(mg (Str.ofString "__name__")).getD Value.none) Z.B
  (params:={posonlyargs:=[],args:=[{arg:=Str.ofString "each",annotation:=none,pos:={line:=269,col:=46,endLine:=269,endCol:=50}}],vararg:=none,kwonlyargs:=[],kw_defaults:=[],kwarg:=none,defaults:=[]})
  (scope:={kind:=ScopeKind.function,names:=[(Str.ofString "each",NameKind.local),(Str.ofString "lights",NameKind.free)],isGenerator:=false,isCoroutine:=false})
  (λfd v h1 h2 h3=>by
   cases fd;cases h1;cases h2;cases h3;kernel_rfl) rfl rfl rfl rfl (E2 (by decide+kernel)) (by decide)
  (EP (k:=0) (pos:={line:=269,col:=52,endLine:=269,endCol:=73}) (AN (C2 (pos:={line:=269,col:=53,endLine:=269,endCol:=65}) (AR 1 (x:="lights") (pos:={line:=269,col:=53,endLine:=269,endCol:=59}) rfl) (AE 0 (x:="each") (pos:={line:=269,col:=60,endLine:=269,endCol:=64}) rfl) (λV V=>rfl))
   (AN (KW (pos:={line:=269,col:=67,endLine:=269,endCol:=72}) (AE 0 (x:="each") (pos:={line:=269,col:=68,endLine:=269,endCol:=72}) rfl)) A5 (λV=>rfl)) (λV=>rfl)) (by decide))
 rw[show(λd dy=>((((AM 1 [.d d,.d dy]).bind λa=>(AD 0 [.d d,.d dy]).bind λb=>BL a b).bind λa=>(((AD 0 [.d d,.d dy]).bind GT).bind λa=>(some ([]:List D)).bind λl=>some (a::l)).bind λl=>some (a::l)).bind λl=>if BG l then some (.tup l)else none))=MA from Dp]at h;exact h
theorem Ni(Z:Bs K w AA mg mb){fdk:FuncData}{yk:Str}{fk:D→D→Option D}(hK:HT prog w AA n (GI fdk yk fk)):CK prog w AA (n+1) 193 (K6 fdk yk fk):=by
 obtain⟨t,ht⟩:=Z.F.Xe;exact n5 (xs:=["a","x","lo","hi","key"]) (is:=[0,1,2,3,4]) Z.B (DD Z.X Z.F.Uj Z.F.Tj) (by kernel_rfl) 2 (λvs=>vs++[.int 0 t,.none,.none]) (λds=>ds++[.int 0,.none,.none]) (λs vs hg hl=>J6 hl λa0 a1=>⟨EZ (Z.X.keeps hg) λS=>ht S a0 a1,rfl⟩) (λg vs ds h V=>h.append (.cons (.int _ _) (.cons .none (.cons .none .nil))))
  (rM (n:=n) Z.B Z.g_len hK) λV V h=>by exact GH h
theorem Nj(Z:Bs K w AA mg mb){fdk:FuncData}{yk:Str}{fk:D→D→Option D}(hK:HT prog w AA n (GI fdk yk fk)):KD prog w AA (n+1) 193 "key" (MY fdk yk fk):=
 n6 (xs:=["a","x","lo","hi"]) (is:=[0,1,2,3]) (ik:=4) Z.B (DD Z.X Z.F.Uj Z.F.Tj) (by kernel_rfl) (by kernel_rfl) (λs vs u hg hl=>cZ hl λa0 a1 a2 a3=>EZ (Z.X.keeps hg) λS=>Z.F.Xf S a0 a1 a2 a3 u)
  (rM (n:=n) Z.B Z.g_len hK) λV V V h=>by exact GH h
theorem Nr(Z:Bs K w AA mg mb){fdk:FuncData}{yk:Str}{fk:D→D→Option D}(hK:HT prog w AA n (GI fdk yk fk))(hK1:HT prog w AA (n+1) (GI fdk yk fk)):JS prog w AA (n+2) 184 ["key"] (λl=>.list (some l)) (I8 fdk yk fk):=by
 obtain⟨t,ht⟩:=Z.F.Xo;have O:=DD Z.X Z.F.Uj Z.F.Tj;exact dA (x0:="a") (xs:=["x","lo","hi","key"]) (i0:=0) (is:=[1,2,3,4]) (us:= λvs kvs=>vs++[Value.int 0 t,Value.none]++kvs) (uds:= λds kds=>ds++[D.int 0,D.none]++kds) Z.B (DD Z.X Z.F.Us Z.F.Tt) (by kernel_rfl) (by kernel_rfl) 1 0 (λs v0 vs kvs hg hl hk=>by
   refine ME hl λa0=>?_;refine ME hk λk0=>?_;exact⟨EZ (Z.X.keeps hg) λS=>ht S v0 a0 k0,rfl⟩) (λg vs ds kvs kds h hk V V=>(h.append (.cons (.int _ _) (.cons .none .nil))).append hk)
  (Ln (n:=n+1) Z.B hK1 (Z.mgv Z.F.Vu) O.obj O.data (Nj Z hK)) (λl=>rfl) λown ds kds own' h=>Fi h
noncomputable abbrev pM(mg:Str→Option Value):List LV→Option (AC×List LV):=
 SV mg 171 269 (B1 171 43 48) (C7 171) (I9 269) (M0 269) (IL 269) LY L0 LZ (K8 171 269 43 48) MZ (I8 (JJ mg) (Str.ofString "seen") MB) (K6 (JJ mg) (Str.ofString "seen") MB) (GI (NB mg) (Str.ofString "lights") MA)
theorem Nu(Z:Bs K w AA mg mb)(BA:∀(h:Heap) P,A3 AA h→AA.get? P=none→h.BuiltinsAt mg P):PS prog w AA (n+10) OP (DH 21) (pM mg):=by
 have Oi:=DD Z.X Z.F.Us Z.F.Tt;have Ob:=DD Z.X Z.F.Uj Z.F.Tj;exact Lo (n:=n+9) Z.B BA Z.X Z.F.Uh Z.F.Ui Z.F.Th Z.F.Tf
  (G6 Z.X Z.F.Un Z.F.Vi Z.F.Yt) (sM (n:=n+8) Z) (G6 Z.X Z.F.Up Z.F.Vk Z.F.Yv) (Nn (n:=n+9) Z)
  (G6 Z.X Z.F.Ve Z.F.Vq Z.F.Zb) (eW (n:=n+9) Z) (G6 Z.X Z.F.Vf Z.F.Vr Z.F.Zc) (Oe (n:=n+8) Z)
  Z.F.Xa (Z.mgv Z.F.Vt) (sO (n:=n+8) Z) (Dc (n:=n+9) Z) (Di (n:=n+8) Z) (Df (n:=n+9) Z) (Dg (n:=n+5) Z) (Dh (n:=n+9) Z)
  (Z.mgv Z.F.Vy) Oi.obj Oi.data (Nr (n:=n+8) Z (eU (n:=n+7) Z) (eU (n:=n+8) Z)) (Z.mgv Z.F.Vu) Ob.obj Ob.data (Ni (n:=n+9) Z (eU (n:=n+8) Z)) (Nt (n:=n+8) Z)
  Z.g_range Z.g_list Z.g_zip Z.g_len Z.g_max Z.g_sum Z.g_sorted Z.g_chr Z.g_ord
end
section
variable{prog:Program}{w:World}{AA:Heap}{n:Nat}{Sg:AP}{mg mb:Str→Option Value}
theorem Al{A:Around}{s:Shared}{he:Heap}{hid:Addr→Prop}{fa l:Addr}{o ol:Obj}{fd:FuncData}{body:List Stmt}{args:Args}{x0:Str}{v0:Value}{rest:List (Str×Value)}{i0:Nat}{b0:Bool}{is:List Nat}{kd kd':BE}{own own' ds:List D}{bb:Bool}{ρ':List LV}{F:PF}(B:B0 AA mg mb)(hA:B9 (n+1) A)(hb:A3 AA he)(hg:A3 he s.heap)(K:D7 hid s.heap)
  (ho:s.heap.get? fa=some o)(hdt:o.data=.func fd)(hco:fd.scope.isCoroutine=false)(hgen:fd.scope.isGenerator=false)(hbody:fd.body=.stmts body)(hcd:s.heap.CodeRec fd.code fd.qualname)(hgl:fd.globals=mainGlobals)(hbi:fd.builtins=builtinsNs)(hcl:fd.closure=[])
  (hE:∀env:Env,env.scope=fd.scope→env.globals=mainGlobals→env.builtins=builtinsNs→env.code=fd.code→env.qual=fd.qualname++(".<locals>.":Str)→CN Sg env)(hsto:∀x∈Sg.stor,(x,NameKind.cell)∈fd.scope.names)(hbind:BindsTo s fd args ((x0,v0)::rest))(hn0:Sg.names[i0]? =some (x0,b0))(hst0:b0=true∨x0∈Sg.stor)
  (ht:∀(j:Nat)(x:Str)(v:Value),rest[j]? =some (x,v)→∃(i:Nat)(b:Bool),is[j]? =some i∧Sg.names[i]? =some (x,b)∧(b=true∨x∈Sg.stor))(hl:rest.length=is.length)
  (hl0:he.get? l=none)(hlh:¬hid l)(hol:s.heap.get? l=some ol)(hown:DC (AL s.heap (AY hid [l])) kd v0 l ol own)(hd:AJ (AL s.heap (AY hid [l])) (rest.map (·.2)) ds)
  (hP:PS prog w AA n Sg body F)(hF:F (A4 ((AX Sg.names.length).set i0 (.own kd own)) is ds)=some (.ret (.bool bb),ρ'))(hρ:ρ'[i0]? =some (.own kd' own'))(hpin:N7 kd'=some l){R:Result→Shared→Prop}
  (hR:∀h' tk,(∃v o,h'.get? l=some o∧DC (AL h' (AY hid [l])) kd' v l o own')→(∀b x,b≠l→s.heap.get? b=some x→h'.get? b=some x)→R (.ok (.ret (.bool bb))) {s with heap:=h',toks:=tk}):
  codeAny (model prog w) A (.call (.ref fa) args) R s:=by
 refine codeAny_call_function (by have:=hA.2.1;show A.depth<1000;omega) ho hdt hco hgen hbody hcd ?_;refine hbind _ _ _ _ ?_;rw[hgl,hbi,hcl];unfold newFunctionEnv;simp only[Option.isSome_none,Bool.false_eq_true,if_false];refine wpAny_bind (wpAny_alloc (wpAny_bind ?_));refine wpAny_layCells _ (λname kind cells=>by cases kind==NameKind.cell<;>simp) _ _ _ _ ?_;have hsz:(s.heap.push {cls:=.type "frame",data:=.dict #[]}).objs.size=s.heap.objs.size+1:=Heap.size_push ..;obtain⟨ow,S0,hownn,gr,_⟩:=bT (Sg:=Sg) (scope:=fd.scope) (cls:=.type "frame") (env:={scope:=fd.scope,locals:=s.heap.objs.size,globals:=mainGlobals,cells:=cellsFrom (s.heap.objs.size+1) fd.scope.names [],qual:=fd.qualname++(".<locals>.":Str),func:=some fa,code:=fd.code,frame:=some s.heap.objs.size,builtins:=builtinsNs}) (hb.trans hg) K (IH.nil _) rfl rfl hsto;have S1:=S0.loan hb hg hl0 hlh ⟨ol,gr _ _ hol⟩;have HE:=hE {scope:=fd.scope,locals:=s.heap.objs.size,globals:=mainGlobals,cells:=cellsFrom (s.heap.objs.size+1) fd.scope.names [],qual:=fd.qualname++(".<locals>.":Str),func:=some fa,code:=fd.code,frame:=some s.heap.objs.size,builtins:=builtinsNs} rfl rfl rfl rfl rfl;have hv1:∀a x,AL s.heap (AY hid [l]) a x→AL (pushCells (s.heap.push {cls:=.type "frame",data:=.dict #[]}) fd.scope.names) (AY hid (l::ow)) a x:= λa x e=>⟨gr _ _ e.1,by
  rintro(q|q)
  ·exact e.2 (.inl q)
  ·rcases List.mem_cons.mp q with r|r
   ·exact e.2 (.inr (r▸List.mem_singleton.mpr rfl))
   ·have:=e.1;rw[hownn a r]at this;cases this⟩
 have hlL:l≠s.heap.objs.size:= λq=>by rw[q,DT]at hol;cases hol
 dsimp only;rw[hsz];refine wpAny_bind ?_;rw[List.forIn_cons];refine wpAny_bind (wpAny_bind (SQ (s:={s with heap:=pushCells (s.heap.push {cls:=.type "frame",data:=.dict #[]}) fd.scope.names}) HE S1 hn0 hst0 (.head _) hlL (gr _ _ hol) (hown.mono hv1) (λj k' es V hj=>by
  unfold AX at hj;rw[List.getElem?_replicate]at hj;split at hj<;>cases hj) λAB RT cD V B4=>wpAny_pure ?_))
 refine fE HE (λV V V=>rfl) ht hl B4 ((hd.mono hv1).mono cD) λAF J7 DG=>wpAny_pure ?_;have hlim:AF.heap.NoLimit:=by
  obtain⟨mc,a,b⟩:=B.lim;exact⟨mc,(a.keeps DG.base).keeps DG.keep,b⟩
 refine⟨hlim,codeAny_func ?_⟩;have last:∀(CS:Shared)(N1 MD:List Addr),AV AA Sg {scope:=fd.scope,locals:=s.heap.objs.size,globals:=mainGlobals,cells:=cellsFrom (s.heap.objs.size+1) fd.scope.names [],qual:=fd.qualname++(".<locals>.":Str),func:=some fa,code:=fd.code,frame:=some s.heap.objs.size,builtins:=builtinsNs} hid he N1 MD CS.heap ρ'→Mv (l::ow) N1 AF CS→R (.ok (.ret (.bool bb))) CS:=by
  intro CS N1 MD E4 HL;obtain⟨⟨h',tk,e⟩,kp,_⟩:=(RT.trans J7).trans HL;subst e;have kp:∀b x,b∉l::ow→(pushCells (s.heap.push {cls:=.type "frame",data:=.dict #[]}) fd.scope.names).get? b=some x→h'.get? b=some x:=kp;refine hR h' tk ?_ λb x nb e=>kp b x (λq=>?_) (gr _ _ e)
  ·obtain⟨l',_,v',o',_,m',_,ho',hw⟩:=IA E4 hn0 hρ;have:l'=l:=by
    rcases hw.pin with q|q
    ·rw[hpin]at q;cases q
    ·rw[hpin]at q;cases q;rfl
   subst this;refine⟨v',o',ho',hw.mono λa x e=>⟨e.1,?_⟩⟩;rintro(q|q)
   ·exact e.2 (.inl q)
   ·rw[List.mem_singleton.mp q]at e;exact e.2 (.inr m')
  ·rcases List.mem_cons.mp q with r|r
   ·exact nb r
   ·rw[hownn b r]at e;cases e
 refine BD (hP _ (A.deeper _) AF _ ρ' _ hid he (l::ow) _ _ HE hA.deeper DG hF) λfl CS ⟨N1,MD,E4,J9,HL⟩=>?_;cases fl<;>first|exact J9.elim|skip
 rename_i v _;have key:v=.bool bb:=by
  rcases(show QQ _ _ _ v (.bool bb)from J9)with r|⟨_,_,_,_,_,e,_⟩
  ·cases r;rfl
  ·cases e
 subst key;exact last CS N1 MD E4 HL
end
theorem Gj{prog:Program}{w:World}{s:Shared}{K:Frag}{mg mb:Str→Option Value}{p:Program}{loose:List Str}{mean:ExcName→Option Value}{R:Result→Shared→Prop}(F:Fx K)(sk:∀prog,OO K prog w (ML 43 48))(X:K.In s.heap)(T:Top p loose mean mg mb s.heap)(hT:TabsAt [(315,313)] s.heap)
  {l:Addr}{vs:List Value}{xs:List Int}(hl:s.heap.IsList l vs.toArray)(hI:IntsAre vs xs)(hx:xs.length≤100000)
  (hR:∀h' tk,(∃ps,h'.get? 313=some (tabObj ps))→(∀b x,b≠313→s.heap.get? b=some x→h'.get? b=some x)→R (.ok (.ret (.bool true))) {s with heap:=h',toks:=tk}):
  codeAny (model prog w) callerA (.call (.ref 316) {pos:=[.ref l]}) R s:=by
 have hT':=hT (315,313) (.head _);have B:B0 (ghostOf s.heap [(315,313)]) mg mb:=⟨ghost_ns hT T.g,ghost_ns hT T.b,by decide,(ghost_top hT T).nolimit⟩;have Z:Bs K w (ghostOf s.heap [(315,313)]) mg mb:=⟨B,ghost_K hT X F.Xd,F,sk,T.builtins⟩;have gr:A3 (ghostOf s.heap [(315,313)]) s.heap:= λb o e=>of_hideAll _ e;have nP:(ghostOf s.heap [(315,313)]).get? 313=none:=hideAll_none _ (.head _);have BA:∀(h:Heap) P,A3 (ghostOf s.heap [(315,313)]) h→(ghostOf s.heap [(315,313)]).get? P=none→h.BuiltinsAt mg P:=by
  intro h P hg hP;obtain⟨bm,ob,a1,a2,a3,a4,a5,a6⟩:=(ghost_top hT T).bmain;refine⟨bm,ob,a1,a2,λq=>?_,λq=>?_,hg _ _ a3,a4,a5,a6⟩
  ·obtain⟨o,es,ep,e1,e2,_⟩:=B.ng;rw[q,e1]at a3;cases a3;rw[e2]at a6;cases a6
  ·rw[q,hP]at a3;cases a3
 have O:=DD (Sg:={OP with code:=none}) X F.Ut F.Tu;obtain⟨a',hF,ha⟩:=Hk (mg:=mg) (H:=171) (W:=269) (aN:=43) (aV:=48) (fdk:=JJ mg) (yk:=Str.ofString "seen") (fk:=MB) (p:=some 313) (q:=Str.ofString "law.<locals>."++Str.ofString "<lambda>") rfl xs hx;obtain⟨ol,e1,e2,n1,e3⟩:=hl;have hne:l≠313:= λq=>by
  rw[q,hT'.2]at e1;cases e1;cases e2
 refine Al (n:=10) (Sg:=OP) (is:=[]) (ds:=[]) (rest:=[]) (x0:="script") (v0:=.ref l) (i0:=0) (b0:=true) (l:=313) (hid:= λV=>False) (kd:=.tab (some 313) 315 (Str.ofString "law.<locals>."++Str.ofString "<lambda>")) (kd':=.tab (some 313) 315 (Str.ofString "law.<locals>."++Str.ofString "<lambda>")) (own:=[.ilst (vI xs)]) (own':=[.ilst (vI xs)]) (bb:=true) (ρ':=A8 a') (F:=pM mg) B ⟨rfl,by decide,by decide⟩ (A3.refl _) gr (λa q=>q.elim)
  O.obj O.data O.co O.gen O.body O.code O.glob O.bi O.clos (λenv q1 q2 q3 q4 q5=>?_) O.sc.stoIn (EZ X λS=>F.Xp S (.ref l)) rfl (.inl rfl) (λj x v e=>by cases e) rfl nP id hT'.2 ?_ .nil (Nu (n:=0) Z BA) hF (congrArg some ha) rfl λh' tk q1 q2=>hR h' tk ?_ q2
 ·have E:=O.sc.env env q1 q2 q3;exact⟨E.kind,E.glob,E.bi,E.loc,E.cel,E.glo,E.sto,E.nod,E.dbg,E.dbgG,λc q e=>by
   cases e;rw[q4,q5,F.Yq,F.Zd];exact⟨rfl,rfl⟩⟩
 ·refine .tab (.inr rfl) (λh' k=>?_) trivial (λpos c' e=>by cases e) (.ilst ⟨e1,?_⟩ e2 e3 (cK hI))
  ·obtain⟨o,vs',file,tf,flags,tg,inF,text,tt,f1,r,r1,r2,r3,r4,r5,r6,r7,hcP⟩:=hT'.1;refine⟨o,vs',file,tf,flags,tg,inF,text,tt,k _ _ ⟨f1,?_⟩,r,r1,r2,r3,r4,r5,r6,r7,hcP⟩;rintro(q|q)
   ·exact q
   ·exact hcP (List.mem_singleton.mp q)
  ·rintro(q|q)
   ·exact q
   ·exact hne (List.mem_singleton.mp q)
 ·obtain⟨v,o,g1,g2⟩:=q1;cases g2;exact⟨_,g1⟩
theorem Jr{h h':Heap}(hT:TabsAt [(315,313)] h){ps:Array Value}(hp:h'.get? 313=some (tabObj ps))(hk:∀b x,b≠313→h.get? b=some x→h'.get? b=some x):OldK h h':=by
 have hT':=hT (315,313) (.head _);have h1:CodeHd h' 315 313:=by
  obtain⟨o,vs',file,tf,flags,tg,inF,text,tt,f1,r,r1,r2,r3,r4,r5,r6,r7,hcP⟩:=hT'.1;exact⟨o,vs',file,tf,flags,tg,inF,text,tt,hk _ _ hcP f1,r,r1,r2,r3,r4,r5,r6,r7,hcP⟩
 have h2:h'.TableAt 315 313 (#[]++ps):=h1.tab (by rw[Array.empty_append];exact hp);exact(OldK.refl h).step_table (hT'.1.tab hT'.2) (hT'.1.tab hT'.2) h2 hk (by decide)
noncomputable def xA:List Addr:=[2,3,42,43,47,48,56,111,170,171,176,177,185,186,268,269,62,63,69,70,83,84,88,89,117,118,134,135,183,184,192,193,199,200,206,207,223,224,230,231,237,238,244,245,251,252,258,259,279,280,286,287,293,294,300,301,305,306,310,311,315,316]
def HU(h:Heap):Frag:=xA.filterMap λa=>(h.get? a).map λo=>(a,o)
theorem Gd(h:Heap):(HU h).In h:=by
 intro a o e;obtain⟨b,_,q⟩:=List.mem_filterMap.mp (mem_of_lookupK e);obtain⟨x,hx,q⟩:=Option.map_eq_some_iff.mp q;cases q;exact hx
noncomputable abbrev fN:=Setting→Value→Value→Value→Value→Value→Value→Option (List (Str×Value))
noncomputable def PW(K:Frag)(S:Setting)(a:Addr)(x:Str)(t:Tok):Option PySem.Fin:=peek K S (Builtin.«re.Pattern.search» ⟨[.ref a,.str x t],[]⟩)
noncomputable def rN:Option PySem.Fin:=some (.done (.ret .none))
noncomputable abbrev TK:=Program→Params→Tok→List (Option PySem.Fin×Option PySem.Fin)×List (List (List (Option PySem.Fin)))
def oB(K:Frag):List Bool:=[B' K YZ 63,B' K YV 70,B' K Y1 84,B' K YX 89,B' K YY 118,B' K Y0 135,B' K Y3 184,B' K YU 193,B' K Y8 200,B' K Y2 207,B' K ZB 224,B' K ZD 231,B' K ZA 238,B' K Y' 245,B' K ZE 252,B' K ZC 259,B' K YW 280,B' K Y7 287,B' K Y9 294,B' K Y5 301,B' K Y4 306,B' K Y6 311,hasDictIn K 171,plainOver K 171,makesIn K 171,keepIn K (.ref 171),hasDictIn K 269,plainOver K 269,makesIn K 269,keepIn K (.ref 269),noSeq K 171,noGet K none,readsIn K 269 (.type "type"),B' K {OP with code:=none} 316,noTabs K,codeHdIn K 315 313]
def oY(K:Frag):List FuncBody:=[63,70,84,89,118,135,184,193,200,207,224,231,238,245,252,259,280,287,294,301,306,311,316].map λa=>(BF K a).body
def oF(K:Frag):List fN:=[λS a0 V V V V V=>peek K S (bindArgs (BF K 63) ⟨[a0],[]⟩),λS a0 a1 a2 V V V=>peek K S (bindArgs (BF K 70) ⟨[a0,a1],[("name",a2)]⟩),λS a0 a1 a2 V V V=>peek K S (bindArgs (BF K 84) ⟨[a0,a1,a2],[]⟩),λS a0 a1 V V V V=>peek K S (bindArgs (BF K 89) ⟨[a0,a1],[]⟩),λS a0 a1 V V V V=>peek K S (bindArgs (BF K 118) ⟨[a0,a1],[]⟩),λS a0 V V V V V=>peek K S (bindArgs (BF K 135) ⟨[a0],[]⟩),λS a0 a1 a2 V V V=>peek K S (bindArgs (BF K 200) ⟨[a0,a1,a2],[]⟩),λS a0 a1 a2 V V V=>peek K S (bindArgs (BF K 207) ⟨[a0,a1,a2],[]⟩),λS a0 a1 V V V V=>peek K S (bindArgs (BF K 224) ⟨[a0,a1],[]⟩),λS a0 V V V V V=>peek K S (bindArgs (BF K 231) ⟨[a0],[]⟩),λS a0 a1 V V V V=>peek K S (bindArgs (BF K 238) ⟨[a0,a1],[]⟩),λS a0 a1 V V V V=>peek K S (bindArgs (BF K 245) ⟨[a0,a1],[]⟩),λS a0 a1 V V V V=>peek K S (bindArgs (BF K 252) ⟨[a0,a1],[]⟩),λS a0 a1 V V V V=>peek K S (bindArgs (BF K 259) ⟨[a0,a1],[]⟩),λS a0 V V V V V=>peek K S (bindArgs (BF K 280) ⟨[a0],[]⟩),λS a0 a1 V V V V=>peek K S (bindArgs (BF K 287) ⟨[a0,a1],[]⟩),λS a0 a1 a2 a3 V V=>peek K S (bindArgs (BF K 294) ⟨[a0,a1,a2,a3],[]⟩),λS a0 a1 a2 a3 a4 V=>peek K S (bindArgs (BF K 301) ⟨[a0,a1,a2,a3,a4],[]⟩),λS a0 a1 a2 a3 a4 a5=>peek K S (bindArgs (BF K 306) ⟨[a0,a1,a2,a3,a4,a5],[]⟩),λS a0 a1 V V V V=>peek K S (bindArgs (BF K 311) ⟨[a0,a1],[]⟩),λS a0 a1 V V V V=>peek K S (bindArgs (BF K 193) ⟨[a0,a1],[]⟩),λS a0 a1 a2 a3 a4 V=>peek K S (bindArgs (BF K 193) ⟨[a0,a1,a2,a3],[("key",a4)]⟩),λS a0 a1 a2 V V V=>peek K S (bindArgs (BF K 184) ⟨[a0,a1],[("key",a2)]⟩),λS a0 V V V V V=>peek K S (bindArgs (BF K 316) ⟨[a0],[]⟩)]
noncomputable def oO(K:Frag):List (Option (Option Value)):=[findIn K (.ref 171) "__getattribute__",findIn K (.ref 171) "__getattr__",findIn K (.ref 171) "__setattr__",findIn K (.ref 269) "__getattribute__",findIn K (.ref 269) "__getattr__",findIn K (.ref 269) "__setattr__",findIn K (.ref 171) "_headers",takerIn K 171 "_headers",findIn K (.ref 269) "raw",takerIn K 269 "raw",findIn K (.ref 269) "n",takerIn K 269 "n",findIn K (.ref 269) "nt",takerIn K 269 "nt",findIn K (.ref 269) "norm",takerIn K 269 "norm",findIn K (.ref 269) "is_simple",takerIn K 269 "is_simple",findIn K (.ref 171) "__init__",findIn K (.ref 171) "_convert_string_type",findIn K (.ref 171) "__setitem__",findIn K (.ref 171) "__delitem__",findIn K (.ref 171) "get",findIn K (.ref 171) "items",findIn K (.ref 269) "__init__",findIn K (.ref 269) "longest_run_of_spaces",findIn K (.ref 269) "indent_level",findIn K (.ref 269) "equal",findIn K (.ref 269) "not_equal_witness",findIn K (.ref 269) "less",nsIn K mainGlobals "Headers",nsIn K mainGlobals "Whitespace",nsIn K mainGlobals "bisect_left",nsIn K mainGlobals "insort_left",nsIn K mainGlobals "rgb_to_hsv",nsIn K mainGlobals "hsv_to_rgb",nsIn K mainGlobals "_law_drawn",nsIn K mainGlobals "_law_read",nsIn K mainGlobals "_law_takes",nsIn K mainGlobals "_law_parked",nsIn K mainGlobals "_law_line",nsIn K mainGlobals "_law_parting",nsIn K mainGlobals "_name_disallowed_re",nsIn K mainGlobals "_value_disallowed_re",nsIn K mainGlobals "len",nsIn K mainGlobals "max",nsIn K mainGlobals "min",nsIn K mainGlobals "sum",nsIn K mainGlobals "sorted",nsIn K mainGlobals "chr",nsIn K mainGlobals "ord",nsIn K mainGlobals "round",nsIn K mainGlobals "range",nsIn K mainGlobals "list",nsIn K mainGlobals "zip",nsIn K mainGlobals "int",nsIn K mainGlobals "str",nsIn K mainGlobals "type",nsIn K mainGlobals "tuple",nsIn K mainGlobals "enumerate",nsIn K mainGlobals "law"]
noncomputable def oV(K:Frag):List (Option Value):=[typeIn K (.ref 63),typeIn K (.ref 70),typeIn K (.ref 84),typeIn K (.ref 89),typeIn K (.ref 118),typeIn K (.ref 135),typeIn K (.ref 224),typeIn K (.ref 231),typeIn K (.ref 238),typeIn K (.ref 245),typeIn K (.ref 252),typeIn K (.ref 259)]
noncomputable def oC(K:Frag):List (Option CFound):=[findCls K (.ref 269) (.type "type") "S",findCls K (.ref 269) (.type "type") "T"]
def oX(K:Frag):Value×Str:=((BF K 316).code,(BF K 316).qualname)
noncomputable def oP(K:Frag):List (Option (Value×Option Addr)):=[43,48].map λa=>(K.lookup a).map λo=>(o.cls,o.dict)
def oK(K:Frag):TK:= λp P t=>
 ((List.range 7).map λi=>(PW K ⟨p,P⟩ 43 (A' (97+i)) t,PW K ⟨p,P⟩ 43 (A' (65+i)) t),(List.range 3).map λg=>(List.range 6).map λk=>(List.range 5).map λc=>PW K ⟨p,P⟩ 48 (BC g k c) t)
def vK:TK:= λV V V=>((List.range 7).map λV=>(rN,rN),(List.range 3).map λV=>(List.range 6).map λV=>(List.range 5).map λV=>rN)
noncomputable def vB:List Bool:=List.replicate 36 true
def vY:List FuncBody:=[.stmts (C3 (C9 5 0)),.stmts (C3 (C9 5 1)),.stmts (C3 (C9 5 3)),.stmts (C3 (C9 5 4)),.stmts (C3 (C9 5 8)),.stmts (C3 (C9 5 11)),.stmts (DH 7),.stmts (DH 8),.stmts (DH 10),.stmts (DH 11),.stmts (C3 (C9 13 1)),.stmts (C3 (C9 13 2)),.stmts (C3 (C9 13 3)),.stmts (C3 (C9 13 4)),.stmts (C3 (C9 13 5)),.stmts (C3 (C9 13 6)),.stmts (DH 15),.stmts (DH 16),.stmts (DH 17),.stmts (DH 18),.stmts (DH 19),.stmts (DH 20),.stmts (DH 21)]
noncomputable def vF:List fN:=[λV a0 V V V V V=>some ([("self",a0),("headers",.none)]:List (Str×Value)),λV a0 a1 a2 V V V=>some ([("self",a0),("value",a1),("name",a2)]:List (Str×Value)),λV a0 a1 a2 V V V=>some ([("self",a0),("name",a1),("val",a2)]:List (Str×Value)),λV a0 a1 V V V V=>some ([("self",a0),("name",a1)]:List (Str×Value)),λV a0 a1 V V V V=>some ([("self",a0),("name",a1),("default",.none)]:List (Str×Value)),λV a0 V V V V V=>some ([("self",a0)]:List (Str×Value)),λV a0 a1 a2 V V V=>some ([("r",a0),("g",a1),("b",a2)]:List (Str×Value)),λV a0 a1 a2 V V V=>some ([("h",a0),("s",a1),("v",a2)]:List (Str×Value)),λV a0 a1 V V V V=>some ([("self",a0),("ws",a1)]:List (Str×Value)),λV a0 V V V V V=>some ([("self",a0)]:List (Str×Value)),λV a0 a1 V V V V=>some ([("self",a0),("tabsize",a1)]:List (Str×Value)),λV a0 a1 V V V V=>some ([("self",a0),("other",a1)]:List (Str×Value)),λV a0 a1 V V V V=>some ([("self",a0),("other",a1)]:List (Str×Value)),λV a0 a1 V V V V=>some ([("self",a0),("other",a1)]:List (Str×Value)),λV a0 V V V V V=>some ([("script",a0)]:List (Str×Value)),λV a0 a1 V V V V=>some ([("x",a0),("spots",a1)]:List (Str×Value)),λV a0 a1 a2 a3 V V=>some ([("stands",a0),("comes",a1),("ranks",a2),("custom",a3)]:List (Str×Value)),λV a0 a1 a2 a3 a4 V=>some ([("wishes",a0),("ranks",a1),("custom",a2),("gap",a3),("spots",a4)]:List (Str×Value)),λV a0 a1 a2 a3 a4 a5=>some ([("wishes",a0),("ranks",a1),("custom",a2),("gap",a3),("spots",a4),("start",a5)]:List (Str×Value)),λV a0 a1 V V V V=>some ([("left",a0),("right",a1)]:List (Str×Value)),λV a0 a1 V V V V=>some ([("a",a0),("x",a1),("lo",.int 0 522),("hi",.none),("key",.none)]:List (Str×Value)),λV a0 a1 a2 a3 a4 V=>some ([("a",a0),("x",a1),("lo",a2),("hi",a3),("key",a4)]:List (Str×Value)),λV a0 a1 a2 V V V=>some ([("a",a0),("x",a1),("lo",.int 0 509),("hi",.none),("key",a2)]:List (Str×Value)),λV a0 V V V V V=>some ([("script",a0)]:List (Str×Value))]
noncomputable def vO:List (Option (Option Value)):=[some (some (.builtin "object.__getattribute__")),some none,some (some (.builtin "object.__setattr__")),some (some (.builtin "object.__getattribute__")),some none,some (some (.builtin "object.__setattr__")),some none,some none,some none,some none,some none,some none,some none,some none,some none,some none,some none,some none,some (some (.ref 63)),some (some (.ref 70)),some (some (.ref 84)),some (some (.ref 89)),some (some (.ref 118)),some (some (.ref 135)),some (some (.ref 224)),some (some (.ref 231)),some (some (.ref 238)),some (some (.ref 245)),some (some (.ref 252)),some (some (.ref 259)),some (some (.ref 171)),some (some (.ref 269)),some (some (.ref 193)),some (some (.ref 184)),some (some (.ref 200)),some (some (.ref 207)),some (some (.ref 280)),some (some (.ref 287)),some (some (.ref 294)),some (some (.ref 301)),some (some (.ref 306)),some (some (.ref 311)),some (some (.ref 43)),some (some (.ref 48)),some none,some none,some none,some none,some none,some none,some none,some none,some none,some none,some none,some none,some none,some none,some none,some none,some (some (.ref 316))]
noncomputable def vV:List (Option Value):=[some (.type "function"),some (.type "function"),some (.type "function"),some (.type "function"),some (.type "function"),some (.type "function"),some (.type "function"),some (.type "function"),some (.type "function"),some (.type "function"),some (.type "function"),some (.type "function")]
noncomputable def vC:List (Option CFound):=[some (.val (.str " " 585)),some (.val (.str "\t" 586))]
noncomputable def vP:List (Option (Value×Option Addr)):=[some (.type "re.Pattern",none),some (.type "re.Pattern",none)]
theorem gt{α:Type}{a b:List α}(e:a=b)(i:Nat)(d:α):a.getD i d=b.getD i d:=congrArg (λl=>l.getD i d) e
theorem Ei{K:Frag}(eB:oB K=vB)(eY:oY K=vY)(eF:oF K=vF)(eO:oO K=vO)(eV:oV K=vV)(eC:oC K=vC)(eX:oX K=((.ref 315,"law"):Value×Str)):Fx K where
 Tp:=gt eY 0 default
 Uo:=gt eB 0 false
 Tk:=gt eY 1 default
 Uk:=gt eB 1 false
 Tr:=gt eY 2 default
 Uq:=gt eB 2 false
 Tm:=gt eY 3 default
 Um:=gt eB 3 false
 Tn:=gt eY 4 default
 Un:=gt eB 4 false
 Tq:=gt eY 5 default
 Up:=gt eB 5 false
 Tt:=gt eY 6 default
 Us:=gt eB 6 false
 Tj:=gt eY 7 default
 Uj:=gt eB 7 false
 Tz:=gt eY 8 default
 Uy:=gt eB 8 false
 Ts:=gt eY 9 default
 Ur:=gt eB 9 false
 Ud:=gt eY 10 default
 Vc:=gt eB 10 false
 Uf:=gt eY 11 default
 Ve:=gt eB 11 false
 Uc:=gt eY 12 default
 Vb:=gt eB 12 false
 Ub:=gt eY 13 default
 Va:=gt eB 13 false
 Ug:=gt eY 14 default
 Vf:=gt eB 14 false
 Ue:=gt eY 15 default
 Vd:=gt eB 15 false
 Tl:=gt eY 16 default
 Ul:=gt eB 16 false
 Ty:=gt eY 17 default
 Ux:=gt eB 17 false
 Ua:=gt eY 18 default
 Uz:=gt eB 18 false
 Tw:=gt eY 19 default
 Uv:=gt eB 19 false
 Tv:=gt eY 20 default
 Uu:=gt eB 20 false
 Tx:=gt eY 21 default
 Uw:=gt eB 21 false
 Xk:= λS a0=>congrArg (λl=>l.getD 0 (λV V V V V V V=>none) S a0 .none .none .none .none .none) eF
 Xg:= λS a0 a1 a2=>congrArg (λl=>l.getD 1 (λV V V V V V V=>none) S a0 a1 a2 .none .none .none) eF
 Xm:= λS a0 a1 a2=>congrArg (λl=>l.getD 2 (λV V V V V V V=>none) S a0 a1 a2 .none .none .none) eF
 Xi:= λS a0 a1=>congrArg (λl=>l.getD 3 (λV V V V V V V=>none) S a0 a1 .none .none .none .none) eF
 Xj:= λS a0 a1=>congrArg (λl=>l.getD 4 (λV V V V V V V=>none) S a0 a1 .none .none .none .none) eF
 Xl:= λS a0=>congrArg (λl=>l.getD 5 (λV V V V V V V=>none) S a0 .none .none .none .none .none) eF
 Xw:= λS a0 a1 a2=>congrArg (λl=>l.getD 6 (λV V V V V V V=>none) S a0 a1 a2 .none .none .none) eF
 Xn:= λS a0 a1 a2=>congrArg (λl=>l.getD 7 (λV V V V V V V=>none) S a0 a1 a2 .none .none .none) eF
 Yb:= λS a0 a1=>congrArg (λl=>l.getD 8 (λV V V V V V V=>none) S a0 a1 .none .none .none .none) eF
 Yd:= λS a0=>congrArg (λl=>l.getD 9 (λV V V V V V V=>none) S a0 .none .none .none .none .none) eF
 Xz:= λS a0 a1=>congrArg (λl=>l.getD 10 (λV V V V V V V=>none) S a0 a1 .none .none .none .none) eF
 Xy:= λS a0 a1=>congrArg (λl=>l.getD 11 (λV V V V V V V=>none) S a0 a1 .none .none .none .none) eF
 Ye:= λS a0 a1=>congrArg (λl=>l.getD 12 (λV V V V V V V=>none) S a0 a1 .none .none .none .none) eF
 Yc:= λS a0 a1=>congrArg (λl=>l.getD 13 (λV V V V V V V=>none) S a0 a1 .none .none .none .none) eF
 Xh:= λS a0=>congrArg (λl=>l.getD 14 (λV V V V V V V=>none) S a0 .none .none .none .none .none) eF
 Xv:= λS a0 a1=>congrArg (λl=>l.getD 15 (λV V V V V V V=>none) S a0 a1 .none .none .none .none) eF
 Xx:= λS a0 a1 a2 a3=>congrArg (λl=>l.getD 16 (λV V V V V V V=>none) S a0 a1 a2 a3 .none .none) eF
 Xs:= λS a0 a1 a2 a3 a4=>congrArg (λl=>l.getD 17 (λV V V V V V V=>none) S a0 a1 a2 a3 a4 .none) eF
 Xr:= λS a0 a1 a2 a3 a4 a5=>congrArg (λl=>l.getD 18 (λV V V V V V V=>none) S a0 a1 a2 a3 a4 a5) eF
 Xu:= λS a0 a1=>congrArg (λl=>l.getD 19 (λV V V V V V V=>none) S a0 a1 .none .none .none .none) eF
 Xe:=⟨522,λS a0 a1=>congrArg (λl=>l.getD 20 (λV V V V V V V=>none) S a0 a1 .none .none .none .none) eF⟩
 Xf:= λS a0 a1 a2 a3 a4=>congrArg (λl=>l.getD 21 (λV V V V V V V=>none) S a0 a1 a2 a3 a4 .none) eF
 Xo:=⟨509,λS a0 a1 a2=>congrArg (λl=>l.getD 22 (λV V V V V V V=>none) S a0 a1 a2 .none .none .none) eF⟩
 Uh:=⟨gt eO 0 none,gt eO 1 none,gt eB 22 false⟩
 Yi:=⟨gt eO 2 none,gt eB 23 false⟩
 Xb:=gt eB 24 false
 Wz:=gt eB 25 false
 Ui:=⟨gt eO 3 none,gt eO 4 none,gt eB 26 false⟩
 Yj:=⟨gt eO 5 none,gt eB 27 false⟩
 Xc:=gt eB 28 false
 Xa:=gt eB 29 false
 Yg:=gt eB 30 false
 Td:=⟨none,gt eO 6 none,gt eB 31 false⟩
 Yk:=gt eO 7 none
 Ti:=⟨none,gt eO 8 none,gt eB 31 false⟩
 Yp:=gt eO 9 none
 Tf:=⟨none,gt eO 10 none,gt eB 31 false⟩
 Ym:=gt eO 11 none
 Th:=⟨none,gt eO 12 none,gt eB 31 false⟩
 Yo:=gt eO 13 none
 Tg:=⟨none,gt eO 14 none,gt eB 31 false⟩
 Yn:=gt eO 15 none
 Te:=⟨none,gt eO 16 none,gt eB 31 false⟩
 Yl:=gt eO 17 none
 Vj:=gt eO 18 none
 Yu:=gt eV 0 none
 Vg:=gt eO 19 none
 Yr:=gt eV 1 none
 Vl:=gt eO 20 none
 Yw:=gt eV 2 none
 Vh:=gt eO 21 none
 Ys:=gt eV 3 none
 Vi:=gt eO 22 none
 Yt:=gt eV 4 none
 Vk:=gt eO 23 none
 Yv:=gt eV 5 none
 Vo:=gt eO 24 none
 Yz:=gt eV 6 none
 Vq:=gt eO 25 none
 Zb:=gt eV 7 none
 Vn:=gt eO 26 none
 Yy:=gt eV 8 none
 Vm:=gt eO 27 none
 Yx:=gt eV 9 none
 Vr:=gt eO 28 none
 Zc:=gt eV 10 none
 Vp:=gt eO 29 none
 Za:=gt eV 11 none
 Yh:=gt eB 32 false
 Tb:=⟨585,gt eC 0 none⟩
 Tc:=⟨586,gt eC 1 none⟩
 Vs:=gt eO 30 none
 Vt:=gt eO 31 none
 Vu:=gt eO 32 none
 Vy:=gt eO 33 none
 Wp:=gt eO 34 none
 Vx:=gt eO 35 none
 Wb:=gt eO 36 none
 Wg:=gt eO 37 none
 Wh:=gt eO 38 none
 We:=gt eO 39 none
 Wd:=gt eO 40 none
 Wf:=gt eO 41 none
 Wm:=gt eO 42 none
 Wx:=gt eO 43 none
 Wi:=gt eO 44 none
 Wk:=gt eO 45 none
 Wl:=gt eO 46 none
 Wu:=gt eO 47 none
 Ws:=gt eO 48 none
 Vv:=gt eO 49 none
 Wn:=gt eO 50 none
 Wq:=gt eO 51 none
 Wo:=gt eO 52 none
 Wj:=gt eO 53 none
 Wy:=gt eO 54 none
 Vz:=gt eO 55 none
 Wt:=gt eO 56 none
 Ww:=gt eO 57 none
 Wv:=gt eO 58 none
 Vw:=gt eO 59 none
 Tu:=gt eY 22 default
 Ut:=gt eB 33 false
 Wa:=gt eO 60 none
 Xp:= λS a0=>congrArg (λl=>l.getD 23 (λV V V V V V V=>none) S a0 .none .none .none .none .none) eF
 Yq:=congrArg Prod.fst eX
 Zd:=congrArg Prod.snd eX
 Xd:=gt eB 34 false
theorem yQ{K:Frag}(eB:oB K=vB):codeHdIn K 315 313=true:=gt eB 35 false
theorem rF{x:Option Obj}(h:(x.map λo=>(o.cls,o.dict))=some (.type "re.Pattern",none)):∃o,x=some o∧o.cls=.type "re.Pattern"∧o.dict=none:=
 let ⟨o,e,q⟩:=Option.map_eq_some_iff.mp h;⟨o,e,congrArg Prod.fst q,congrArg Prod.snd q⟩
theorem Mo{K:Frag}(eP:oP K=vP)(eK:oK K=vK)(w:World)(prog:Program):OO K prog w (ML 43 48) where
 obj:= λa x h=>by
  rcases Bool.or_eq_true_iff.mp h with h|h
  ·rw[beq_iff_eq.mp (Bool.and_eq_true_iff.mp h).1];exact rF (gt eP 0 none)
  ·rw[beq_iff_eq.mp (Bool.and_eq_true_iff.mp h).1];exact rF (gt eP 1 none)
 run:= λa x h t=>by
  have e:=congrFun (congrFun (congrFun eK prog) w.params) t;have e1:(List.range 7).map (λi=>(PW K ⟨prog,w.params⟩ 43 (A' (97+i)) t,PW K ⟨prog,w.params⟩ 43 (A' (65+i)) t))=(List.range 7).map λV=>(rN,rN):=congrArg Prod.fst e;have e2:(List.range 3).map (λg=>(List.range 6).map λk=>(List.range 5).map λc=>PW K ⟨prog,w.params⟩ 48 (BC g k c) t)=(List.range 3).map λV=>(List.range 6).map λV=>(List.range 5).map λV=>rN:=congrArg Prod.snd e;rcases Bool.or_eq_true_iff.mp h with h|h
  ·obtain⟨h1,h2⟩:=Bool.and_eq_true_iff.mp h;obtain⟨i,hi,hx⟩:=List.any_eq_true.mp h2;have q:=List.map_inj_left.mp e1 i hi;rw[beq_iff_eq.mp h1];rcases Bool.or_eq_true_iff.mp hx with hx|hx
   ·rw[beq_iff_eq.mp hx];exact congrArg Prod.fst q
   ·rw[beq_iff_eq.mp hx];exact congrArg Prod.snd q
  ·obtain⟨h1,h2⟩:=Bool.and_eq_true_iff.mp h;obtain⟨g,hg,h2⟩:=List.any_eq_true.mp h2;obtain⟨k,hk,h2⟩:=List.any_eq_true.mp h2;obtain⟨c,hc,hx⟩:=List.any_eq_true.mp h2;rw[beq_iff_eq.mp h1,beq_iff_eq.mp hx];exact List.map_inj_left.mp (List.map_inj_left.mp (List.map_inj_left.mp e2 g hg) k hk) c hc
noncomputable def Zg:{f // @fencedOpening=f}:=⟨_,by delta fencedOpening;rw[PySem.W.Fast.te10274390034422433532,PySem.W.Fast.te1435165496053646825,PySem.W.Fast.te14289696077712309145]⟩
noncomputable def Zj:{f // @topStub=f}:=⟨_,by delta topStub;rw[PySem.W.Fast.te12456147031677567982,PySem.W.Fast.te17154629097778926822,PySem.W.Fast.te12822647523644345616,PySem.W.Fast.te6905046200447255374]⟩
noncomputable def Zf:{f // @staticsOk=f}:=⟨_,by delta staticsOk;rw[PySem.W.Fast.te1584917186373303978,PySem.W.Fast.te14846217769314788766,PySem.W.Fast.te8920871248978507458,PySem.W.Fast.te7966671052430208091]⟩
noncomputable def Zi:{f // @namesBound=f}:=⟨_,by delta namesBound;rw[PySem.W.Fast.te12749700546528644094,PySem.W.Fast.te18344453789297297638]⟩
noncomputable def Zh:{f // @laidKept=f}:=⟨_,by delta laidKept;rw[PySem.W.Fast.te8920871248978507458,PySem.W.Fast.te7966671052430208091]⟩
def Zk:{f // @topFrom=f}:=⟨_,by delta topFrom;rw[PySem.W.Fast.te14082659384304107361,PySem.W.Fast.te8920871248978507458,Zj.2,Zf.2,PySem.W.Fast.te5923862056798008813,Zi.2,Zh.2]⟩
def Ze:{f // @openEnds=f}:=⟨_,by delta openEnds;rw[Zg.2,Zk.2]⟩
noncomputable abbrev pr:Program:=PySem.Challenge.pw_ty0068_01
def vw:Program:=view pr [0,21]
noncomputable def lo:List Str:=["_wall","_name_disallowed_re","_value_disallowed_re","Headers","insort_left","bisect_left","rgb_to_hsv","hsv_to_rgb","Whitespace","_law_drawn","_law_read","_law_takes","_law_parked","_law_line","_law_parting"]
def Xq(s:Shared):Bool:=xlAt vw [] s&&recOk [] s
def Yf(s:Shared):=(oB (HU s.heap),oY (HU s.heap),oF (HU s.heap),oO (HU s.heap),oV (HU s.heap),oC (HU s.heap),oX (HU s.heap),oP (HU s.heap),oK (HU s.heap),s.heap.get? 313)
def Ya(_:World):=(vB,vY,vF,vO,vV,vC,((.ref 315,"law"):Value×Str),vP,vK,some (tabObj #[]))
def Lw(w:World):Prop:=(openEnds treeTable pr w 3764).map (λs=>(openSeen vw lo (importedModules pr.main.body) Xq true s,Yf s))=some (openGood vw lo,Ya w)
theorem Hq(w:World):Lw (w.withFollow "special-get-raises" false):=by
 unfold Lw;rw[Ze.2,PySem.W.Fast.te14364793385576792824,PySem.W.Fast.te4187177175401517315];kernel_rfl
theorem Hr(w:World):Lw (w.withFollow "special-get-raises" true):=by
 unfold Lw;rw[Ze.2,PySem.W.Fast.te14364793385576792824,PySem.W.Fast.te4187177175401517315];kernel_rfl
theorem left:LeftO pr vw lo Xq Yf Ya 3764:= λw=>byRow2 "special-get-raises" (P:=Lw) Hq Hr w
set_option maxHeartbeats 8000000
def TP(w:World)(h:Heap):Prop:=∃K:Frag,K.In h∧Fx K∧(∀prog,OO K prog w (ML 43 48))∧codeHdIn K 315 313=true∧h.get? 313=some (tabObj #[])
theorem Ht(w:World)(s:Shared)(e:Yf s=Ya w):TP w s.heap:=
 have eB:oB (HU s.heap)=vB:=congrArg (λx=>x.1) e;have eP:oP (HU s.heap)=vP:=congrArg (λx=>x.2.2.2.2.2.2.2.1) e;have eK:oK (HU s.heap)=vK:=congrArg (λx=>x.2.2.2.2.2.2.2.2.1) e
 ⟨HU s.heap,Gd _,Ei eB (congrArg (λx=>x.2.1) e) (congrArg (λx=>x.2.2.1) e) (congrArg (λx=>x.2.2.2.1) e) (congrArg (λx=>x.2.2.2.2.1) e) (congrArg (λx=>x.2.2.2.2.2.1) e) (congrArg (λx=>x.2.2.2.2.2.2.1) e),
  Mo eP eK w,yQ eB,congrArg (λx=>x.2.2.2.2.2.2.2.2.2) e⟩
theorem Hs(w:World)(h h':Heap)(x:TP w h)(k:∀b o,h.get? b=some o→h'.get? b=some o):TP w h':=
 let ⟨K,a,b,c,d,e⟩:=x;⟨K,a.keeps k,b,c,d,k _ _ e⟩
theorem Le(d:List WData):PySem.Challenge.rw_ty0068_01.row.claim.post d (WData.bool true) d=true:=by
 kernel_rfl
end
end Mine
open Mine
set_option maxHeartbeats 8000000 in
theorem PySem.Challenge.cw_ty0068_01_holds : PySem.Challenge.rw_ty0068_01.Holds := by
 refine holds_law (by decide+kernel) λsaid=>?_;refine holds_open (q:=vw) (loose:=lo) (Xt:=Xq) (XP:=XL vw []) (Yf:=Yf) (Ya:=Ya) (YP:=TP) (N:=3764) left Ht Hs (λs e=>xl_of s (Bool.and_eq_true_iff.mp e).1) XL.keeps (by rfl) (by rfl) (by rfl) (λs e=>recFacts_of (Bool.and_eq_true_iff.mp e).2) (by rfl) said (by decide+kernel) ⟨rfl,rfl,rfl,rfl,rfl,by decide+kernel⟩ ?hw ?hc
 case hw=>w_witness2
 case hc=>
  intro w CA AB mg mb G Y fa o pm cd doc dV kV ho hd hcd hD hmg hg args vals as hpre hlay hrd hwl hlo;obtain⟨K,KX,F,sk,hc,hT⟩:=Y;refine Ground.open G ?_;intro T B D TE TW
  try (refine guard_noD D (by decide+kernel) ?_;clear D)
  wrow_args hpre hlay hrd hwl hlo
  first|refine callC_kw (enter_call ?_)|refine enter_call ?_
  w_top on
  clear hD hd hcd;have e316:some (Value.ref 316)=some (Value.ref fa):=(mg_of KX T.g F.Wa).symm.trans hmg;cases e316
  rename IntsAre _ _=>hI
  rename Heap.IsList _ _ _=>hL
  have hT9:TabsAt [(315,313)] AB.heap:=List.forall_mem_cons.mpr ⟨⟨codeHd_of_K KX hc,hT⟩,λV h=>nomatch h⟩;refine Gj F sk KX T hT9 hL hI (by omega) λh' tk hp hk=>?_;obtain⟨ps,hp⟩:=hp;refine⟨.inl ⟨_,_,[],rfl,λV=>rfl,.bool true,?_,λV=>⟨List.nodup_nil,λa ha=>nomatch ha⟩⟩,Jr hT9 hp hk,rfl,.of_eq hg⟩;exact Le _
