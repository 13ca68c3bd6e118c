import PyProof.Rows.All
import Wide.All
import OpenK.AllK
import Wide.FinOn
import Lean
import PySem.Challenge.RW_kk0017_01
open PySem PySem.W PySem.Calls PyProof.Rows
set_option Elab.async false
set_option maxRecDepth 100000
set_option maxHeartbeats 0
set_option linter.all false
set_option genInjectivity false
set_option genSizeOf false
namespace Mine
noncomputable section
structure Ls where
 z:Bool
 o:Bool
 n:Bool
 d:Bool
 u:Bool deriving DecidableEq
noncomputable def Ls.has(l:Ls)(c:Nat):Bool:=(c==122&&l.z)||(c==111&&l.o)||(c==110&&l.n)||(c==100&&l.d)||(c==117&&l.u)
noncomputable def cn(l:Ls):List Nat:=(bif l.d then[100]else[])++(bif l.n then[110]else[])++(bif l.o then[111]else[])++(bif l.u then[117]else[])++(bif l.z then[122]else[])
def iQ(s:Str)(l:Ls):Prop:=s.cps.toList.Perm (cn l)
inductive gp(α:Type)where|ok(a:α)|exc|stuck deriving DecidableEq
inductive TP where|lit(s:List Nat)|sym(i:Nat)deriving DecidableEq
abbrev Tx:=List TP
inductive BP where|lit(b:List UInt8)|ini(i:Nat)|lst(i:Nat)deriving DecidableEq
abbrev Bx:=List BP
noncomputable def dH(vs:List Value):Obj:={cls:=.type "tuple",data:=.seq vs.toArray 0}
noncomputable def aI(vs:List Value)(n:Nat):Obj:={cls:=.type "list",data:=.seq vs.toArray n}
@[elab_as_elim]theorem θ{α:Type}{x m:α}{P:α->Prop}(e:some x=some m)(k:P x):P m:=Option.some.inj e▸k
theorem ζ{α:Type}{m:α}{P:Prop}(e:none=some m):P:=nomatch e
theorem υ{P:Prop}(e:false=true):P:=Bool.noConfusion e
theorem cq{P:Prop}(e:true=false):P:=Bool.noConfusion e
theorem O{α β:Type}{x:Option α}{f:α->Option β}{m:β}{P:Prop}(e:x.bind f=some m)(k:∀a,x=some a->f a=some m->P):P:=by cases x with
 |none=>exact ζ e|some a=>exact k a rfl e
@[elab_as_elim]theorem χ{α β:Type}{x:Option α}{f:α->β}{m:β}{P:β->Prop}(e:x.map f=some m)(k:∀a,x=some a->P (f a)):P m:=by cases x with
 |none=>exact ζ e|some a=>exact θ e (k a rfl)
theorem db{α β:Type}{x:Option α}{n:Option β}{f:α->Option β}{m:β}{P:Prop}(e:x.elim n f=some m)(k:x=none->n=some m->P)(l:∀a,x=some a->f a=some m->P):P:=by cases x with
 |none=>exact k rfl e|some a=>exact l a rfl e
theorem a9{α:Type}{c:Bool}{x y:α}{m:α}{P:Prop}(e:(bif c then x else y)=m)(k:c=true->x=m->P)(l:c=false->y=m->P):P:=by cases c with
 |true=>exact k rfl e|false=>exact l rfl e
theorem ξ{α:Type}{c:Bool}{x:Option α}{m:α}{P:Prop}(e:(bif c then x else none)=some m)(k:c=true->x=some m->P):P:=by cases c with
 |true=>exact k rfl e|false=>exact ζ e
theorem cj{α:Type}{c:Bool}{x:Option α}{m:α}{P:Prop}(e:(bif c then none else x)=some m)(k:c=false->x=some m->P):P:=by cases c with
 |true=>exact ζ e|false=>exact k rfl e
@[elab_as_elim]theorem Φ{α:Type}{c:Bool}{x:α}{m:α}{P:α->Prop}(e:(bif c then some x else none)=some m)(k:c=true->P x):P m:=ξ e λh e=>θ e (k h)
theorem af{α:Type}{x y:Option α}{m:α}{P:Prop}(e:x.or y=some m)(k:x=some m->P)(l:y=some m->P):P:=by cases x with
 |none=>exact l e|some a=>exact k e
theorem η{a b:Bool}{P:Prop}(e:(a&&b)=true)(k:a=true->b=true->P):P:=by cases a with
 |true=>exact k rfl e|false=>exact υ e
theorem aP{a:Bool}(e:(!a)=true):a=false:=by cases a with
 |true=>exact υ e|false=>rfl
theorem Iq{c:Prop}[Decidable c]{x y:Prop}(h:c->x)(k:¬c->y):if c then x else y:=if g:c then(if_pos g).symm▸h g else(if_neg g).symm▸k g
theorem a8{α:Type}{a b:α}{C:α->Prop}(h:a=b)(x:C b):C a:=h▸x
theorem ble{a b:Nat}(h:Nat.ble a b=true):a<=b:=Nat.le_of_ble_eq_true h
theorem na{c k:Nat}{b:Bool}:c∈(bif b then[k]else[])↔(c==k&&b)=true:=by cases b with
 |true=>exact List.mem_singleton.trans ((beq_iff_eq (a:=c) (b:=k)).symm.trans (iff_of_eq (congrArg (·=true) (Bool.and_true (c==k)).symm)))|false=>exact Iff.intro (λm=>(List.not_mem_nil m).elim) λe=>υ ((Bool.and_false (c==k)).symm.trans e)
theorem qU{c:Nat}{l r:List Nat}{x y:Bool}(a:c∈l↔x=true)(b:c∈r↔y=true):c∈l++r↔(x||y)=true:=List.mem_append.trans ((or_congr a b).trans (iff_of_eq (Bool.or_eq_true x y)).symm)
theorem FR(l:Ls):((bif l.z then[122]else[])++(bif l.o then[111]else[])++(bif l.n then[110]else[])++(bif l.d then[100]else[])++(bif l.u then[117]else[])).Perm (cn l):=List.isPerm_iff.mp ((by decide+kernel:∀z o n d u:Bool,List.isPerm ((bif z then[122]else[])++(bif o then[111]else[])++(bif n then[110]else[])++(bif d then[100]else[])++(bif u then[117]else[])) (cn ⟨z,o,n,d,u⟩)=true) l.z l.o l.n l.d l.u)
theorem iQ.has{s:Str}{l:Ls}(p:iQ s l)(c:Nat):c∈s.cps.toList↔l.has c=true:=p.mem_iff.trans ((FR l).mem_iff.symm.trans (qU (qU (qU (qU na na) na) na) na))
abbrev vis(vol:List Addr)(h:Heap):Heap:=hideAll h vol
theorem ι{vol:List Addr}{h:Heap}{a:Addr}{o:Obj}:(vis vol h).get? a=some o↔h.get? a=some o/\a∉vol:=by
  constructor
  · intro e
    refine⟨of_hideAll _ e,λm=>?_⟩
    rw[hideAll_none vol m]at e;cases e
  ·intro e;exact hideAll_get _ e.1 e.2
theorem ba{vol:List Addr}{h h':Heap}(k:h.StaysIn h'):(vis vol h).StaysIn (vis vol h'):=λb o e=>by rw[ι]at e⊢;exact⟨k b o e.1,e.2⟩
theorem nD{vol:List Addr}{h:Heap}{a:Addr}:(vis (a::vol) h).StaysIn (vis vol h):=λb o e=>by rw[ι]at e⊢;exact⟨e.1,λm=>e.2 (.tail _ m)⟩
theorem dX{vol oz:List Addr}{h:Heap}(k:∀a∈oz,a∈vol):(vis vol h).StaysIn (vis oz h):=λb o e=>by rw[ι]at e⊢;exact⟨e.1,λm=>e.2 (k _ m)⟩
theorem iH{vol:List Addr}{h h':Heap}{a:Addr}(k:(vis vol h).StaysIn (vis vol h'))(n:h.get? a=none):(vis vol h).StaysIn (vis (a::vol) h'):=λb o e=>by
 have e':=k b o e
 rw[ι]at e e'⊢
 refine⟨e'.1,λm=>?_⟩
 cases m with
 |head=>rw[n]at e;cases e.1|tail _ m=>exact e'.2 m
theorem cw(h:Heap):h.StaysIn h:=λ_ _ e=>e
theorem Ψ{h h' h'':Heap}(a:h.StaysIn h')(b:h'.StaysIn h''):h.StaysIn h'':=λx o e=>b x o (a x o e)
theorem bU(h:Heap)(o:Obj):h.StaysIn (h.push o):=λ_ _ e=>Heap.get?_push_of_some _ e
structure Step(s s':Shared):Prop where
 keep:s.heap.StaysIn s'.heap
 os:s'.os=s.os
 gens:s'.gens=s.gens
theorem Step.refl(s:Shared):Step s s:=⟨cw _,rfl,rfl⟩
theorem Step.trans{s s' dz:Shared}(a:Step s s')(b:Step s' dz):Step s dz:=⟨Ψ a.keep b.keep,b.os.trans a.os,b.gens.trans a.gens⟩
theorem Step.tok{s:Shared}{t:Nat}:Step s {s with toks:=t}:=⟨cw _,rfl,rfl⟩
section
inductive Jm where|none|int(i:Int)|dj(k:Nat)(l:List Nat)|str(s:Tx)|dD(l:Ls)|bytes(b:Bx)
inductive Mt where|v|t|p|s|c|l
structure Nd where
 wr:Bool
 d:Nat
 v:gp Jm
 t:gp Jm
 p:gp Jm
 s:gp Jm
 c:gp Jm
 l:gp Jm
def Nd.of(β:Nd):Mt->gp Jm|.v=>.stuck|.t=>β.t|.p=>β.p|.s=>β.s|.c=>β.c|.l=>β.l
inductive Bk where|len|sorted|isinstance|sum|hasattr
inductive Tk where|str|bytes|int|type|zip|enumerate|range|super
def Bk.name:Bk->String|.len=>"len"|.sorted=>"sorted"|.isinstance=>"isinstance"|.sum=>"sum"|.hasattr=>"hasattr"
def Tk.name:Tk->String|.str=>"str"|.bytes=>"bytes"|.int=>"int"|.type=>"type"|.zip=>"zip"|.enumerate=>"enumerate"|.range=>"range"|.super=>"super"
inductive XV where|none|bool(b:Bool)|int(i:Int)|dj(k:Nat)(l:List Nat)|num(j:Nat)|YV(j d:Nat)|str(s:Tx)|dD(l:Ls)|bytes(b:Bx)|tuple(l:List XV)|list(l:List XV)|dict(l:List (Str×XV))|obj(C:Addr)(fs:List (Str×XV))|node(β:Nd)|addr(a:Addr)|ty(n:Tk)|bi(n:Bk)|heads(x:Tx)|head(i:Nat)|ip(v:Value)|Q7(n:Nat)|mz
def Jm.up:Jm->XV|.none=>.none|.int i=>.int i|.dj k l=>.dj k l|.str s=>.str s|.dD l=>.dD l|.bytes b=>.bytes b
structure ay where
 txt:Nat->List Nat
 ini:Nat->List UInt8
 lst:Nat->UInt8
 colon:Nat->Bool
 num:Nat->Int
 Rv:List Int
 res:List ((Nat×Nat×Nat)×Int)
noncomputable def sJ:List Int->List Value->Prop
 |[],vs=>vs=[]|i::r,vs=>∃t H0,vs=.int i t::H0/\sJ r H0
def BN:Nat:=4000
structure ay.Ok(S:ay):Prop where
 txt:∀i,(S.txt i).length<=BN
 ini:∀i,(S.ini i).length+1<=BN
 head:∀i,∃h r,S.txt i=h++40::r/\40∉h/\h≠[]/\((58∈h)↔S.colon i=true)res:∀j d m r,((j,d,m),r)∈S.res->((S.num j).fdiv d).fmod m=r
def TP.den(S:ay):TP->List Nat
 |.lit s=>s|.sym i=>S.txt i
noncomputable def Tx.den(S:ay):Tx->List Nat
 |[]=>[]|p::q=>p.den S++Tx.den S q
def BP.den(S:ay):BP->List UInt8
 |.lit b=>b|.ini i=>S.ini i|.lst i=>[S.lst i]
noncomputable def Bx.den(S:ay):Bx->List UInt8
 |[]=>[]|p::q=>p.den S++Bx.den S q
noncomputable def aj(S:ay):List Nat->Nat
 |[]=>0|i::q=>(S.ini i).length+1+aj S q
def aD(l:List Nat):Str:=⟨⟨l⟩⟩
def bu(l:List UInt8):Array UInt8:=⟨l⟩
noncomputable def dq(P:Params):List DictEntry->List (Str×Value)->Prop
 |[],[]=>True|e::es,p::ps=>(e.hash=PyData.keyHash P p.1/\(∃t,e.key=.str p.1 t)/\e.val=p.2)/\dq P es ps|_,_=>False
def dc(P:Params)(o:Obj)(τ:List (Str×Value)):Prop:=o.cls=.type "dict"/\∃es n,o.data=.dict es n/\dq P es.toList τ
structure ψ(A:Around)(d:Nat):Prop where
 depth:A.depth+10*d<=900
 units:A.units+100*d<=9000
 guards:A.guards=some []handled:A.handled=none
def Q8(B:Heap)(fr:List Env)(C:Addr)(s:Shared)(e:Value)(s':Shared):Prop:=∃a a0,e=.ref a/\Heap.FlyingW B fr a (.ref C) a0 s'.heap/\s.heap.UpToSlots s'.heap/\s'.os=s.os/\s'.gens=s.gens
structure aE where
 prog:Program
 w:World
 K:Frag
 top:Heap
 exc:Addr
 μ:Addr->Mt->Option Addr
 jD:Addr->Option Bool
 S:ay
 w8:K.In top
 lim:top.NoLimit
 uN:S.Ok
 sys:∃o,top.get? sysModules=some o
variable(W:aE)
structure Inv(vol:List Addr)(s:Shared):Prop where
 top:W.top.StaysIn (vis vol s.heap)vol:∀a∈vol,∃o,s.heap.get? a=some o
abbrev Md:Model:=model W.prog W.w
def mU:Jm->Value->Prop
 |.none,v=>v=.none|.int i,v=>∃t,v=.int i t|.dj k l,v=>∃t,v=.int ((k+aj W.S l:Nat):Int) t|.str s,v=>∃t,v=.str (aD (s.den W.S)) t|.dD l,v=>∃s t,v=.str s t/\iQ s l|.bytes b,v=>∃t,v=.bytes (bu (b.den W.S)) t
def nf(h:Heap)(f a:Addr)(d:Nat)(m:Jm):Prop:=∀(A:Around)(s:Shared)(R:Result->Shared->Prop),ψ A d->h.StaysIn s.heap->Inv W [] s->(∀v s',mU W m v->Step s s'->R (.ok (.ret v)) s')->codeAny (Md W) A (.call (.ref f) ⟨[.ref a],[]⟩) R s
def hJ(h:Heap)(f a:Addr)(d:Nat):Prop:=∀(A:Around)(s:Shared)(B:Heap)(fr:List Env)(R:Result->Shared->Prop),ψ A d->A.frames=some fr->h.StaysIn s.heap->Inv W [] s->B.StaysIn s.heap->s.heap.FunFrames B fr->(∀e s',Q8 B fr W.exc s e s'->R (.error e) s')->codeAny (Md W) A (.call (.ref f) ⟨[.ref a],[]⟩) R s
def gB(h:Heap)(f a:Addr)(d:Nat):gp Jm->Prop
 |.ok m=>nf W h f a d m|.exc=>hJ W h f a d|.stuck=>True
def BQ(h:Heap)(f a:Addr)(d:Nat):Prop:=∀(A:Around)(s:Shared)(B:Heap)(fr:List Env)(R:Result->Shared->Prop),ψ A d->A.frames=some fr->h.StaysIn s.heap->Inv W [] s->B.StaysIn s.heap->s.heap.FunFrames B fr->(∀s',Step s s'->R (.ok (.ret .none)) s')->codeAny (Md W) A (.call (.ref f) ⟨[.ref a],[]⟩) R s
def gJ(h:Heap)(f a:Addr)(d:Nat):gp Jm->Prop
 |.ok _=>BQ W h f a d|.exc=>hJ W h f a d|.stuck=>True
inductive ki(h:Heap)(a:Addr)(β:Nd):Prop|mk(C dx:Addr)(od:Obj)(τ:List (Str×Value))(h0:W.jD C=some β.wr)(h1:h.get? a=some (instObj C dx))(h2:h.get? dx=some od)(h3:dc W.w.params od τ)(h4:τ.map (·.1)=[Str.ofString "args",Str.ofString "taproot"])(h5:∀m f,W.μ C m=some f->gB W h f a β.d (β.of m)/\(m=.v->gJ W h f a β.d β.v)):ki h a β
mutual noncomputable def ω(h:Heap):XV->Value->Prop
 |.none,v=>v=.none|.bool b,v=>v=.bool b|.int i,v=>∃t,v=.int i t|.dj k l,v=>∃t,v=.int ((k+aj W.S l:Nat):Int) t|.num j,v=>∃t,v=.int (W.S.num j) t|.YV j d,v=>∃t,v=.int ((W.S.num j).fdiv d) t|.str s,v=>∃t,v=.str (aD (s.den W.S)) t|.dD l,v=>∃s t,v=.str s t/\iQ s l|.bytes b,v=>∃t,v=.bytes (bu (b.den W.S)) t|.tuple ms,v=>∃a vs,v=.ref a/\h.get? a=some (dH vs)/\Ξ h ms vs|.list ms,v=>∃a vs n,v=.ref a/\h.get? a=some (aI vs n)/\Ξ h ms vs|.dict ds,v=>∃a o τ,v=.ref a/\h.get? a=some o/\(a==sysModules)=false/\o.IsDictOf (strKind W.prog W.w) τ/\aY h ds τ|.obj C fs,v=>∃a dx od τ,v=.ref a/\h.get? a=some (instObj C dx)/\h.get? dx=some od/\dc W.w.params od τ/\aY h fs τ|.node β,v=>∃a,v=.ref a/\ki W h a β|.addr a,v=>v=.ref a|.ty n,v=>v=.type n.name|.bi n,v=>v=.builtin n.name|.heads x,v=>∃a vs n t,v=.ref a/\h.get? a=some (aI (.str (aD ((x.den W.S).takeWhile (·!=40))) t::vs) n)|.head i,v=>∃t,v=.str (aD ((W.S.txt i).takeWhile (·!=40))) t|.ip u,v=>v=u/\handedIn v=true|.Q7 n,v=>∃a t u w,v=.ref a/\IsRange h a 0 (n:Nat) 1 t u w|.mz,v=>∃a vs n,v=.ref a/\h.get? a=some (aI vs n)/\sJ W.S.Rv vs noncomputable def Ξ(h:Heap):List XV->List Value->Prop
 |[],vs=>vs=[]|m::ms,vs=>∃v H0,vs=v::H0/\ω h m v/\Ξ h ms H0 noncomputable def aY(h:Heap):List (Str×XV)->List (Str×Value)->Prop
 |[],es=>es=[]|(x,m)::ms,es=>∃v es',es=(x,v)::es'/\ω h m v/\aY h ms es' end
variable{W}
theorem nf.mono{h h':Heap}(k:h.StaysIn h'){f a d r}(x:nf W h f a d r):nf W h' f a d r:=λA s R h1 h2 h3 h4=>x A s R h1 (Ψ k h2) h3 h4
theorem hJ.mono{h h':Heap}(k:h.StaysIn h'){f a d}(x:hJ W h f a d):hJ W h' f a d:=λA s B fr R h1 h2 h3 h4 h5 h6 h7=>x A s B fr R h1 h2 (Ψ k h3) h4 h5 h6 h7
theorem gB.mono{h h':Heap}(k:h.StaysIn h'){f a d r}(x:gB W h f a d r):gB W h' f a d r:=by cases r with
 |ok m=>exact nf.mono k x|exc=>exact hJ.mono k x|stuck=>trivial
theorem gJ.mono{h h':Heap}(k:h.StaysIn h'){f a d r}(x:gJ W h f a d r):gJ W h' f a d r:=by cases r with
 |ok m=>exact λA s B fr R h1 h2 h3=>x A s B fr R h1 h2 (Ψ k h3)|exc=>exact hJ.mono k x|stuck=>trivial
theorem ki.mono{h h':Heap}(k:h.StaysIn h'){a β}(x:ki W h a β):ki W h' a β:=x.rec λC dx od τ h0 h1 h2 h3 h4 h5=>⟨C,dx,od,τ,h0,k _ _ h1,k _ _ h2,h3,h4,λm f e=>⟨(h5 m f e).1.mono k,λz=>((h5 m f e).2 z).mono k⟩⟩
mutual theorem ω.mono{h h':Heap}(k:h.StaysIn h'):∀{m:XV}{v:Value},ω W h m v->ω W h' m v
 |.none,_,x=>x|.bool _,_,x=>x|.int _,_,x=>x|.dj _ _,_,x=>x|.num _,_,x=>x|.YV _ _,_,x=>x|.str _,_,x=>x|.dD _,_,x=>x|.bytes _,_,x=>x|.tuple _,_,x=>x.imp λ_=>Exists.imp λ_ y=>⟨y.1,k _ _ y.2.1,Ξ.mono k y.2.2⟩|.list _,_,x=>x.imp λ_=>Exists.imp λ_=>Exists.imp λ_ y=>⟨y.1,k _ _ y.2.1,Ξ.mono k y.2.2⟩|.dict _,_,x=>x.imp λ_=>Exists.imp λ_=>Exists.imp λ_ y=>⟨y.1,k _ _ y.2.1,y.2.2.1,y.2.2.2.1,aY.mono k y.2.2.2.2⟩|.obj _ _,_,x=>x.imp λ_=>Exists.imp λ_=>Exists.imp λ_=>Exists.imp λ_ y=>⟨y.1,k _ _ y.2.1,k _ _ y.2.2.1,y.2.2.2.1,aY.mono k y.2.2.2.2⟩|.node _,_,x=>x.imp λ_ y=>⟨y.1,y.2.mono k⟩|.addr _,_,x=>x|.ty _,_,x=>x|.bi _,_,x=>x|.heads _,_,x=>x.imp λ_=>Exists.imp λ_=>Exists.imp λ_=>Exists.imp λ_ y=>⟨y.1,k _ _ y.2⟩|.head _,_,x=>x|.ip _,_,x=>x|.Q7 _,_,x=>x.imp λ_=>Exists.imp λ_=>Exists.imp λ_=>Exists.imp λ_ y=>⟨y.1,k _ _ y.2⟩|.mz,_,x=>x.imp λ_=>Exists.imp λ_=>Exists.imp λ_ y=>⟨y.1,k _ _ y.2.1,y.2.2⟩theorem Ξ.mono{h h':Heap}(k:h.StaysIn h'):∀{ms:List XV}{vs:List Value},Ξ W h ms vs->Ξ W h' ms vs
 |[],_,x=>x|_::_,_,x=>x.imp λ_=>Exists.imp λ_ y=>⟨y.1,y.2.1.mono k,Ξ.mono k y.2.2⟩theorem aY.mono{h h':Heap}(k:h.StaysIn h'):∀{ms:List (Str×XV)}{es:List (Str×Value)},aY W h ms es->aY W h' ms es
 |[],_,x=>x|(_,_)::_,_,x=>x.imp λ_=>Exists.imp λ_ y=>⟨y.1,y.2.1.mono k,aY.mono k y.2.2⟩end
theorem mU.up{h:Heap}{m:Jm}{v:Value}(x:mU W m v):ω W h m.up v:=by cases m<;>exact x
theorem Inv.step{vol:List Addr}{s s':Shared}(I:Inv W vol s)(k:Step s s'):Inv W vol s':=⟨Ψ I.top (ba k.keep),λa m=>(I.vol a m).imp (k.keep a)⟩
theorem Inv.nil{vol:List Addr}{s:Shared}(I:Inv W vol s):Inv W [] s:=⟨Ψ I.top (dX (λ_ m=>nomatch m)),λ_ m=>(nomatch m)⟩
theorem Inv.keeps{vol:List Addr}{s:Shared}(I:Inv W vol s):W.top.StaysIn s.heap:=λb o e=>(ι.mp (I.top b o e)).1
theorem Inv.k{vol:List Addr}{s:Shared}(I:Inv W vol s):W.K.In s.heap:=W.w8.keeps I.keeps
theorem Inv.fresh{vol:List Addr}{s:Shared}(I:Inv W vol s){a:Addr}(h:s.heap.get? a=none):a∉vol:=λm=>(I.vol a m).elim λ_ e=>nomatch h.symm.trans e
theorem aX(h:Heap):h.get? h.objs.size=none:=Heap.get?_none_of_le (Nat.le_refl _)
theorem dA{vol:List Addr}{s:Shared}(I:Inv W vol s){o:Obj}(hf:o.isFreed=false):(vis vol (s.heap.push o)).get? s.heap.objs.size=some o:=ι.mpr ⟨Heap.get?_push_size _ hf,I.fresh (aX _)⟩
theorem Step.push(s:Shared)(o:Obj){t:Nat}:Step s {s with heap:=s.heap.push o,toks:=t}:=⟨bU _ _,rfl,rfl⟩
structure Cx where names:List (Str×NameKind)
abbrev au:=List (Str×XV)
noncomputable def lk{α:Type}:List (Str×α)->Str->Option α
 |[],_=>none|(x,v)::q,y=>bif Fast.sEq x y then some v else lk q y
variable(W)
structure St(vol:List Addr)(cx:Cx)(ρ:au)(env:Env)(s:Shared):Prop where
 kind:env.scope.kind=.function
 names:∀x k,cx.names.lookup x=some k->env.kindOf x=some k\/(k=.free/\env.kindOf x=some .cell)globals:env.globals=mainGlobals
 builtins:env.builtins=builtinsNs
 inv:Inv W vol s
 loc:∃m,s.heap.Ns env.locals m/\∀x mv,lk ρ x=some mv->cx.names.lookup x=some .local->∃v,m x=some v/\ω W (vis vol s.heap) mv v
 z_:∀x mv,lk ρ x=some mv->(cx.names.lookup x=some .cell\/cx.names.lookup x=some .free)->∃c v,env.cells.lookup x=some c/\s.heap.IsCell c (some v)/\ω W (vis vol s.heap) mv v
def ο(A:Around)(vol:List Addr)(t:Sem Value)(m:XV)(s:Shared):Prop:=∀(E Q:Value->Shared->Prop),(∀v s',ω W (vis vol s'.heap) m v->Step s s'->Q v s')->wpAny (Md W) A t Q E s
def aM(A:Around)(vol:List Addr)(c:Code)(m:XV)(s:Shared):Prop:=∀(R:Result->Shared->Prop),(∀v s',ω W (vis vol s'.heap) m v->Step s s'->R (.ok (.ret v)) s')->codeAny (Md W) A c R s
def eY(A:Around)(t:Sem Bool)(b:Bool)(s:Shared):Prop:=∀(E:Value->Shared->Prop)(Q:Bool->Shared->Prop),(∀s',Step s s'->Q b s')->wpAny (Md W) A t Q E s
structure ae(own:List Addr)(s s':Shared):Prop where
 keep:∀b o,b∉own->s.heap.get? b=some o->s'.heap.get? b=some o
 live:∀b o,s.heap.get? b=some o->∃o',s'.heap.get? b=some o'
 os:s'.os=s.os
 gens:s'.gens=s.gens
structure az(own vol:List Addr)(cx:Cx)(ρ:au)(env:Env)(s:Shared):Prop extends St W vol cx ρ env s where
 sub:∀a∈own,a∈vol
 fF:env.locals∈own
 mF:∀x,cx.names.lookup x=some .cell->∃c v,env.cells.lookup x=some c/\c∈own/\c≠env.locals/\s.heap.IsCell c v
 apart:∀x y c,(cx.names.lookup x=some .cell\/cx.names.lookup x=some .free)->(cx.names.lookup y=some .cell\/cx.names.lookup y=some .free)->env.cells.lookup x=some c->env.cells.lookup y=some c->x=y
 free:∀x c,cx.names.lookup x=some .free->env.cells.lookup x=some c->c∉own
 cl:∀x c,env.cells.lookup x=some c->∃o,s.heap.get? c=some o
inductive fP where|next(ρ:au)|ret(m:XV)
def AT(own vol:List Addr)(cx:Cx)(env:Env)(r:fP)(f:Flow)(s':Shared):Prop:=match r with
 |.next aV=>f=.next/\az W own vol cx aV env s'|.ret m=>∃v,f=.ret v/\ω W (vis vol s'.heap) m v/\Inv W vol s'
structure Sv where
 ev:Nat->Cx->au->Expr->Option XV
 tr:Nat->Cx->au->Expr->Option Bool
 call:Nat->Addr->List XV->List (Str×XV)->Option XV
 exs:Nat->Cx->au->List Stmt->Option fP
structure al(sv:Sv):Prop where
 ev:∀{d cx ρ e m},sv.ev d cx ρ e=some m->∀{A own vol env s},az W own vol cx ρ env s->ψ A d->ο W A vol (eval e env) m s
 tr:∀{d cx ρ e b},sv.tr d cx ρ e=some b->∀{A own vol env s},az W own vol cx ρ env s->ψ A d->eY W A (isTrue e env (eval e env)) b s
 call:∀{d f ms kw m},sv.call d f ms kw=some m->∀{A vol s vs kws},Inv W vol s->ψ A d->Ξ W (vis vol s.heap) ms vs->aY W (vis vol s.heap) kw kws->aM W A vol (.call (.ref f) ⟨vs,kws⟩) m s
 exs:∀{d cx ρ l r},sv.exs d cx ρ l=some r->∀{A own vol env s},az W own vol cx ρ env s->ψ A d->∀(E:Value->Shared->Prop)(Q:Flow->Shared->Prop),(∀f s',AT W own vol cx env r f s'->ae own s s'->Q f s')->wpAny (Md W) A (execs l env) Q E s
variable{W}
theorem St.step{vol cx ρ env s s'}(x:St W vol cx ρ env s)(k:Step s s'):St W vol cx ρ env s':=⟨x.kind,x.names,x.globals,x.builtins,x.inv.step k,x.loc.imp λ_ y=>⟨y.1.keeps k.keep,λx mv a b=>(y.2 x mv a b).imp λ_ z=>⟨z.1,z.2.mono (ba k.keep)⟩⟩,λy mv a b=>(x.z_ y mv a b).imp λ_=>Exists.imp λ_ z=>⟨z.1,z.2.1.keeps k.keep,z.2.2.mono (ba k.keep)⟩⟩
theorem ω.step{vol:List Addr}{s s':Shared}{m:XV}{v:Value}(x:ω W (vis vol s.heap) m v)(k:Step s s'):ω W (vis vol s'.heap) m v:=x.mono (ba k.keep)
theorem Ξ.step{vol:List Addr}{s s':Shared}{m:List XV}{v:List Value}(x:Ξ W (vis vol s.heap) m v)(k:Step s s'):Ξ W (vis vol s'.heap) m v:=x.mono (ba k.keep)
theorem ae.of{own:List Addr}{s s':Shared}(k:Step s s'):ae own s s':=⟨λb o _ e=>k.keep b o e,λb o e=>⟨o,k.keep b o e⟩,k.os,k.gens⟩
theorem ae.trans{own:List Addr}{s s' dz:Shared}(a:ae own s s')(b:ae own s' dz):ae own s dz:=⟨λx o n e=>b.keep x o n (a.keep x o n e),λx o e=>(a.live x o e).elim (b.live x),b.os.trans a.os,b.gens.trans a.gens⟩
theorem ae.vis{own vol:List Addr}(h:∀a∈own,a∈vol){s s':Shared}(k:ae own s s'):(vis vol s.heap).StaysIn (vis vol s'.heap):=λb o e=>ι.mpr ⟨k.keep b o (λm=>(ι.mp e).2 (h b m)) (ι.mp e).1,(ι.mp e).2⟩
theorem Inv.mV{own vol:List Addr}(h:∀a∈own,a∈vol){s s':Shared}(I:Inv W vol s)(k:ae own s s'):Inv W vol s':=⟨Ψ I.top (k.vis h),λa m=>(I.vol a m).elim (k.live a)⟩
theorem az.step{own vol cx ρ env s s'}(x:az W own vol cx ρ env s)(k:Step s s'):az W own vol cx ρ env s':=⟨x.toSt.step k,x.sub,x.fF,λn h=>(x.mF n h).imp λ_=>Exists.imp λ_ z=>⟨z.1,z.2.1,z.2.2.1,z.2.2.2.keeps k.keep⟩,x.apart,x.free,λn c h=>(x.cl n c h).imp λ_=>k.keep c _⟩
theorem aM.call{A:Around}{vol:List Addr}{f:Value}{pos:List Value}{kw:List (Str×Value)}{m:XV}{s:Shared}(h:aM W A vol (.call f ⟨pos,kw⟩) m s):ο W A vol (call f pos kw) m s:=λE Q k=>wpAny_call (h _ λv s' a b=>k v s' a b)
theorem room{u c d l:Nat}(k:Nat)(hk:k<=c)(h:u+c*(d+1)<=l):u+k+c*d<=l:=Nat.le_trans (Nat.le_trans (Nat.le_of_eq (Nat.add_right_comm u k (c*d))) (Nat.le_trans (Nat.add_le_add_left hk _) (Nat.le_of_eq (Nat.add_assoc u (c*d) c)))) h
theorem ψ.in1{A:Around}{d:Nat}(R:ψ A (d+1)):ψ A.in1 d:=⟨room 0 (Nat.zero_le _) R.depth,room 1 (by decide) R.units,R.guards,R.handled⟩
theorem ψ.le{A:Around}{d e:Nat}(R:ψ A d)(h:e<=d):ψ A e:=⟨Nat.le_trans (Nat.add_le_add_left (Nat.mul_le_mul_left _ h) _) R.depth,Nat.le_trans (Nat.add_le_add_left (Nat.mul_le_mul_left _ h) _) R.units,R.guards,R.handled⟩
theorem ψ.in2{A:Around}{d:Nat}(R:ψ A (d+1)):ψ A.in1.in1 d:=⟨room 0 (Nat.zero_le _) R.depth,room 2 (by decide) R.units,R.guards,R.handled⟩
theorem ψ.lt{A:Around}{d:Nat}(R:ψ A d):A.units<cLine:=Nat.lt_of_le_of_lt (Nat.le_trans (Nat.le_add_right _ _) R.units) (by decide)
end
noncomputable def aF:Tx->Option (List Nat)
 |[]=>some []|.lit s::q=>(aF q).map (s++·)|.sym _::_=>none
noncomputable def iu:Bx->Option (List UInt8)
 |[]=>some []|.lit s::q=>(iu q).map (s++·)|.ini _::_=>none|.lst _::_=>none
def TP.bound:TP->Nat
 |.lit s=>s.length|.sym _=>4000
noncomputable def Tx.bound:Tx->Nat
 |[]=>0|p::q=>p.bound+Tx.bound q
def BP.bound:BP->Nat
 |.lit b=>b.length|.ini _=>4000|.lst _=>1
noncomputable def Bx.bound:Bx->Nat
 |[]=>0|p::q=>p.bound+Bx.bound q
def bI:Nat:=100000
noncomputable def dk:List Nat->List Nat->Bool
 |[],[]=>true|[],_::_=>false|_::_,[]=>false|a::x,b::y=>Nat.beq a b&&dk x y
def yS(a b:Int):Bool:=a==b
def Zs(a b:Int):Bool:=decide (a<b)
theorem Rw(a b:Nat):Nat.beq a b=decide (a=b):=Bool.eq_iff_iff.mpr ((iff_of_eq Nat.beq_eq).trans decide_eq_true_iff.symm)
theorem aix(a b:Int):yS a b=(a==b):=rfl
theorem aeF(a b:Nat):Nat.blt a b=decide (a<b):=Bool.eq_iff_iff.mpr ((iff_of_eq Nat.blt_eq).trans decide_eq_true_iff.symm)
theorem aiy(a b:Int):Zs a b=decide (a<b):=rfl
theorem l7(a:List Nat):∀b,dk a b=(a==b):=by induction a with
 |nil=>exact λb=>b.casesOn rfl λ_ _=>rfl|cons x p ih=>
  intro b
  cases b with
  |nil=>rfl|cons y q=>exact show(Nat.beq x y&&dk p q)=(decide (x=y)&&(p==q))from congr (congrArg and (Rw x y)) (ih q)
theorem dY{a b:List Nat}(h:dk a b=true):a=b:=eq_of_beq ((l7 a b).symm.trans h)
theorem aJ{S:ay}{x:Tx}:∀{l:List Nat},aF x=some l->x.den S=l:=by induction x with
 |nil=>exact λe=>θ e rfl|cons p q ih=>cases p with
  |lit s=>exact λe=>χ e λr e=>congrArg (s++·) (ih e)|sym _=>exact λe=>ζ e
theorem cM{S:ay}{x:Bx}:∀{l:List UInt8},iu x=some l->x.den S=l:=by induction x with
 |nil=>exact λe=>θ e rfl|cons p q ih=>cases p with
  |lit s=>exact λe=>χ e λr e=>congrArg (s++·) (ih e)|ini _=>exact λe=>ζ e|lst _=>exact λe=>ζ e
theorem xf{α:Type}{x y:List α}{a b:Nat}(h:x.length<=a)(k:y.length<=b):(x++y).length<=a+b:=Nat.le_trans (Nat.le_of_eq List.length_append) (Nat.add_le_add h k)
theorem Tx.len{S:ay}(o:S.Ok)(x:Tx):(x.den S).length<=x.bound:=by induction x with
 |nil=>exact Nat.le_refl _|cons p q ih=>exact xf (p.casesOn (λ_=>Nat.le_refl _) o.txt) ih
theorem Bx.len{S:ay}(o:S.Ok)(x:Bx):(x.den S).length<=x.bound:=by induction x with
 |nil=>exact Nat.le_refl _|cons p q ih=>exact xf (p.casesOn (λ_=>Nat.le_refl _) (λi=>Nat.le_of_succ_le (o.ini i)) λ_=>Nat.le_refl _) ih
theorem Tx.bG(S:ay)(x y:Tx):Tx.den S (x++y)=x.den S++y.den S:=by induction x with
 |nil=>rfl|cons p q ih=>exact(congrArg (p.den S++·) ih).trans (List.append_assoc ..).symm
theorem Bx.bG(S:ay)(x y:Bx):Bx.den S (x++y)=x.den S++y.den S:=by induction x with
 |nil=>rfl|cons p q ih=>exact(congrArg (p.den S++·) ih).trans (List.append_assoc ..).symm
theorem lS(S:ay)(x y:List Nat):aj S (x++y)=aj S x+aj S y:=by induction x with
 |nil=>exact(Nat.zero_add _).symm|cons p q ih=>exact(congrArg ((S.ini p).length+1+·) ih).trans (Nat.add_assoc ..).symm
theorem dp(x y:List Nat):aD x++aD y=aD (x++y):=congrArg Str.mk (List.append_toArray ..)
theorem gq(x y:List UInt8):bu x++bu y=bu (x++y):=List.append_toArray ..
section
variable{W:aE}{h:Heap}{v:Value}{P:Value->Prop}
theorem aey{i:Int}{v:Value}:ω W h (.int i) v↔∃t,v=.int i t:=Iff.rfl
theorem aez{i:Nat}{v:Value}:ω W h (.num i) v↔∃t,v=.int (W.S.num i) t:=Iff.rfl
theorem aeA{i d:Nat}{v:Value}:ω W h (.YV i d) v↔∃t,v=.int ((W.S.num i).fdiv d) t:=Iff.rfl
theorem aeq{k:Nat}{l}{v:Value}:ω W h (.dj k l) v↔∃t,v=.int ((k+aj W.S l:Nat):Int) t:=Iff.rfl
theorem xg{x:Tx}{v:Value}:ω W h (.str x) v↔∃t,v=.str (aD (x.den W.S)) t:=Iff.rfl
theorem Zl{x:Bx}{v:Value}:ω W h (.bytes x) v↔∃t,v=.bytes (bu (x.den W.S)) t:=Iff.rfl
theorem aer{x:Ls}{v:Value}:ω W h (.dD x) v↔∃s t,v=.str s t/\iQ s x:=Iff.rfl
theorem nE{v:Value}:ω W h .none v↔v=.none:=Iff.rfl
theorem nF{b:Bool}{v:Value}:ω W h (.bool b) v↔v=.bool b:=Iff.rfl
theorem sT{ms:List XV}{v:Value}:ω W h (.list ms) v↔∃a vs n,v=.ref a/\h.get? a=some (aI vs n)/\Ξ W h ms vs:=Iff.rfl
theorem fW{ms:List XV}{v:Value}:ω W h (.tuple ms) v↔∃a vs,v=.ref a/\h.get? a=some (dH vs)/\Ξ W h ms vs:=Iff.rfl
theorem aes{i:Nat}{v:Value}:ω W h (.head i) v↔∃t,v=.str (aD ((W.S.txt i).takeWhile (·!=40))) t:=Iff.rfl
theorem lC{i t}:ω W h (.int i) (.int i t):=⟨t,rfl⟩
theorem jr{x y t}(e:aD (Tx.den W.S x)=y):ω W h (.str x) (.str y t):=⟨t,congrArg (Value.str · t) e.symm⟩
theorem qr{x y t}(e:bu (Bx.den W.S x)=y):ω W h (.bytes x) (.bytes y t):=⟨t,congrArg (Value.bytes · t) e.symm⟩
@[elab_as_elim]theorem i6{i}(x:ω W h (.int i) v)(k:∀t,P (.int i t)):P v:=x.elim λt e=>e▸k t
@[elab_as_elim]theorem BR{i}(x:ω W h (.num i) v)(k:∀t,P (.int (W.S.num i) t)):P v:=x.elim λt e=>e▸k t
@[elab_as_elim]theorem WR{i d}(x:ω W h (.YV i d) v)(k:∀t,P (.int ((W.S.num i).fdiv d) t)):P v:=x.elim λt e=>e▸k t
@[elab_as_elim]theorem xh{n l}(x:ω W h (.dj n l) v)(k:∀t,P (.int ((n+aj W.S l:Nat):Int) t)):P v:=x.elim λt e=>e▸k t
@[elab_as_elim]theorem cm{y}(x:ω W h (.str y) v)(k:∀t,P (.str (aD (y.den W.S)) t)):P v:=x.elim λt e=>e▸k t
@[elab_as_elim]theorem cb{y}(x:ω W h (.bytes y) v)(k:∀t,P (.bytes (bu (y.den W.S)) t)):P v:=x.elim λt e=>e▸k t
@[elab_as_elim]theorem FS{i}(x:ω W h (.head i) v)(k:∀t,P (.str (aD ((W.S.txt i).takeWhile (·!=40))) t)):P v:=x.elim λt e=>e▸k t
@[elab_as_elim]theorem rx{l}(x:ω W h (.dD l) v)(k:∀s t,iQ s l->P (.str s t)):P v:=x.elim λs=>Exists.rec λt e=>e.1▸k s t e.2
@[elab_as_elim]theorem bq{ms}(x:ω W h (.list ms) v)(k:∀a vs n,h.get? a=some (aI vs n)->Ξ W h ms vs->P (.ref a)):P v:=x.elim λa=>Exists.rec λvs=>Exists.rec λn e=>e.1▸k a vs n e.2.1 e.2.2
@[elab_as_elim]theorem cO{ms}(x:ω W h (.tuple ms) v)(k:∀a vs,h.get? a=some (dH vs)->Ξ W h ms vs->P (.ref a)):P v:=x.elim λa=>Exists.rec λvs e=>e.1▸k a vs e.2.1 e.2.2
@[elab_as_elim]theorem bz{P:List Value->Prop}{vs}(x:Ξ W h [] vs)(k:P []):P vs:=(show vs=[]from x)▸k
@[elab_as_elim]theorem am{P:List Value->Prop}{m ms vs}(x:Ξ W h (m::ms) vs)(k:∀v vs,ω W h m v->Ξ W h ms vs->P (v::vs)):P vs:=x.elim λv=>Exists.rec λvs e=>e.1▸k v vs e.2.1 e.2.2
end
section
variable{W:aE}{A:Around}{vol:List Addr}{s:Shared}
theorem Ir{x y:Tx}(hb:x.bound+y.bound<=bI):(aD (x.den W.S)).length+(aD (y.den W.S)).length<=sizeLine:=Nat.le_trans (Nat.add_le_add (Tx.len W.uN x) (Tx.len W.uN y)) (Nat.le_trans hb (sizeLine_eq▸by decide))
theorem AU{x y:Bx}(hb:x.bound+y.bound<=bI):(bu (x.den W.S)).size+(bu (y.den W.S)).size<=16777216:=Nat.le_trans (Nat.add_le_add (Bx.len W.uN x) (Bx.len W.uN y)) (Nat.le_trans hb (by decide))
theorem It{h:Heap}{x y:Tx}{t:Tok}:ω W h (.str (x++y)) (.str (aD (x.den W.S)++aD (y.den W.S)) t):=jr ((congrArg aD (Tx.bG ..)).trans (dp ..).symm)
theorem FT{x y:Tx}{va vb:Value}{h:Heap}(hb:x.bound+y.bound<=bI)(ha:ω W h (.str x) va)(hv:ω W h (.str y) vb):ο W A vol (binaryOp .Add va vb) (.str (x++y)) s:=cm ha λt=>cm hv λu _ _ k=>PyProof.Rows.add_str (λ_ _=>k _ _ It Step.tok) (Ir hb)
theorem C7{x y:Tx}{va vb:Value}{h:Heap}(hb:x.bound+y.bound<=bI)(ha:ω W h (.str x) va)(hv:ω W h (.str y) vb):ο W A vol (inplaceOp .Add va vb) (.str (x++y)) s:=cm ha λt=>cm hv λu _ _ k=>PyProof.Rows.iadd_str (λ_ _=>k _ _ It Step.tok) (Ir hb)
theorem FU{x y:Bx}{va vb:Value}{h:Heap}(hb:x.bound+y.bound<=bI)(ha:ω W h (.bytes x) va)(hv:ω W h (.bytes y) vb):ο W A vol (binaryOp .Add va vb) (.bytes (x++y)) s:=cb ha λt=>cb hv λu _ _ k=>PySem.W.KBy.add_bytes (AU hb) λ_ _=>k _ _ (qr ((congrArg bu (Bx.bG ..)).trans (gq ..).symm)) Step.tok
end
noncomputable def pF:List ((Nat×Nat×Nat)×Int)->Nat->Nat->Nat->Option Int
 |[],_,_,_=>none|p::q,j',d',m'=>bif Nat.beq p.1.1 j'&&(Nat.beq p.1.2.1 d'&&Nat.beq p.1.2.2 m')then some p.2 else pF q j' d' m'
theorem yY{R:List ((Nat×Nat×Nat)×Int)}{j d m r}:pF R j d m=some r->((j,d,m),r)∈R:=by induction R with
 |nil=>exact λe=>ζ e|cons p q ih=>
  intro e
  have e:(bif Nat.beq p.1.1 j&&(Nat.beq p.1.2.1 d&&Nat.beq p.1.2.2 m)then some p.2 else pF q j d m)=some r:=e
  cases hc:Nat.beq p.1.1 j&&(Nat.beq p.1.2.1 d&&Nat.beq p.1.2.2 m)with
  |true=>exact η hc λh1 h=>η h λh2 h3=>Nat.eq_of_beq_eq_true h1▸Nat.eq_of_beq_eq_true h2▸Nat.eq_of_beq_eq_true h3▸θ (P:=λr=>((p.1.1,p.1.2.1,p.1.2.2),r)∈p::q) (a8 (C:=λc=>(bif c then some p.2 else pF q j d m)=some r) hc.symm e) (.head _)|false=>exact .tail _ (ih (a8 (C:=λc=>(bif c then some p.2 else pF q j d m)=some r) hc.symm e))
noncomputable def oA{α:Type}(l:List α):Nat->List α
 |0=>[]|n+1=>l++oA l n
theorem FV{α:Type}(l:List α)(n:Nat):(List.replicate n l).flatten=oA l n:=by induction n with
 |zero=>rfl|succ n ih=>exact congrArg (l++·) ih
noncomputable def ng(a:Int):Bool:=Nat.ble a.natAbs 1000000000000
theorem ik{a:Int}(h:ng a=true):Builtin.Int.intBits a<=64:=by
 have:=ble h
 exact intBits_le_64 (by omega) (by omega)
noncomputable def Rx(a:Int)(n:Nat):Int:=match a with
 |.ofNat x=>.ofNat (Nat.pow x n)|.negSucc x=>(Int.negSucc x)^n
noncomputable def gX(a:XV):Option Int:=a.casesOn none (λ_=>none) some (λ_ _=>none) (λ_=>none) (λ_ _=>none) (λ_=>none) (λ_=>none) (λ_=>none) (λ_=>none) (λ_=>none) (λ_=>none) (λ_ _=>none) (λ_=>none) (λ_=>none) (λ_=>none) (λ_=>none) (λ_=>none) (λ_=>none) (λ_=>none) (λ_=>none) none
noncomputable def dK(a:XV):Option Tx:=a.casesOn none (λ_=>none) (λ_=>none) (λ_ _=>none) (λ_=>none) (λ_ _=>none) some (λ_=>none) (λ_=>none) (λ_=>none) (λ_=>none) (λ_=>none) (λ_ _=>none) (λ_=>none) (λ_=>none) (λ_=>none) (λ_=>none) (λ_=>none) (λ_=>none) (λ_=>none) (λ_=>none) none
noncomputable def mA(a:XV):Option Bx:=a.casesOn none (λ_=>none) (λ_=>none) (λ_ _=>none) (λ_=>none) (λ_ _=>none) (λ_=>none) (λ_=>none) some (λ_=>none) (λ_=>none) (λ_=>none) (λ_ _=>none) (λ_=>none) (λ_=>none) (λ_=>none) (λ_=>none) (λ_=>none) (λ_=>none) (λ_=>none) (λ_=>none) none
noncomputable def qN(a:XV):Option (List XV):=a.casesOn none (λ_=>none) (λ_=>none) (λ_ _=>none) (λ_=>none) (λ_ _=>none) (λ_=>none) (λ_=>none) (λ_=>none) (λ_=>none) some (λ_=>none) (λ_ _=>none) (λ_=>none) (λ_=>none) (λ_=>none) (λ_=>none) (λ_=>none) (λ_=>none) (λ_=>none) (λ_=>none) none
noncomputable def asP(a:XV):Option Ls:=a.casesOn none (λ_=>none) (λ_=>none) (λ_ _=>none) (λ_=>none) (λ_ _=>none) (λ_=>none) some (λ_=>none) (λ_=>none) (λ_=>none) (λ_=>none) (λ_ _=>none) (λ_=>none) (λ_=>none) (λ_=>none) (λ_=>none) (λ_=>none) (λ_=>none) (λ_=>none) (λ_=>none) none
noncomputable def aaa(a:XV):Option Nat:=a.casesOn none (λ_=>none) (λ_=>none) (λ_ _=>none) (λ_=>none) (λ_ _=>none) (λ_=>none) (λ_=>none) (λ_=>none) (λ_=>none) (λ_=>none) (λ_=>none) (λ_ _=>none) (λ_=>none) (λ_=>none) (λ_=>none) (λ_=>none) (λ_=>none) some (λ_=>none) (λ_=>none) none
noncomputable def gZ(a:XV):Option (Nat×List Nat):=a.casesOn none (λ_=>none) (λi=>i.casesOn (λn=>some (n,[])) λ_=>none) (λk l=>some (k,l)) (λ_=>none) (λ_ _=>none) (λ_=>none) (λ_=>none) (λ_=>none) (λ_=>none) (λ_=>none) (λ_=>none) (λ_ _=>none) (λ_=>none) (λ_=>none) (λ_=>none) (λ_=>none) (λ_=>none) (λ_=>none) (λ_=>none) (λ_=>none) none
noncomputable def Iu(a:XV):Option (Nat×Nat):=a.casesOn none (λ_=>none) (λ_=>none) (λ_ _=>none) (λj=>some (j,1)) (λj d=>some (j,d)) (λ_=>none) (λ_=>none) (λ_=>none) (λ_=>none) (λ_=>none) (λ_=>none) (λ_ _=>none) (λ_=>none) (λ_=>none) (λ_=>none) (λ_=>none) (λ_=>none) (λ_=>none) (λ_=>none) (λ_=>none) none
noncomputable def AV(a:XV):Option Nat:=a.casesOn none (λ_=>none) (λ_=>none) (λ_ _=>none) some (λ_ _=>none) (λ_=>none) (λ_=>none) (λ_=>none) (λ_=>none) (λ_=>none) (λ_=>none) (λ_ _=>none) (λ_=>none) (λ_=>none) (λ_=>none) (λ_=>none) (λ_=>none) (λ_=>none) (λ_=>none) (λ_=>none) none
def mB(a:XV):Option Nat:=(gX a).bind λi=>i.casesOn some λ_=>none
noncomputable def two{α β γ:Type}(x:Option α)(y:Option β)(f:α->β->Option γ):Option γ:=x.bind λa=>y.bind λb=>f a b
theorem π{α β γ:Type}{x:Option α}{y:Option β}{f:α->β->Option γ}{m:γ}{P:Prop}(e:two x y f=some m)(k:∀a b,x=some a->y=some b->f a b=some m->P):P:=O e λa h e=>O e λb h' e=>k a b h h' e
noncomputable def AW(l:List α)(n:Nat):Bool:=(Nat.ble 2 n&&Nat.ble n 100)&&(Nat.ble 1 l.length&&Nat.ble l.length 100)
def aab(a b:XV):Option XV:=(two (dK a) (dK b) λx y=>bif Nat.ble (x.bound+y.bound) bI then some (.str (x++y))else none).or ((two (mA a) (mA b) λx y=>bif Nat.ble (x.bound+y.bound) bI then some (.bytes (x++y))else none).or ((two (gX a) (gX b) λx y=>some (.int (x+y))).or (two (gZ a) (gZ b) λx y=>some (.dj (x.1+y.1) (x.2++y.2)))))
def aac(a b:XV):Option XV:=(two (gX a) (gX b) λx y=>bif ng x then some (.int (x*y))else none).or ((two ((dK a).bind aF) (mB b) λl n=>bif AW l n then some (.str [.lit (oA l n)])else none).or (two ((mA a).bind iu) (mB b) λl n=>bif AW l n then some (.bytes [.lit (oA l n)])else none))
def aad(a b:XV):Option XV:=(two (gX a) (gX b) λx y=>bif ng y&&!yS y 0 then some (.int (x.fdiv y))else none).or (two (AV a) (mB b) λj n=>bif Nat.ble n 1000000&&!Nat.beq n 0 then some (.YV j n)else none)
def aae(R:List ((Nat×Nat×Nat)×Int))(a b:XV):Option XV:=(two (gX a) (gX b) λx y=>bif !yS y 0 then some (.int (x.fmod y))else none).or (two (Iu a) (mB b) λp n=>bif !Nat.beq n 0 then(pF R p.1 p.2 n).map .int else none)
def aaf(R:List ((Nat×Nat×Nat)×Int))(op:Operator)(a b:XV):Option XV:=match op with
 |.Add=>aab a b|.Sub=>two (gX a) (gX b) λx y=>some (.int (x-y))|.Mult=>aac a b|.FloorDiv=>aad a b|.Mod=>aae R a b|.Pow=>two (gX a) (mB b) λx n=>bif ng x&&Nat.ble n 100 then some (.int (Rx x n))else none|.RShift=>two (gX a) (mB b) λx n=>bif Nat.ble n 1000 then some (.int (x.fdiv (Rx 2 n)))else none|_=>none
section
variable{W:aE}{A:Around}{vol:List Addr}{s:Shared}{h:Heap}{v:Value}{P:Value->Prop}{a:XV}
@[elab_as_elim]theorem jE{i}(e:gX a=some i)(x:ω W h a v)(k:∀t,P (.int i t)):P v:=by cases a with
 |int j=>exact θ (P:=λi=>(∀t,P (.int i t))->P v) e (i6 (P:=P) x) k|_=>exact ζ e
@[elab_as_elim]theorem dL{n:Nat}(e:mB a=some n)(x:ω W h a v)(k:∀t,P (.int (n:Int) t)):P v:=O e λi e1 e=>by
 refine jE e1 x λt=>?_
 cases i with
 |ofNat m=>exact θ (P:=λn:Nat=>(∀t,P (.int (n:Int) t))->P (.int (m:Int) t)) e (λk=>k t) k|negSucc m=>exact ζ e
@[elab_as_elim]theorem d9{y}(e:dK a=some y)(x:ω W h a v)(k:∀t,P (.str (aD (y.den W.S)) t)):P v:=by cases a with
 |str j=>exact θ (P:=λi=>(∀t,P (.str (aD (i.den W.S)) t))->P v) e (cm (P:=P) x) k|_=>exact ζ e
@[elab_as_elim]theorem eM{y}(e:mA a=some y)(x:ω W h a v)(k:∀t,P (.bytes (bu (y.den W.S)) t)):P v:=by cases a with
 |bytes j=>exact θ (P:=λi=>(∀t,P (.bytes (bu (i.den W.S)) t))->P v) e (cb (P:=P) x) k|_=>exact ζ e
@[elab_as_elim]theorem Iv{y}(e:asP a=some y)(x:ω W h a v)(k:∀s t,iQ s y->P (.str s t)):P v:=by cases a with
 |dD j=>exact θ (P:=λi=>(∀s t,iQ s i->P (.str s t))->P v) e (rx (P:=P) x) k|_=>exact ζ e
@[elab_as_elim]theorem WS{i}(e:aaa a=some i)(x:ω W h a v)(k:∀t,P (.str (aD ((W.S.txt i).takeWhile (·!=40))) t)):P v:=by cases a with
 |head j=>exact θ (P:=λi=>(∀t,P (.str (aD ((W.S.txt i).takeWhile (·!=40))) t))->P v) e (FS (P:=P) x) k|_=>exact ζ e
theorem cX{y}(e:qN a=some y)(x:ω W h a v):ω W h (.list y) v:=by cases a with
 |list j=>exact θ e x|_=>exact ζ e
@[elab_as_elim]theorem gf{p}(e:gZ a=some p)(x:ω W h a v)(k:∀t,P (.int ((p.1+aj W.S p.2:Nat):Int) t)):P v:=by cases a with
 |dj j l=>exact θ (P:=λp=>(∀t,P (.int ((p.1+aj W.S p.2:Nat):Int) t))->P v) e (xh (P:=P) x) k|int i=>cases i with
  |ofNat m=>exact θ (P:=λp=>(∀t,P (.int ((p.1+aj W.S p.2:Nat):Int) t))->P v) e (i6 (P:=P) x) k|negSucc m=>exact ζ e
 |_=>exact ζ e
@[elab_as_elim]theorem xi{j}(e:AV a=some j)(x:ω W h a v)(k:∀t,P (.int (W.S.num j) t)):P v:=by cases a with
 |num j=>exact θ (P:=λi=>(∀t,P (.int (W.S.num i) t))->P v) e (BR (P:=P) x) k|_=>exact ζ e
@[elab_as_elim]theorem FW{p}(e:Iu a=some p)(x:ω W h a v)(k:∀t,P (.int ((W.S.num p.1).fdiv p.2) t)):P v:=by cases a with
 |num j=>exact θ (P:=λp:Nat×Nat=>(∀t,P (.int ((W.S.num p.1).fdiv p.2) t))->P v) e (λk=>BR (P:=P) x λt=>Int.fdiv_one (W.S.num j)▸k t) k|YV j d=>exact θ (P:=λp:Nat×Nat=>(∀t,P (.int ((W.S.num p.1).fdiv p.2) t))->P v) e (WR (P:=P) x) k|_=>exact ζ e
theorem qt{t:Sem Value}{i i':Int}(e:i=i')(q:∀(E Q:Value->Shared->Prop),Q (.int i s.toks) {s with toks:=s.toks+1}->wpAny (Md W) A t Q E s):ο W A vol t (.int i') s:=λE Q k=>q E Q (k _ _ (e▸lC) Step.tok)
theorem Iw{t:Sem Value}{i:Int}{k:Nat}{l}(e:i=((k+aj W.S l:Nat):Int))(q:∀(E Q:Value->Shared->Prop),Q (.int i s.toks) {s with toks:=s.toks+1}->wpAny (Md W) A t Q E s):ο W A vol t (.dj k l) s:=λE Q k=>q E Q (k _ _ ⟨_,congrArg (Value.int · _) e⟩ Step.tok)
theorem xj(a:Int)(n:Nat):Rx a n=a^n:=by cases a with
 |ofNat x=>exact Int.natCast_pow x n|negSucc x=>rfl
theorem aag{a b:Int}(h:ng b=true):Builtin.divisionGoesByPylong a b=false:=by
 have h0:=ik h
 refine Bool.and_eq_false_imp.mpr λx=>absurd (of_decide_eq_true x) (Nat.not_lt.mpr (Nat.le_trans (?_:_<=64) (by decide)))
 refine Nat.le_trans ?_ h0
 show(if b==0 then 0 else b.natAbs.log2/30+1)<=if b==0 then 0 else b.natAbs.log2+1
 exact iteInduction (motive:=λn=>n<=if b==0 then 0 else b.natAbs.log2+1) (λ_=>Nat.zero_le _) λc=>(if_neg c).symm▸Nat.succ_le_succ (Nat.div_le_self ..)
theorem aet{α:Type}{c:Bool}{x:Option α}{r:α}(e:(bif c then x else none)=some r):c=true/\x=some r:=ξ e .intro
theorem ne0{b:Int}(c:(!yS b 0)=true):b≠0:=λz=>by subst z;exact υ c
theorem aah{b:Nat}(c:(!Nat.beq b 0)=true):(b:Int)≠0:=λz=>by cases Int.ofNat.inj z;exact υ c
theorem FX{x y:Nat×List Nat}:((x.1+aj W.S x.2:Nat):Int)+((y.1+aj W.S y.2:Nat):Int)=((x.1+y.1+aj W.S (x.2++y.2):Nat):Int):=congrArg Int.ofNat ((Nat.add_add_add_comm ..).trans (congrArg (x.1+y.1+·) (lS ..).symm))
@[elab_as_elim]theorem mG{β:Type}{P:Value->Value->Prop}{f:Int->Int->Option β}{m:β}{a b va vb}(e:two (gX a) (gX b) f=some m)(ha:ω W h a va)(hb:ω W h b vb)(k:∀i j t u,f i j=some m->P (.int i t) (.int j u)):P va vb:=π e λi j e1 e2 e=>jE (P:=λv=>P v vb) e1 ha λt=>jE (P:=P _) e2 hb λu=>k i j t u e
@[elab_as_elim]theorem aai{β:Type}{P:Value->Value->Prop}{f:Int->Nat->Option β}{m:β}{a b va vb}(e:two (gX a) (mB b) f=some m)(ha:ω W h a va)(hb:ω W h b vb)(k:∀i(j:Nat)t u,f i j=some m->P (.int i t) (.int j u)):P va vb:=π e λi j e1 e2 e=>jE (P:=λv=>P v vb) e1 ha λt=>dL (P:=P _) e2 hb λu=>k i j t u e
abbrev mH(W:aE)(A:Around)(vol:List Addr)(s:Shared)(op:Operator)(m:XV)(va vb:Value):Prop:=ο W A vol (binaryOp op va vb) m s
theorem FY{a b m:XV}{va vb:Value}(e:aab a b=some m)(ha:ω W h a va)(hb:ω W h b vb):mH W A vol s .Add m va vb:=af e (λe=>π e λx y e1 e2 e=>Φ e λc=>FT (h:=h) (ble c) (d9 e1 ha λt=>⟨t,rfl⟩) (d9 e2 hb λt=>⟨t,rfl⟩)) λe=>af e (λe=>π e λx y e1 e2 e=>Φ e λc=>FU (h:=h) (ble c) (eM e1 ha λt=>⟨t,rfl⟩) (eM e2 hb λt=>⟨t,rfl⟩)) λe=>af e (λe=>mG e ha hb λ_ _ _ _ e=>θ e (qt rfl λE Q q=>PyProof.Rows.add_int q)) λe=>π e λx y e1 e2 e=>gf (P:=λva=>mH W A vol s .Add m va vb) e1 ha λ_=>gf (P:=mH W A vol s .Add m _) e2 hb λ_=>θ e (Iw FX λE Q q=>PyProof.Rows.add_int q)
theorem sU{α:Type}{l:List α}{n:Nat}{P:Prop}(c:AW l n=true)(k:2<=n->l≠[]->n<=100->l.length<=100->P):P:=η c λc d=>η c λc1 c2=>η d λc3 c4=>k (ble c1) (λz=>by subst z;exact υ c3) (ble c2) (ble c4)
theorem acK{x:Str}{n:Nat}(hn:n<=100)(hx:x.length<=100):MulOk x n:=⟨Bool.or_eq_false_iff.mpr ⟨decide_eq_false (Int.not_lt.mpr (Int.le_trans (b:=0) (by decide) (Int.natCast_nonneg n))),decide_eq_false (Int.not_le.mpr (Int.lt_of_le_of_lt (Int.ofNat_le.mpr hn) (by decide)))⟩,λh _=>Int.not_lt.mpr ((Int.le_ediv_iff_mul_le (Int.lt_of_lt_of_le (by decide) (Int.not_lt.mp h))).mpr (Int.le_trans (Int.ofNat_le.mpr (Nat.mul_le_mul hx hn)) (by decide))),λ_ _=>decide_eq_false (Nat.not_lt.mpr (Nat.le_trans (Nat.mul_le_mul hx hn) (sizeLine_eq▸by decide)))⟩
theorem FZ{α:Type}(l:List α)(n:Nat):∀bh:Array α,(List.replicate n (⟨l⟩:Array α)).foldl (·++·) bh=⟨bh.toList++oA l n⟩:=by induction n with
 |zero=>exact λbh=>congrArg Array.mk (List.append_nil _).symm|succ n ih=>exact λbh=>(ih _).trans (congrArg Array.mk ((congrArg (·++oA l n) Array.toList_append).trans (List.append_assoc ..)))
theorem aeG{l:List Nat}{n:Nat}(h2:2<=n)(h0:l≠[]):Txt.mul (aD l) n=aD (oA l n):=by
 refine(if_neg (Int.not_lt.mpr (Int.ofNat_le.mpr (Nat.le_of_succ_le h2)))).trans ((if_neg ?_).trans (congrArg Str.mk (FZ l n #[])))
 intro c
 rcases(Bool.or_eq_true ..).mp c with c|c
 ·exact absurd (Int.ofNat.inj (eq_of_beq c)) (Nat.ne_of_gt h2)
 ·exact h0 (List.length_eq_zero_iff.mp (eq_of_beq c))
theorem F0{a b m:XV}{va vb:Value}(e:aac a b=some m)(ha:ω W h a va)(hb:ω W h b vb):mH W A vol s .Mult m va vb:=by
  refine af e (λe=>mG e ha hb λ_ _ _ _ e=>Φ e λc=>qt rfl λE Q q=>PyProof.Rows.mul_int q (.of_left (ik c))) λe=>af e (λe=>π e λl n e1 e2 e=>O e1 λx e1 e3=>?_) λe=>π e λl n e1 e2 e=>O e1 λx e1 e3=>?_
  · refine d9 e1 ha λ_=>dL e2 hb λ_=>aJ (S:=W.S) e3▸Φ e λc E Q k=>sU c λc1 c2 c3 c4=>?_
    exact SB.mul (acK c3 c4) λt' tk=>k _ _ (jr ((congrArg aD (List.append_nil _)).trans (aeG c1 c2).symm)) Step.tok
  · refine eM e1 ha λ_=>dL e2 hb λ_=>cM (S:=W.S) e3▸Φ e λc E Q k=>sU c λc1 c2 c3 c4=>?_
    exact PySem.W.bytes_mul_K c2 (Int.ofNat_le.mpr c1) (Int.ofNat_le.mpr (Nat.le_trans c3 (by decide))) (Nat.le_trans (Nat.mul_le_mul c4 c3) (by decide)) (FV l n) λt' tk=>k _ _ (qr (congrArg bu (List.append_nil _))) Step.tok
theorem F1{a b m:XV}{va vb:Value}(e:aad a b=some m)(ha:ω W h a va)(hb:ω W h b vb):mH W A vol s .FloorDiv m va vb:=af e (λe=>mG e ha hb λ_ _ _ _ e=>Φ e λc=>η c λc d=>qt rfl λE Q q=>PyProof.Rows.floordiv_int (ne0 d) q (.inl (aag c))) λe=>π e λj n e1 e2 e=>xi (P:=λva=>mH W A vol s .FloorDiv m va vb) e1 ha λ_=>dL (P:=mH W A vol s .FloorDiv m _) e2 hb λ_=>Φ e λc=>η c λc d E Q k=>PyProof.Rows.floordiv_int (aah d) (k _ _ ⟨_,rfl⟩ Step.tok) (.inl (aag (Nat.ble_eq_true_of_le (Nat.le_trans (ble c) (by decide)))))
theorem F2{a b m:XV}{va vb:Value}(e:aae W.S.res a b=some m)(ha:ω W h a va)(hb:ω W h b vb):mH W A vol s .Mod m va vb:=af e (λe=>mG e ha hb λ_ _ _ _ e=>Φ e λc=>qt rfl λE Q q=>PyProof.Rows.mod_int (ne0 c) q) λe=>π e λj n e1 e2 e=>FW (P:=λva=>mH W A vol s .Mod m va vb) e1 ha λ_=>dL (P:=mH W A vol s .Mod m _) e2 hb λ_=>ξ e λc e=>χ e λr e=>qt (W.uN.res _ _ _ _ (yY e)) λE Q q=>PyProof.Rows.mod_int (aah c) q
theorem F3{op:Operator}{a b m:XV}{va vb:Value}(e:aaf W.S.res op a b=some m)(ha:ω W h a va)(hb:ω W h b vb):mH W A vol s op m va vb:=by cases op with
 |Add=>exact FY e ha hb|Sub=>exact mG e ha hb λ_ _ _ _ e=>θ e (qt rfl λE Q q=>PyProof.Rows.sub_int q)|Mult=>exact F0 e ha hb|FloorDiv=>exact F1 e ha hb|Mod=>exact F2 e ha hb|Pow=>exact aai e ha hb λi n _ _ e=>Φ e λc=>η c λc d=>qt (xj i n).symm λE Q q=>PyProof.Rows.pow_int (Int.natCast_nonneg n) (Int.ofNat_le.mpr (Nat.le_trans (Nat.mul_le_mul (ik c) (ble d)) (by decide))) q|RShift=>exact aai e ha hb λi n _ _ e=>Φ e λc=>qt (congrArg (Int.fdiv i) (xj 2 n).symm) λE Q q=>PyProof.Rows.rshift_int (Int.natCast_nonneg n) q|_=>exact ζ e
end
def pG{α:Type}(x:Option α)(y:Option (List α)):Option (List α):=two x y λa l=>some (a::l)
noncomputable def sK:List XV->Option (List (List Nat))
 |[]=>some []|m::q=>pG ((dK m).bind aF) (sK q)
noncomputable def AX:List XV->Option (List Int)
 |[]=>some []|m::q=>pG (gX m) (AX q)
noncomputable def yb(a:List Nat):List (List Nat)->Bool
 |[]=>false|x::q=>dk x a||yb a q
noncomputable def anyI(a:Int):List Int->Bool
 |[]=>false|x::q=>yS x a||anyI a q
noncomputable def cr(c:Nat):List Nat->Bool
 |[]=>false|x::q=>Nat.beq x c||cr c q
theorem jI(c:Nat)(l:List Nat):cr c l=decide (c∈l):=by induction l with
 |nil=>rfl|cons x q ih=>exact(congr (congrArg or ((Rw x c).trans (decide_eq_decide.mpr eq_comm))) ih).trans ((Bool.decide_or ..).symm.trans (decide_eq_decide.mpr List.mem_cons.symm))
noncomputable def aaj:TP->TP->Bool
 |.lit a,q=>q.casesOn (dk a) λ_=>false|.sym i,q=>q.casesOn (λ_=>false) (Nat.beq i)
noncomputable def pH{α:Type}(f:α->α->Bool):List α->List α->Bool
 |[],y=>y.casesOn true λ_ _=>false|a::x,y=>y.casesOn false λb y=>f a b&&pH f x y
def E7(x y:Tx):Bool:=pH aaj x y
def yc(x y:List UInt8):Bool:=pH (λa b=>Nat.beq a.toNat b.toNat) x y
def aak:BP->BP->Bool
 |.lit a,q=>q.casesOn (yc a) (λ_=>false) λ_=>false|.ini i,q=>q.casesOn (λ_=>false) (Nat.beq i) λ_=>false|.lst i,q=>q.casesOn (λ_=>false) (λ_=>false) (Nat.beq i)
def Ry(x y:Bx):Bool:=pH aak x y
theorem jP{α:Type}{f:α->α->Bool}(hf:∀a b,f a b=true->a=b){x:List α}:∀{y},pH f x y=true->x=y:=by induction x with
 |nil=>intro y e;cases y with
  |nil=>rfl|cons b y=>exact υ e
 |cons a x ih=>intro y e;cases y with
  |nil=>exact υ e|cons b y=>exact η e λh k=>hf a b h▸ih k▸rfl
theorem xk(a b:TP)(e:aaj a b=true):a=b:=by cases a with
 |lit a=>cases b with
  |lit b=>exact congrArg TP.lit (dY e)|sym _=>exact υ e
 |sym a=>cases b with
  |lit b=>exact υ e|sym _=>exact congrArg TP.sym (Nat.eq_of_beq_eq_true e)
theorem l8{x y:List UInt8}(e:yc x y=true):x=y:=jP (λ_ _ h=>UInt8.toNat_inj.mp (Nat.eq_of_beq_eq_true h)) e
theorem F4(a b:BP)(e:aak a b=true):a=b:=by cases a with
 |lit a=>cases b with
  |lit b=>exact congrArg BP.lit (l8 e)|_=>exact υ e
 |ini a=>cases b with
  |ini _=>exact congrArg BP.ini (Nat.eq_of_beq_eq_true e)|_=>exact υ e
 |lst a=>cases b with
  |lst _=>exact congrArg BP.lst (Nat.eq_of_beq_eq_true e)|_=>exact υ e
theorem sV{S:ay}{x y:Tx}(e:E7 x y=true):x.den S=y.den S:=congrArg (Tx.den S) (jP xk e)
theorem sW{S:ay}{x y:Bx}(e:Ry x y=true):x.den S=y.den S:=congrArg (Bx.den S) (jP F4 e)
noncomputable def sf(c:Nat):List Nat->Option (List Nat)
 |[]=>none|x::q=>bif Nat.beq x c then some q else(sf c q).map (x::·)
noncomputable def lm:List Nat->List Nat->Bool
 |[],y=>y.casesOn true λ_ _=>false|a::x,y=>(sf a y).casesOn false λy'=>lm x y'
theorem C8{S:ay}{c:Nat}{y:List Nat}:∀{y':List Nat},sf c y=some y'->aj S y=(S.ini c).length+1+aj S y':=by induction y with
 |nil=>exact λe=>ζ e|cons x q ih=>
  intro y' e
  have e:(bif Nat.beq x c then some q else(sf c q).map (x::·))=some y':=e
  cases hc:Nat.beq x c with
  |true=>exact Nat.eq_of_beq_eq_true hc▸θ (P:=λy'=>aj S (x::q)=(S.ini x).length+1+aj S y') (a8 (C:=λb=>(bif b then some q else(sf c q).map (x::·))=some y') hc.symm e) rfl
  |false=>exact χ (P:=λy'=>aj S (x::q)=(S.ini c).length+1+aj S y') (a8 (C:=λb=>(bif b then some q else(sf c q).map (x::·))=some y') hc.symm e) λr e=>(congrArg ((S.ini x).length+1+·) (ih e)).trans (Nat.add_left_comm ..)
theorem yZ{S:ay}{x:List Nat}:∀{y:List Nat},lm x y=true->aj S x=aj S y:=by induction x with
 |nil=>intro y e;cases y with
  |nil=>rfl|cons b y=>exact υ e
 |cons a x ih=>
  intro y e
  have e:((sf a y).casesOn false λy'=>lm x y')=true:=e
  cases h:sf a y with
  |none=>exact υ (a8 (C:=λo:Option (List Nat)=>(o.casesOn false λy'=>lm x y')=true) h.symm e)|some y'=>exact(congrArg ((S.ini a).length+1+·) (ih (a8 (C:=λo:Option (List Nat)=>(o.casesOn false λy'=>lm x y')=true) h.symm e))).trans (C8 h).symm
def Rz(x y:List (List Nat)):Bool:=pH dk x y
noncomputable def ak{α:Type}(l:List α):Bool:=l.casesOn true λ_ _=>false
def oEq(a b:XV):Option Bool:=(two (gX a) (gX b) λx y=>some (yS x y)).or ((two (gZ a) (gZ b) λx y=>bif ak x.2&&ak y.2 then some (Nat.beq x.1 y.1)else bif Nat.beq x.1 y.1&&lm x.2 y.2 then some true else none).or ((two (dK a) (dK b) λx y=>(two (aF x) (aF y) λa b=>some (dk a b)).or (bif E7 x y then some true else none)).or ((two (mA a) (mA b) λx y=>bif Ry x y then some true else none).or (two (qN a) (qN b) λx y=>(two (sK x) (sK y) λp q=>some (Rz p q)).or (bif Nat.beq x.length y.length then none else some false)))))
def one:List Nat->Option Nat
 |[]=>none|c::r=>bif ak r then some c else none
def oIn(S:Nat->Bool)(a b:XV):Option Bool:=(two (((dK a).bind aF).bind one) (asP b) λc l=>some (l.has c)).or ((two (((dK a).bind aF).bind one) ((dK b).bind aF) λc b=>some (cr c b)).or ((two (((dK a).bind aF).bind one) (aaa b) λc i=>bif Nat.beq c 58 then some (S i)else none).or ((two ((dK a).bind aF) ((qN b).bind sK) λa l=>some (yb a l)).or (two (gX a) ((qN b).bind AX) λa l=>some (anyI a l)))))
noncomputable def isNone(a:XV):Option Bool:=a.casesOn (some true) (λ_=>some false) (λ_=>some false) (λ_ _=>none) (λ_=>none) (λ_ _=>none) (λ_=>some false) (λ_=>some false) (λ_=>some false) (λ_=>some false) (λ_=>some false) (λ_=>none) (λ_ _=>some false) (λ_=>some false) (λ_=>none) (λ_=>none) (λ_=>none) (λ_=>none) (λ_=>none) (λ_=>none) (λ_=>none) none
noncomputable def Aa(a:XV):Option Bool:=a.casesOn none some (λ_=>none) (λ_ _=>none) (λ_=>none) (λ_ _=>none) (λ_=>none) (λ_=>none) (λ_=>none) (λ_=>none) (λ_=>none) (λ_=>none) (λ_ _=>none) (λ_=>none) (λ_=>none) (λ_=>none) (λ_=>none) (λ_=>none) (λ_=>none) (λ_=>none) (λ_=>none) none
def oIs(a b:XV):Option Bool:=(two (Aa a) (Aa b) λx y=>some (bif x then y else !y)).or (bif(isNone b).casesOn false id then isNone a else none)
def aal(S:Nat->Bool)(op:CmpOp)(a b:XV):Option Bool:=match op with
 |.Eq=>oEq a b|.NotEq=>(oEq a b).map (!·)|.Lt=>two (gX a) (gX b) λx y=>some (Zs x y)|.LtE=>two (gX a) (gX b) λx y=>some (!Zs y x)|.Gt=>two (gX a) (gX b) λx y=>some (Zs y x)|.GtE=>two (gX a) (gX b) λx y=>some (!Zs x y)|.Is=>oIs a b|.IsNot=>(oIs a b).map (!·)|.In=>oIn S a b|.NotIn=>(oIn S a b).map (!·)
section
variable{W:aE}{A:Around}{s:Shared}{h:Heap}{d:Nat}
noncomputable def mW(W:aE)(A:Around)(t:Sem Value)(b:Bool)(s:Shared):Prop:=∀(E Q:Value->Shared->Prop),Q (.bool b) s->wpAny (Md W) A t Q E s
def js(W:aE)(A:Around)(s:Shared)(o n:CmpOp)(r:Bool)(va vb:Value):Prop:=mW W A (compareOp o va vb) r s/\mW W A (compareOp n va vb) (!r) s
theorem lD{m:XV}{l:List Nat}{v:Value}{P:Value->Prop}(e:(dK m).bind aF=some l)(x:ω W h m v)(k:∀t,P (.str (aD l) t)):P v:=O e λy e1 e2=>d9 (P:=P) e1 x (aJ (S:=W.S) e2▸k)
theorem iI{ms:List XV}:∀{l:List (List Nat)}{vs:List Value},sK ms=some l->Ξ W h ms vs->StrsAre vs (l.map aD):=by induction ms with
 |nil=>exact λe x=>bz x (θ e .nil)|cons m ms ih=>exact λ{l vs}e x=>am x λv vs x y=>π e λa q e1 e2 e=>θ e (lD (P:=λv=>StrsAre (v::vs) (aD a::q.map aD)) e1 x λt=>.cons _ _ (ih e2 y))
theorem p_{ms:List XV}:∀{l:List Int}{vs:List Value},AX ms=some l->Ξ W h ms vs->IntsAre vs l:=by induction ms with
 |nil=>exact λe x=>bz x (θ e .nil)|cons m ms ih=>exact λ{l vs}e x=>am x λv vs x y=>π e λa q e1 e2 e=>θ e (jE (P:=λv=>IntsAre (v::vs) (a::q)) e1 x λt=>.cons _ _ (ih e2 y))
theorem Ξ.len{ms:List XV}:∀{vs:List Value},Ξ W h ms vs->vs.length=ms.length:=by induction ms with
 |nil=>exact λx=>bz x rfl|cons m ms ih=>exact λx=>am x λv vs _ y=>congrArg Nat.succ (ih y)
theorem aN{a:Addr}{vs:List Value}{n:Nat}(e:h.get? a=some (aI vs n)):h.IsList a vs.toArray:=⟨_,e,rfl,n,rfl⟩
theorem ry{a b:List Nat}:(aD a==aD b)=(a==b):=Bool.eq_iff_iff.mpr ⟨λe=>beq_iff_eq.mpr (Array.mk.inj (Str.mk.inj (eq_of_beq e))),λe=>beq_iff_eq.mpr (congrArg aD (eq_of_beq e))⟩
theorem C9{p:List (List Nat)}:∀{q},Rz p q=(p.map aD==q.map aD):=by induction p with
 |nil=>intro q;cases q<;>rfl|cons a x ih=>intro q;cases q with
  |nil=>rfl|cons b y=>exact show(dk a b&&Rz x y)=(aD a==aD b&&(x.map aD==y.map aD))from congr (congrArg and ((l7 a b).trans ry.symm)) ih
theorem ia{vs:List Value}{ys:List Str}(x:StrsAre vs ys):vs.length=ys.length:=StrsAre.length x
theorem y0{α:Type}[BEq α][LawfulBEq α]{p q:List α}(e:p.length=q.length):(List.range p.length).all (λj=>p[j]?==q[j]?)=(p==q):=Bool.eq_iff_iff.mpr ⟨λz=>beq_iff_eq.mpr (List.ext_getElem? λi=>if h:i<p.length then eq_of_beq (List.all_eq_true.mp z i (List.mem_range.mpr h))else(List.getElem?_eq_none (Nat.not_lt.mp h)).trans (List.getElem?_eq_none (e▸Nat.not_lt.mp h)).symm),λz=>eq_of_beq z▸List.all_eq_true.mpr λj _=>beq_self_eq_true _⟩
theorem aeB{α:Type}{l:List α}{i:Nat}(d:α)(h:i<l.length):l.getD i d=l[i]:=(List.getD_eq_getElem?_getD ..).trans (congrArg (Option.getD · d) (List.getElem?_eq_getElem h))
open SeqAt in theorem xl{ps qs:List Str}{vs us:List Value}(sa:StrsAre vs ps)(sb:StrsAre us qs)(j:Nat)(h1:j<vs.toArray.size)(h2:j<us.toArray.size):EqAt A s vs.toArray[j] us.toArray[j] (ps[j]?==qs[j]?):=by
 obtain⟨y,t,e1,e2⟩:=sa.item j _ (List.getElem?_eq_getElem h1)
 obtain⟨z,u,e3,e4⟩:=sb.item j _ (List.getElem?_eq_getElem h2)
 have k:EqAt A s (.str y t) (.str z u) (some y==some z):=(eqGives_str _ _ _ _).at _ _
 rw[<-e1,<-e3,<-e2,<-e4]at k
 exact k
open SeqAt in theorem sX{a b:Addr}{vs us:List Value}(la:s.heap.IsList a vs.toArray)(lb:s.heap.IsList b us.toArray)(hl:vs.length≠us.length)(R:ψ A d):js W A s .Eq .NotEq false (.ref a) (.ref b):=have hsz:(vs.toArray.size !=us.toArray.size)=true:=bne_iff_ne.mpr hl
 ⟨λE Q k=>eq_list_lengthsAt la lb hsz R.lt k,λE Q k=>RcNeAt.lists_lengths la lb hsz R.lt W.prog W.w E Q k⟩
open SeqAt in theorem F5{a b:Addr}{vs us:List Value}{p q:List Str}(la:s.heap.IsList a vs.toArray)(lb:s.heap.IsList b us.toArray)(sa:StrsAre vs p)(sb:StrsAre us q)(R:ψ A d):js W A s .Eq .NotEq (p==q) (.ref a) (.ref b):=by
  by_cases hz:p.length=q.length
  · have hv:vs.length=us.length:=(ia sa).trans (hz.trans (ia sb).symm)
    have hr:(List.range vs.length).all (λj=>p[j]?==q[j]?)=(p==q):=ia sa▸y0 hz
    exact⟨λE Q k=>eq_listAt la lb hv R.lt (xl sa sb) (hr▸k),λE Q k=>RcNeAt.lists la lb hv R.lt (xl sa sb) W.prog W.w E Q (hr▸k)⟩
  · have hf:(p==q)=false:=beq_eq_false_iff_ne.mpr λe=>hz (e▸rfl)
    exact hf▸sX la lb (λe=>hz ((ia sa).symm.trans (e.trans (ia sb)))) R
theorem Ix{i j:Int}{t u:Tok}{r:Bool}(e:(i==j)=r):js W A s .Eq .NotEq r (.int i t) (.int j u):=e▸⟨λE Q k=>PyProof.Rows.eq_int k,λE Q k=>PyProof.Rows.ne_int k⟩
theorem acL{i j:Str}{t u:Tok}{r:Bool}(e:(i==j)=r):js W A s .Eq .NotEq r (.str i t) (.str j u):=e▸⟨λE Q k=>PyProof.Rows.eq_str k,λE Q k=>PyProof.Rows.ne_str k⟩
theorem nil_of{α:Type}{l:List α}(e:ak l=true):l=[]:=by cases l with
 |nil=>rfl|cons _ _=>exact υ e
theorem WT(a b:Nat):((a:Int)==(b:Int))=Nat.beq a b:=(Bool.eq_iff_iff.mpr (beq_iff_eq.trans (Int.natCast_inj.trans decide_eq_true_iff.symm))).trans (Rw a b).symm
theorem BS{a b:XV}{va vb:Value}{r:Bool}(e:oEq a b=some r)(R:ψ A d)(ha:ω W (vis vol s.heap) a va)(hb:ω W (vis vol s.heap) b vb):js W A s .Eq .NotEq r va vb:=by
  refine af e (λe=>mG e ha hb λ_ _ _ _ e=>θ e (Ix rfl)) λe=>af e (λe=>π e λp q e1 e2 e=>?_) λe=>af e (λe=>π e λx y e1 e2 e=>?_) λe=>af e (λe=>π e λx y e1 e2 e=>?_) λe=>π e λx y e1 e2 e=>?_
  · refine gf e1 ha λ_=>gf e2 hb λ_=>Ix ((WT ..).trans ?_)
    cases c:(ak p.2&&ak q.2)with
|true=>exact η c λc1 d=>(nil_of c1).symm▸(nil_of d).symm▸Option.some.inj (a8 (C:=λb=>(bif b then some (Nat.beq p.1 q.1)else bif Nat.beq p.1 q.1&&lm p.2 q.2 then some true else none)=some r) c.symm e)|false=>exact Φ (a8 (C:=λb=>(bif b then some (Nat.beq p.1 q.1)else bif Nat.beq p.1 q.1&&lm p.2 q.2 then some true else none)=some r) c.symm e) λc=>η c λc d=>Nat.eq_of_beq_eq_true c▸yZ (S:=W.S) d▸Nat.beq_refl _
  · refine d9 e1 ha λ_=>d9 e2 hb λ_=>acL ?_
    exact af e (λe=>π e λa b e1 e2 e=>aJ (S:=W.S) e1▸aJ (S:=W.S) e2▸θ e (ry.trans (l7 ..).symm)) λe=>Φ e λc=>sV (S:=W.S) c▸beq_self_eq_true _
  · refine eM e1 ha λ_=>eM e2 hb λ_=>Φ e λc=>sW (S:=W.S) c▸?_
    exact⟨λE Q k=>PySem.W.eq_bytes (a8 (C:=λb=>Q (.bool b) s) (beq_self_eq_true _) k),λE Q k=>PySem.W.ne_bytes (a8 (C:=λb=>Q (.bool !b) s) (beq_self_eq_true _) k)⟩
  · refine bq (cX e1 ha) λi vs n a2 a3=>bq (cX e2 hb) λj us m b2 b3=>?_
    have la:=aN (ι.mp a2).1
    have lb:=aN (ι.mp b2).1
    exact af e (λe=>π e λp q e1 e2 e=>θ e (C9▸F5 la lb (iI e1 a3) (iI e2 b3) R)) λe=>cj e λc e=>θ e (sX la lb (a3.len▸b3.len▸Nat.ne_of_beq_eq_false c) R)
theorem WU{l:List Nat}{c:Nat}(e:one l=some c):l=[c]:=by cases l with
 |nil=>exact ζ e|cons x r=>exact Φ e λh=>nil_of h▸rfl
theorem uZ{c:Nat}{y:Str}{t u:Tok}{r:Bool}(e:decide (c∈y.cps.toList)=r):js W A s .In .NotIn r (.str (aD [c]) t) (.str y u):=e▸PySem.StrLaws.found_one y c▸⟨λE Q k=>PyProof.Rows.in_str k,λE Q k=>PyProof.Rows.notIn_str k⟩
theorem ub(i:Nat):decide (58∈(W.S.txt i).takeWhile (·!=40))=W.S.colon i:=by
 obtain⟨hd,r,e,n,ne,c⟩:=W.uN.head i
 have e1:(W.S.txt i).takeWhile (·!=40)=hd:=e▸(List.takeWhile_append_of_pos λa m=>bne_iff_ne.mpr λz:a=40=>n (z▸m)).trans (List.append_nil _)
 exact e1▸Bool.eq_iff_iff.mpr (decide_eq_true_iff.trans c)
theorem F6{c:List Nat}{q:List (List Nat)}:(q.map aD).any (·==aD c)=yb c q:=by induction q with
 |nil=>rfl|cons z q ih=>exact congr (congrArg or (ry.trans (l7 ..).symm)) ih
theorem F7{i:Int}{q:List Int}:q.any (·==i)=anyI i q:=by induction q with
 |nil=>rfl|cons z q ih=>exact congrArg (z==i||·) ih
theorem RA{m:XV}{c:Nat}{v:Value}{P:Value->Prop}(e:((dK m).bind aF).bind one=some c)(x:ω W h m v)(k:∀t,P (.str (aD [c]) t)):P v:=O e λy e1 e2=>lD (P:=P) e1 x (WU e2▸k)
theorem BU{a b:XV}{va vb:Value}{r:Bool}(e:oIn W.S.colon a b=some r)(ha:ω W (vis vol s.heap) a va)(hb:ω W (vis vol s.heap) b vb):js W A s .In .NotIn r va vb:=by
 refine af e (λe=>π e λc l e1 e2 e=>RA (P:=λva=>js W A s .In .NotIn r va vb) e1 ha λt=>?_) λe=>af e (λe=>π e λc l e1 e2 e=>RA (P:=λva=>js W A s .In .NotIn r va vb) e1 ha λt=>lD (P:=js W A s .In .NotIn r _) e2 hb λu=>θ e (uZ (jI ..).symm)) λe=>af e (λe=>π e λc i e1 e2 e=>RA (P:=λva=>js W A s .In .NotIn r va vb) e1 ha λt=>WS e2 hb λu=>Φ e λh=>uZ (Nat.eq_of_beq_eq_true h▸ub i)) λe=>af e (λe=>π e λc l e1 e2 e=>lD (P:=λva=>js W A s .In .NotIn r va vb) e1 ha λt=>O e2 λq e2 e3=>bq (cX e2 hb) λb us k b2 b3=>θ e ?_) λe=>π e λc l e1 e2 e=>jE (P:=λva=>js W A s .In .NotIn r va vb) e1 ha λt=>O e2 λq e2 e3=>bq (cX e2 hb) λb us k b2 b3=>θ e ?_
 ·exact Iv e2 hb λy u p=>θ e (uZ (Bool.eq_iff_iff.mpr (decide_eq_true_iff.trans (p.has c))))
 ·exact F6▸⟨λE Q k=>in_list_strs (aN (ι.mp b2).1) (iI e3 b3) k,λE Q k=>notin_list_strs (aN (ι.mp b2).1) (iI e3 b3) k⟩
 ·exact F7▸⟨λE Q k=>in_list_ints (aN (ι.mp b2).1) (p_ e3 b3) k,λE Q k=>notin_list_ints (aN (ι.mp b2).1) (p_ e3 b3) k⟩
theorem qb{a:XV}{va:Value}{r:Bool}(e:isNone a=some r)(ha:ω W h a va):(va==Value.none)=r:=by cases a with
 |none=>exact a8 (C:=λv=>(v==Value.none)=r) (nE.mp ha) (Option.some.inj e)|bool b=>exact a8 (C:=λv=>(v==Value.none)=r) (nF.mp ha) (Option.some.inj e)|int _=>exact i6 ha λ_=>Option.some.inj e|str _=>exact cm ha λ_=>Option.some.inj e|dD _=>exact rx ha λ_ _ _=>Option.some.inj e|bytes _=>exact cb ha λ_=>Option.some.inj e|tuple _=>exact cO ha λ_ _ _ _=>Option.some.inj e|list _=>exact bq ha λ_ _ _ _ _=>Option.some.inj e|obj _ _=>exact ha.elim λ_=>Exists.rec λ_=>Exists.rec λ_=>Exists.rec λ_ y=>y.1▸Option.some.inj e|node _=>exact ha.elim λ_ y=>y.1▸Option.some.inj e|_=>exact ζ e
theorem pI{a:XV}{b:Bool}{v:Value}(e:Aa a=some b)(x:ω W h a v):v=.bool b:=by cases a with
 |bool c=>exact θ (P:=λb=>v=.bool b) e x|_=>exact ζ e
theorem BV{a b:XV}{va vb:Value}{r:Bool}(e:oIs a b=some r)(ha:ω W h a va)(hb:ω W h b vb):js W A s .Is .IsNot r va vb:=af e (λe=>π e λx y e1 e2 e=>pI e1 ha▸pI e2 hb▸θ e (by cases x<;>cases y<;>exact⟨λE Q k=>wpAny_is_plain rfl k,λE Q k=>wpAny_isNot_plain rfl k⟩)) λe=>ξ e λc e=>by
 have hn:vb=.none:=by cases q:isNone b with
  |none=>exact υ (a8 (C:=λo:Option Bool=>(o.casesOn false id:Bool)=true) q.symm c)|some t=>exact eq_of_beq ((qb q hb).trans (a8 (C:=λo:Option Bool=>(o.casesOn false id:Bool)=true) q.symm c))
 exact hn▸qb e ha▸⟨λE Q k=>is_none k,λE Q k=>isNot_none k⟩
theorem iz{op:CmpOp}{a b:XV}{va vb:Value}{r:Bool}(e:aal W.S.colon op a b=some r)(R:ψ A d)(ha:ω W (vis vol s.heap) a va)(hb:ω W (vis vol s.heap) b vb):mW W A (compareOp op va vb) r s:=by cases op with
 |Eq=>exact(BS e R ha hb).1|NotEq=>exact χ (P:=λr=>mW W A (compareOp .NotEq va vb) r s) e λq e=>(BS e R ha hb).2|Lt=>exact mG e ha hb λ_ _ _ _ e=>θ e λE Q k=>PyProof.Rows.lt_int k|LtE=>exact mG e ha hb λi j _ _ e=>θ e λE Q k=>PySem.P.le_int (a8 (C:=λb=>Q (.bool b) s) ((decide_eq_decide.mpr Int.not_lt.symm).trans (decide_not ..)) k)|Gt=>exact mG e ha hb λ_ _ _ _ e=>θ e λE Q k=>PyProof.Rows.gt_int k|GtE=>exact mG e ha hb λi j _ _ e=>θ e λE Q k=>PySem.P.ge_int (a8 (C:=λb=>Q (.bool b) s) ((decide_eq_decide.mpr Int.not_lt.symm).trans (decide_not ..)) k)|Is=>exact(BV e ha hb).1|IsNot=>exact χ (P:=λr=>mW W A (compareOp .IsNot va vb) r s) e λq e=>(BV e ha hb).2|In=>exact(BU e ha hb).1|NotIn=>exact χ (P:=λr=>mW W A (compareOp .NotIn va vb) r s) e λq e=>(BU e ha hb).2
end
def jJ(a:XV):Option Bool:=a.casesOn (some false) some (λi=>some (!yS i 0)) (λ_ _=>none) (λ_=>none) (λ_ _=>none) (λ_=>none) (λ_=>none) (λ_=>none) (λ_=>none) (λl=>bif Nat.ble l.length 1000 then some (!ak l)else none) (λ_=>none) (λ_ _=>none) (λ_=>none) (λ_=>none) (λ_=>none) (λ_=>none) (λ_=>none) (λ_=>none) (λ_=>none) (λ_=>none) none
noncomputable def fm(e:Expr):Bool:=Nat.beq e.ctorIdx 7
noncomputable def i7(e:Expr):Option Expr:=e.casesOn (λ_ _ _=>none) (λ_ _ _=>none) (λ_ _ _ _=>none) (λ_ _ _=>none) (λ_ _ _ _=>none) (λ_ _ _ _=>none) (λ_ _ _=>none) (λ_ _ _=>none) (λ_ _ _ _=>none) (λ_ _ _ _=>none) (λ_ _ _ _ _=>none) (λ_ _ _ _=>none) (λ_ _=>none) (λ_ _=>none) (λ_ _=>none) (λ_ _ _ _=>none) (λ_ _ _ _=>none) (λ_ _ _ _=>none) (λ_ _=>none) (λ_ _ _=>none) (λ_ _ _=>none) (λ_ _ _=>none) (λe _=>some e) (λ_ _=>none) (λ_ _=>none) (λ_ _ _=>none) (λ_ _ _ _=>none)
theorem kN{e y:Expr}:i7 e=some y->∃p,e=.Starred y p:=by cases e with
 |Starred e p=>exact λh=>θ (P:=λy=>∃q,Expr.Starred e p=.Starred y q) h ⟨p,rfl⟩|_=>exact λh=>ζ h
theorem il{x:Expr}{r:List Expr}{env:Env}:i7 x=none->starEach (x::r) env=(false,eval x env)::starEach r env:=by cases x with
 |Starred e p=>exact λh=>Option.noConfusion rfl (heq_of_eq h)|_=>exact λ_=>rfl
abbrev eZ(e:Expr):Bool:=(i7 e).isSome
structure Tb where gl:List (Str×XV)
noncomputable def xm(c:Const):Option XV:=match c with
 |.none=>some .none|.bool b=>some (.bool b)|.int i=>some (.int i)|.str x=>some (.str [.lit x.cps.toList])|.bytes b=>some (.bytes [.lit b])|_=>none
def BW(T:Tb)(cx:Cx)(ρ:au)(x:Str):Option XV:=(lk cx.names x).bind λk=>match k with
 |.local=>lk ρ x|.cell=>lk ρ x|.free=>lk ρ x|.globalImplicit=>lk T.gl x|_=>none
noncomputable def Q9(f:Expr->Option XV):List Expr->Option (List XV)
 |[]=>some []|e::r=>bif eZ e then none else pG (f e) (Q9 f r)
def y4(i:Bool)(v:XV)(rest:Option XV):Option XV:=(jJ v).bind λt=>bif i then(bif t then rest else some v)else(bif t then some v else rest)
def kO(lc i:Bool)(v:XV)(rest:Option XV):Option XV:=(bif lc then none else two (Aa v) (rest.bind Aa) λa b=>some (.bool (bif i then a&&b else a||b))).or (y4 i v rest)
theorem u0{a:XV}{b:Bool}(e:Aa a=some b):a=.bool b:=by cases a with
 |bool c=>exact θ (P:=λb=>XV.bool c=.bool b) e rfl|_=>exact ζ e
theorem uc{lc i:Bool}{v m:XV}{o:Option XV}{P:Prop}(e:kO lc i v o=some m)(k:∀a,jJ v=some a->(a=i/\o=some m)\/(a=!i/\m=v)->P):P:=by
  refine af e (λe=>cj e λ_ e=>π e λa b e1 e2 e=>O e2 λw h e2=>?_) λe=>O e λt e1 e=>k t e1 ?_
  · cases u0 e1
    cases u0 e2
    refine k a rfl ?_
    cases h
    cases e
    cases i<;>cases a<;>first|exact .inl ⟨rfl,rfl⟩|exact .inr ⟨rfl,rfl⟩
  ·cases i<;>cases t<;>first|exact .inl ⟨rfl,e⟩|exact .inr ⟨rfl,(Option.some.inj e).symm⟩
noncomputable def WV(e:Expr):Bool:=e.casesOn (λ_ _ _=>false) (λ_ _ _=>false) (λ_ _ _ _=>false) (λ_ _ _=>false) (λ_ _ _ _=>false) (λ_ _ _ _=>false) (λ_ _ _=>false) (λ_ _ _=>false) (λ_ _ _ _=>false) (λ_ _ _ _=>false) (λ_ _ _ _ _=>false) (λ_ _ _ _=>false) (λ_ _=>false) (λ_ _=>false) (λ_ _=>false) (λl _ _ _=>Nat.beq l.ctorIdx 8) (λ_ _ _ _=>false) (λ_ _ _ _=>false) (λ_ _=>false) (λ_ _ _=>false) (λ_ _ _=>false) (λ_ _ _=>false) (λ_ _=>false) (λ_ _=>false) (λ_ _=>false) (λ_ _ _=>false) (λ_ _ _ _=>false)
noncomputable def qV(f:Expr->Option XV)(i:Bool):List Expr->Option XV
 |[]=>none|x::r=>bif ak r then f x else(f x).bind λv=>kO (r.any WV) i v (qV f i r)
noncomputable def sY(lc i t:Bool)(o:Option Bool):Option Bool:=(bif lc then none else o.map λb=>bif i then t&&b else t||b).or (bif i then(bif t then o else some false)else(bif t then some true else o))
theorem pw{lc i t b:Bool}{o:Option Bool}(e:sY lc i t o=some b):(t=i/\o=some b)\/(t=!i/\b=t):=by
  refine af e (λe=>cj e λ_ e=>χ (P:=λb=>(t=i/\o=some b)\/(t=!i/\b=t)) e λa e=>?_) λe=>?_
  · cases e
    cases i<;>cases t<;>first|exact .inl ⟨rfl,rfl⟩|exact .inr ⟨rfl,rfl⟩
  ·cases i<;>cases t<;>first|exact .inl ⟨rfl,e⟩|exact .inr ⟨rfl,(Option.some.inj e).symm⟩
noncomputable def F8(e:Expr):Bool:=e.casesOn (λ_ _ _=>false) (λ_ _ _=>false) (λ_ _ _ _=>false) (λ_ _ _=>false) (λ_ _ _ _=>false) (λ_ _ _ _=>false) (λ_ _ _=>false) (λ_ _ _=>false) (λ_ _ _ _=>false) (λ_ _ _ _=>false) (λ_ _ _ _ _=>false) (λ_ _ _ _=>false) (λ_ _=>false) (λ_ _=>false) (λ_ _=>false) (λ_ o _ _=>Nat.ble 2 o.length) (λ_ _ _ _=>false) (λ_ _ _ _=>false) (λ_ _=>false) (λ_ _ _=>false) (λ_ _ _=>false) (λ_ _ _=>false) (λ_ _=>false) (λ_ _=>false) (λ_ _=>false) (λ_ _ _=>false) (λ_ _ _ _=>false)
noncomputable def pJ(f:Expr->Option Bool)(i:Bool):List Expr->Option Bool
 |[]=>some i|x::r=>(f x).bind λt=>sY (r.any F8) i t (pJ f i r)
noncomputable def pK(S:Nat->Bool)(f:Expr->Option XV):List CmpOp->XV->List Expr->Option Bool
 |[],_,_=>none|op::iY,l,rs=>rs.casesOn none λr rs=>(f r).bind λb=>(aal S op l b).bind λc=>bif ak iY then bif ak rs&&!fm r then some c else none else bif ak rs then none else bif c then pK S f iY b rs else some false
noncomputable def i8(b:BoolOp):Bool:=b.casesOn true false
def aam(op:UnaryOp)(v:XV):Option XV:=match op with
 |.Not=>(jJ v).map λb=>.bool (!b)|.USub=>(gX v).map λi=>.int (-i)|_=>none
section
variable{W:aE}{A:Around}{vol own:List Addr}{s:Shared}{d:Nat}{env:Env}{cx:Cx}{ρ:au}{sv:Sv}
theorem qu{x y:Str}(h:Fast.sEq x y=false):(x==y)=false:=beq_eq_false_iff_ne.mpr λz=>Bool.noConfusion (h.symm.trans (Fast.sEq_iff.mpr z))
theorem aU{α:Type}{l:List (Str×α)}{x:Str}{v:α}(e:lk l x=some v):l.lookup x=some v:=by induction l with
 |nil=>exact ζ e|cons p q ih=>
  have e:(bif Fast.sEq p.1 x then some p.2 else lk q x)=some v:=e
  show(bif x==p.1 then some p.2 else q.lookup x)=some v
  cases h:Fast.sEq p.1 x with
  |true=>exact Fast.sEq_iff.mp h▸(beq_self_eq_true p.1).symm▸a8 (C:=λb=>(bif b then some p.2 else lk q x)=some v) h.symm e|false=>exact(qu (x:=x) (y:=p.1) (Bool.eq_false_iff.mpr λz=>Bool.noConfusion (h.symm.trans (Fast.sEq_iff.mpr (Fast.sEq_iff.mp z).symm)))).symm▸ih (a8 (C:=λb=>(bif b then some p.2 else lk q x)=some v) h.symm e)
noncomputable def aan(W:aE)(A:Around)(t:Sem Bool)(b:Bool)(s:Shared):Prop:=∀(E:Value->Shared->Prop)(Q:Bool->Shared->Prop),(∀k,Q b {s with toks:=k})->wpAny (Md W) A t Q E s
theorem je{m:XV}{v:Value}{b:Bool}(e:jJ m=some b)(x:ω W (vis vol s.heap) m v):aan W A (truthy v) b s:=by cases m with
 |none=>exact nE.mp x▸θ e λE Q k _ _ _=>k s.toks|bool c=>exact nF.mp x▸θ e λE Q k=>wpAny_truthy_bool (k s.toks)|int i=>exact i6 x λt=>θ e λE Q k=>PySem.P.truthy_int (k s.toks)|list l=>
  refine ξ e λc e=>θ (P:=λb=>aan W A (truthy v) b s) e ?_
  obtain⟨a,vs,n,rfl,h1,h2⟩:=x
  have hl:vs.length=l.length:=h2.len
  refine λE Q k=>wpAny_truthy_list (items:=vs.toArray) ⟨_,(ι.mp h1).1,rfl,n,rfl⟩ (Int.lt_of_le_of_lt (Int.ofNat_le.mpr (Nat.le_trans (Nat.le_of_eq hl) (ble c))) (by decide)) ?_
  have z:(!vs.toArray.isEmpty)=!ak l:=by cases l with
   |nil=>cases List.eq_nil_of_length_eq_zero hl;rfl|cons p q=>cases vs with
    |nil=>exact nomatch hl|cons u w=>rfl
  exact z▸k _|_=>exact ζ e
noncomputable def Ah(W:aE)(T:Tb):Prop:=∀x m,lk T.gl x=some m->∃u,(∀h:Heap,W.top.StaysIn h->ω W h m u)/\∃mg,W.top.Ns mainGlobals mg/\(mg x=some u\/(mg x=none/\∃mb,W.top.Ns builtinsNs mb/\mb x=some u))
theorem WW{c:Const}{k:Nat}{pos:Pos}{m:XV}(e:xm c=some m):ο W A vol (eval (.Constant c k pos) env) m s:=by cases c with
 |none=>exact θ e λE Q q=>wpAny_Constant_none (q _ _ rfl (.refl _))|bool b=>exact θ e λE Q q=>wpAny_Constant_bool (q _ _ rfl (.refl _))|int i=>exact θ e λE Q q=>wpAny_Constant_int (q _ _ lC .tok)|str x=>exact θ e λE Q q=>wpAny_Constant_str (q _ _ (jr (congrArg aD (List.append_nil _))) .tok)|bytes b=>exact θ e λE Q q=>PySem.W.Constant_bytes (q _ _ (qr (congrArg bu (List.append_nil _))) .tok)|_=>exact ζ e
theorem acM{T:Tb}{x:Str}{pos:Pos}{m:XV}(G:Ah W T)(hd:Fast.sEq x ("__debug__":Str)=false)(hc:Fast.sEq x ("__classdict__":Str)=false)(e:BW T cx ρ x=some m)(X:az W own vol cx ρ env s):ο W A vol (eval (.Name x pos) env) m s:=O e λk q e=>by
 have q:=aU q
 have kd:(k=NameKind.free->False)->env.kindOf x=some k:=λn=>(X.names x k q).resolve_right λz=>n z.1
 cases k with
 |«local»=>exact λE Q K=>wpAny_Name (X.loc.elim λmm y=>(y.2 x m e q).elim λv z=>wpAny_loadName_local X.kind (kd (λz=>NameKind.noConfusion z)) y.1 z.1 (K _ _ z.2 (.refl _))) (qu hd)|cell=>exact λE Q K=>wpAny_Name ((X.z_ x m e (.inl q)).elim λc=>Exists.rec λv z=>wpAny_loadName_cell X.kind (kd (λz=>NameKind.noConfusion z)) z.1 z.2.1 (K _ _ z.2.2 (.refl _))) (qu hd)|free=>exact λE Q K=>wpAny_Name ((X.z_ x m e (.inr q)).elim λc=>Exists.rec λv z=>(X.names x _ q).elim (λy=>wpAny_loadName_free X.kind y z.1 z.2.1 (K _ _ z.2.2 (.refl _)) (qu hc)) λy=>wpAny_loadName_cell X.kind y.2 z.1 z.2.1 (K _ _ z.2.2 (.refl _))) (qu hd)
 |globalImplicit=>exact(G x m e).elim λu y=>y.2.elim λmg z E Q K=>have K:=K u s (y.1 _ X.inv.top) (.refl _)
  Name_function_global X.kind (kd (λz=>NameKind.noConfusion z)) (z.2.elim (λh=>loadGlobal_global (X.globals▸z.1.keeps X.inv.keeps) h K) λh=>h.2.elim λmb b=>loadGlobal_builtin (X.globals▸z.1.keeps X.inv.keeps) h.1 (X.builtins▸b.1.keeps X.inv.keeps) b.2 K) (qu hd)|_=>exact ζ e
noncomputable def xn(W:aE)(A:Around)(vol:List Addr)(t:Sem (List Value))(ms:List XV)(s:Shared):Prop:=∀(E:Value->Shared->Prop)(Q:List Value->Shared->Prop),(∀vs s',Ξ W (vis vol s'.heap) ms vs->Step s s'->Q vs s')->wpAny (Md W) A t Q E s
theorem aC{h:Heap}:Ξ W h [] []:=rfl
theorem Δ{h:Heap}{m:XV}{ms:List XV}{v:Value}{vs:List Value}(a:ω W h m v)(b:Ξ W h ms vs):Ξ W h (m::ms) (v::vs):=⟨v,vs,rfl,a,b⟩
theorem jK{x:Expr}{r:List Expr}(h:eZ x=false):starEach (x::r) env=(false,eval x env)::starEach r env:=il (Option.isNone_iff_eq_none.mp ((Option.not_isSome ..).symm.trans (congrArg not h)))
theorem F9{op:CmpOp}{r:Expr}:fm r=false->behindInMarks op r=false:=by cases r<;>first|exact λ_=>rfl|exact cq
theorem BX(ok:al W sv){pos:Pos}(R:ψ A d){es:List Expr}:∀{ms:List XV}{s:Shared},Q9 (sv.ev d cx ρ) es=some ms->az W own vol cx ρ env s->xn W A vol (spliced (backTo pos (starEach es env))) ms s:=by induction es with
 |nil=>exact λe X=>θ e λE Q k=>wpAny_items_nil (k _ _ aC (.refl _))
 |cons x r ih=>exact λe X=>cj e λc e=>π e λm l e1 e2 e=>θ e λE Q k=>wpAny_items_cons (ok.ev e1 X R E _ λv s1 h1 k1=>ih e2 (X.step k1) E _ λvs s2 h2 k2=>k _ _ (Δ (h1.step k2) h2) (k1.trans k2)) (jK c)
theorem ud{pos:Pos}{op:BoolOp}{x y:Sem Value}{r:List (Sem Value)}{v m:XV}{o:Option XV}{lc:Bool}(e:kO lc (i8 op) v o=some m)(h:ο W A vol x v s)(k:∀s',Step s s'->o=some m->ο W A vol (boolOp pos op (y::r)) m s'):ο W A vol (boolOp pos op (x::y::r)) m s:=by
  refine λE Q q=>wpAny_bind (h E _ λu s1 h1 k1=>wpAny_bind (wpAny_standAt (uc e λa e2 e3=>wpAny_bind (wpAny_holding (je e2 h1 E _ λtk=>?_)))))
  have k2:Step s {s1 with toks:=tk}:=k1.trans .tok
  refine e3.elim (λy=>?_) λy=>?_
  · cases y.1
    cases op<;>exact k _ k2 y.2 E Q λv s' q1 q3=>q v s' q1 (k2.trans q3)
  · cases y.1
    cases op<;>exact wpAny_pure (q _ _ (y.2▸h1) k2)
theorem y5(ok:al W sv){pos:Pos}{op:BoolOp}(R:ψ A d){es:List Expr}:∀{m:XV}{s:Shared},qV (sv.ev d cx ρ) (i8 op) es=some m->az W own vol cx ρ env s->ο W A vol (boolOp pos op (evalEach es env)) m s:=by induction es with
 |nil=>exact λe=>ζ e|cons x r ih=>cases r with
  |nil=>exact λe X=>ok.ev e X R|cons y r=>exact λe X=>O e λv e1 e=>ud e (ok.ev e1 X R) λs' k1 e3=>ih e3 (X.step k1)
theorem sZ(ok:al W sv){op:BoolOp}(R:ψ A d){es:List Expr}:∀{b:Bool}{s:Shared},pJ (sv.tr d cx ρ) (i8 op) es=some b->az W own vol cx ρ env s->eY W A (allTrue op es env) b s:=by induction es with
|nil=>cases op with
   |And=>exact λe X=>θ e λE Q k=>wpAny_allTrue_And_nil (k _ (.refl _))|Or=>exact λe X=>θ e λE Q k=>wpAny_allTrue_Or_nil (k _ (.refl _))
|cons x r ih=>
    refine λ{b s}e X=>O e λt e1 e E Q k=>?_
    have e3:=pw e
    cases op
    · refine wpAny_allTrue_And_cons (ok.tr e1 X R E _ λs1 k1=>e3.elim (λy=>?_) λy=>?_)
      ·exact y.1▸ih y.2 (X.step k1) E Q λs' q=>k s' (k1.trans q)
      ·exact y.1▸show Q false s1 from(show b=false from y.2.trans y.1)▸k _ k1
    · refine wpAny_allTrue_Or_cons (ok.tr e1 X R E _ λs1 k1=>e3.elim (λy=>?_) λy=>?_)
      ·exact y.1▸ih y.2 (X.step k1) E Q λs' q=>k s' (k1.trans q)
      ·exact y.1▸show Q true s1 from(show b=true from y.2.trans y.1)▸k _ k1
theorem iA{α:Type}{l:Value}{t:Sem Value}{K:Value->Sem α}{E:Value->Shared->Prop}{Q:α->Shared->Prop}{pos:Pos}{m:XV}(h:ο W A vol t m s)(k:∀u s',ω W (vis vol s'.heap) m u->Step s s'->wpAny (Md W) A (K u) Q E s'):wpAny (Md W) A (holding [l] t>>=λrv=>standAt pos>>=λ_=>K rv) Q E s:=wpAny_bind (wpAny_holding (h E _ λu s1 h1 k1=>wpAny_bind (wpAny_standAt (k u s1 h1 k1))))
theorem qW{α:Type}{l u:Value}{op:CmpOp}{X:Sem α}{Y:Value->Sem α}{c:Bool}{E:Value->Shared->Prop}{Q:α->Shared->Prop}(h:mW W A (compareOp op l u) c s)(k:wpAny (Md W) A (if c=true then X else Y (.bool c)) Q E s):wpAny (Md W) A (holding [l,u] (compareOp op l u)>>=λv=>release [l,u] [v]>>=λ_=>holding [v,u] (truthy v)>>=λt=>if t=true then X else Y v) Q E s:=wpAny_bind (wpAny_holding (h E _ (wpAny_bind λΓ p uO=>(Sem.wp_release ..).mpr (wpAny_bind (wpAny_holding (wpAny_truthy_bool k))))))
noncomputable def acN(W:aE)(A:Around)(vol:List Addr)(t:Sem Value)(u:Sem Bool)(b:Bool)(s:Shared):Prop:=ο W A vol t (.bool b) s/\eY W A u b s
theorem s_(ok:al W sv){pos:Pos}(R:ψ A d){iY:List CmpOp}:∀{rs:List Expr}{l:XV}{vl:Value}{b:Bool}{s:Shared},pK W.S.colon (sv.ev d cx ρ) iY l rs=some b->ω W (vis vol s.heap) l vl->az W own vol cx ρ env s->acN W A vol (compareChain pos vl iY (markedEach iY rs (evalEach rs env))) (testChain pos vl iY (markedEach iY rs (evalEach rs env))) b s:=by induction iY with
 |nil=>exact λe _ _=>ζ e|cons op iY ih=>
  intro rs l vl b s e hl X
  cases rs with
  |nil=>exact ζ e|cons r rs=>
  refine O e λm e1 e=>O e λc e2 e=>?_
  cases iY with
  |nil=>cases rs with
   |cons _ _=>exact ζ e|nil=>
    refine Φ e λhs=>η hs λ_ hs=>?_
    have hm:markedEach [op] [r] (evalEach [r] env)=[eval r env]:=congrArg (λx=>[x]) (markedBehindIn_of_false (F9 (aP hs)))
    exact hm▸⟨λE Q k=>iA (ok.ev e1 X R) λu s1 h1 k1 Γ p uO=>(Sem.wp_operate ..).mpr (iz e2 R (hl.step k1) h1 E Q (k _ _ rfl k1) Γ p uO),λE Q k=>iA (ok.ev e1 X R) λu s1 h1 k1=>wpAny_bind λΓ p uO=>(Sem.wp_operate ..).mpr (iz e2 R (hl.step k1) h1 E _ (wpAny_holding (wpAny_truthy_bool (k _ k1))) Γ p uO)⟩
  |cons o2 iY=>cases rs with
   |nil=>exact ζ e|cons r2 rs=>cases c with
    |true=>
     have e:pK W.S.colon (sv.ev d cx ρ) (o2::iY) m (r2::rs)=some b:=e
     exact⟨λE Q k=>iA (ok.ev e1 X R) λu s1 h1 k1=>qW (iz e2 R (hl.step k1) h1) ((ih e h1 (X.step k1)).1 E Q λv s' q1 q2=>k v s' q1 (k1.trans q2)),λE Q k=>iA (ok.ev e1 X R) λu s1 h1 k1=>qW (Y:=λ_=>pure false) (iz e2 R (hl.step k1) h1) ((ih e h1 (X.step k1)).2 E Q λs' q2=>k s' (k1.trans q2))⟩|false=>
     obtain rfl:=Option.some.inj e
     exact⟨λE Q k=>iA (ok.ev e1 X R) λu s1 h1 k1=>qW (iz e2 R (hl.step k1) h1) (wpAny_pure (k _ _ rfl k1)),λE Q k=>iA (ok.ev e1 X R) λu s1 h1 k1=>qW (Y:=λ_=>pure false) (iz e2 R (hl.step k1) h1) (wpAny_pure (k _ k1))⟩
theorem ta(ok:al W sv)(R:ψ A d){l:Expr}{iY rs pos}{m:XV}{b:Bool}(X:az W own vol cx ρ env s)(e1:sv.ev d cx ρ l=some m)(e2:pK W.S.colon (sv.ev d cx ρ) iY m rs=some b):ο W A vol (eval (.Compare l iY rs pos) env) (.bool b) s/\eY W A (isTrue (.Compare l iY rs pos) env (eval (.Compare l iY rs pos) env)) b s:=⟨λE Q k=>wpAny_bind (m:=eval l env) (ok.ev e1 X R E _ λu s1 h1 k1=>(s_ ok R e2 h1 (X.step k1)).1 E Q λv s' q1 q2=>k v s' q1 (k1.trans q2)),λE Q k=>wpAny_bind (m:=eval l env) (ok.ev e1 X R E _ λu s1 h1 k1=>(s_ ok R e2 h1 (X.step k1)).2 E Q λs' q2=>k s' (k1.trans q2))⟩
theorem WX(ok:al W sv)(R:ψ A d){t b o:Expr}{pos}{c:Bool}{m:XV}(X:az W own vol cx ρ env s)(e1:sv.tr d cx ρ t=some c)(e2:(bif c then sv.ev d cx ρ b else sv.ev d cx ρ o)=some m):ο W A vol (eval (.IfExp t b o pos) env) m s:=λE Q k=>wpAny_IfExp (ok.tr e1 X R E _ λs1 k1=>by cases c with
 |true=>exact ok.ev e2 (X.step k1) R E Q λv s' q1 q2=>k v s' q1 (k1.trans q2)|false=>exact ok.ev e2 (X.step k1) R E Q λv s' q1 q2=>k v s' q1 (k1.trans q2))
theorem WY(ok:al W sv)(R:ψ A d){op}{x:Expr}{pos}{a m:XV}(X:az W own vol cx ρ env s)(e1:sv.ev d cx ρ x=some a)(e2:aam op a=some m):ο W A vol (eval (.UnaryOp op x pos) env) m s:=by
 refine λE Q k=>wpAny_UnaryOp (ok.ev e1 X R E _ λu s1 h1 k1=>?_)
 cases op with
 |Not=>
  obtain⟨b,e3,rfl⟩:=Option.map_eq_some_iff.mp e2
  exact not_value (je e3 h1 E _ λtk=>k _ _ rfl (k1.trans .tok))|USub=>
  obtain⟨i,e3,rfl⟩:=Option.map_eq_some_iff.mp e2
  exact jE (P:=λu=>wpAny (Md W) A (unaryOp .USub u) Q E s1) e3 h1 λt=>PySem.P.neg_int (k _ _ lC (k1.trans .tok))|_=>exact ζ e2
theorem xo{f:Expr->Option XV}{es:List Expr}:∀{ms:List XV},Q9 f es=some ms->ms.length=es.length:=by induction es with
 |nil=>exact λe=>θ e rfl|cons x r ih=>exact λe=>cj e λ_ e=>π e λ_ _ _ e2 e=>θ e (congrArg Nat.succ (ih e2))
theorem few{es:List Expr}{ms:List XV}{vs:List Value}{h:Heap}(hl:Nat.ble es.length 1000=true)(e:ms.length=es.length)(v:Ξ W h ms vs):vs.length<=sizeLine:=v.len▸e▸Nat.le_trans (ble hl) (sizeLine_eq▸by decide)
theorem WZ(ok:al W sv)(R:ψ A d){es:List Expr}{c pos}{ms:List XV}(X:az W own vol cx ρ env s)(hl:Nat.ble es.length 1000=true)(e1:Q9 (sv.ev d cx ρ) es=some ms):ο W A vol (eval (.Tuple es c pos) env) (.tuple ms) s:=λE Q k=>wpAny_Tuple (BX ok R e1 X E _ λvs s1 h1 k1=>⟨few hl (xo e1) h1,k _ _ ⟨_,vs,rfl,dA (X.inv.step k1) rfl,h1.mono (ba (bU _ _))⟩ (k1.trans (Step.push _ _))⟩)
theorem acO(ok:al W sv)(R:ψ A d){es:List Expr}{pos}{ms:List XV}(X:az W own vol cx ρ env s)(hl:Nat.ble es.length 1000=true)(e1:Q9 (sv.ev d cx ρ) es=some ms):ο W A vol (eval (.List es pos) env) (.list ms) s:=λE Q k=>wpAny_List (BX ok R e1 X E _ λvs s1 h1 k1=>⟨few hl (xo e1) h1,k _ _ ⟨_,vs,0,rfl,dA (X.inv.step k1) rfl,h1.mono (ba (bU _ _))⟩ (k1.trans (Step.push _ _))⟩)
theorem F_(ok:al W sv)(R:ψ A d){op}{es:List Expr}{pos}{m:XV}(X:az W own vol cx ρ env s)(e:qV (sv.ev d cx ρ) (i8 op) es=some m):ο W A vol (eval (.BoolOp op es pos) env) m s:=y5 ok R e X
theorem F'(ok:al W sv)(R:ψ A d){op}{es:List Expr}{pos}{b:Bool}(X:az W own vol cx ρ env s)(e:pJ (sv.tr d cx ρ) (i8 op) es=some b):eY W A (isTrue (.BoolOp op es pos) env (eval (.BoolOp op es pos) env)) b s:=λE Q k=>wpAny_isTrue_BoolOp (sZ ok R e X E Q k)
theorem aeH(ok:al W sv)(R:ψ A d){x:Expr}{pos}{b:Bool}(X:az W own vol cx ρ env s)(e:sv.tr d cx ρ x=some b):eY W A (isTrue (.UnaryOp .Not x pos) env (eval (.UnaryOp .Not x pos) env)) (!b) s:=λE Q k=>wpAny_isTrue_Not (ok.tr e X R E _ λs1 k1=>k _ k1)
end
abbrev gR{α:Type}(l:List α)(n:Nat):Option α:=l[n]?
theorem aeC{α:Type}(l:List α)(n:Nat):gR l n=l[n]?:=rfl
abbrev wB(l:List UInt8):Option UInt8:=l.getLast?
abbrev ln(l:List UInt8):List UInt8:=l.dropLast
noncomputable def u5:Bx->Option UInt8
 |[]=>none|p::q=>bif ak q then p.casesOn wB (λ_=>none) (λ_=>none)else u5 q
noncomputable def u6:Bx->Option Bx
 |[]=>none|p::q=>bif ak q then p.casesOn (λl=>bif ak l then none else some [.lit (ln l)]) (λ_=>none) (λ_=>some [])else(u6 q).map (p::·)
theorem C_{l:List UInt8}(h:ak l=false):∃c,l=ln l++[c]:=by cases l with
 |nil=>exact cq h|cons a q=>exact⟨_,(List.dropLast_concat_getLast (List.cons_ne_nil a q)).symm⟩
theorem nG{l:List UInt8}{c}(e:wB l=some c):l=ln l++[c]:=by
 obtain⟨q,rfl⟩:=List.getLast?_eq_some_iff.mp e
 exact congrArg (·++[c]) List.dropLast_concat.symm
theorem vV{S:ay}{x:Bx}{c}:u5 x=some c->∃l,x.den S=l++[c]:=by induction x with
 |nil=>exact λe=>ζ e|cons p q ih=>cases q with
  |nil=>cases p with
   |lit l=>exact λe=>⟨ln l,(List.append_nil l).trans (nG e)⟩|_=>exact λe=>ζ e
  |cons r q=>exact λe=>(ih e).imp' (p.den S++·) λl h=>(congrArg (p.den S++·) h).trans (List.append_assoc ..).symm
theorem vW{S:ay}{x:Bx}:∀{y:Bx},u6 x=some y->∃c,x.den S=y.den S++[c]:=by induction x with
 |nil=>exact λe=>ζ e|cons p q ih=>cases q with
  |nil=>cases p with
   |lit l=>exact λe=>cj e λh e=>(C_ h).imp λc h=>θ (P:=λy=>l++[]=Bx.den S y++[c]) e ((List.append_nil l).trans (h.trans (congrArg (·++[c]) (List.append_nil _).symm)))|ini _=>exact λe=>ζ e|lst i=>exact λe=>⟨S.lst i,θ (P:=λy=>[S.lst i]=Bx.den S y++[S.lst i]) e rfl⟩
  |cons r q=>exact λe=>χ (P:=λy=>∃c,p.den S++Bx.den S (r::q)=Bx.den S y++[c]) e λz e=>(ih e).imp λc h=>(congrArg (p.den S++·) h).trans (List.append_assoc ..).symm
noncomputable def Ab(a:XV):Option (List XV):=a.casesOn none (λ_=>none) (λ_=>none) (λ_ _=>none) (λ_=>none) (λ_ _=>none) (λ_=>none) (λ_=>none) (λ_=>none) some (λ_=>none) (λ_=>none) (λ_ _=>none) (λ_=>none) (λ_=>none) (λ_=>none) (λ_=>none) (λ_=>none) (λ_=>none) (λ_=>none) (λ_=>none) none
noncomputable def aao(a:XV):Option Tx:=a.casesOn none (λ_=>none) (λ_=>none) (λ_ _=>none) (λ_=>none) (λ_ _=>none) (λ_=>none) (λ_=>none) (λ_=>none) (λ_=>none) (λ_=>none) (λ_=>none) (λ_ _=>none) (λ_=>none) (λ_=>none) (λ_=>none) (λ_=>none) some (λ_=>none) (λ_=>none) (λ_=>none) none
def Iy(x:Tx):Option Nat:=x.casesOn none λp q=>bif ak q then p.casesOn (λ_=>none) some else none
def aap(o i:XV):Option XV:=(two (Ab o) (mB i) λl n=>bif Nat.ble n 1000 then gR l n else none).or ((two (qN o) (mB i) λl n=>bif Nat.ble n 1000 then gR l n else none).or ((two (aao o) (mB i) λx n=>bif Nat.beq n 0 then((aF x).map λl=>.str [.lit (l.takeWhile (·!=40))]).or ((Iy x).map .head)else none).or ((two ((mA o).bind iu) (mB i) λl n=>bif Nat.ble l.length 1000 then(gR l n).map λc=>.int (c.toNat:Nat)else none).or (two (mA o) (gX i) λx j=>bif Nat.ble x.bound bI&&yS j (-1)then(u5 x).map λc=>.int (c.toNat:Nat)else none))))
noncomputable def xq(l:List Nat)(lo:Option Int)(n:Nat):Option XV:=(λr:List Nat=>bif Nat.ble r.length 1000 then some (.str [.lit r])else none) ((Builtin.Str.strSliceIndices lo none n l.length).filterMap (gR l))
noncomputable def sg(a:Option Int):Option Nat:=a.bind λi=>i.casesOn some λ_=>none
noncomputable def aZ{α:Type}(a:Option α):Bool:=a.casesOn true λ_=>false
def Iz(o:XV)(a:Option Int):Option XV:=(two (Ab o) (sg a) λl n=>bif Nat.ble 1 n&&Nat.ble n l.length&&Nat.ble l.length 1000 then some (.tuple (l.drop n))else none).or (two (qN o) (sg a) λl n=>bif Nat.ble l.length 1000 then some (.list (l.drop n))else none)
def IB(o:XV)(b:Option Int):Option XV:=(two (qN o) (sg b) λl n=>bif Nat.ble l.length 1000 then some (.list (l.take n))else none).or (two (mA o) b λx j=>bif Nat.ble x.bound bI&&yS j (-1)then(u6 x).map .bytes else none)
def aaq(o:XV)(a b:Option Int):Option XV:=two ((mA o).bind iu) (two (sg a) (sg b) λp q=>some (p,q)) λl p=>bif Nat.ble l.length 1000 then some (.bytes [.lit ((l.drop p.1).take (p.2-p.1))])else none
def BY(o:XV)(a b c:Option Int):Option XV:=bif aZ c then bif aZ b then Iz o a else bif aZ a then IB o b else aaq o a b else bif aZ b then two ((dK o).bind aF) (sg c) λl n=>bif Nat.ble 2 n then xq l a n else none else none
def i9(f:Expr->Option XV)(e:Option Expr):Option (Option Int):=e.elim (some none) λe=>((f e).bind gX).map some
noncomputable def xr(e:Expr):Option (Option Expr×Option Expr×Option Expr):=e.casesOn (λ_ _ _=>none) (λ_ _ _=>none) (λ_ _ _ _=>none) (λ_ _ _=>none) (λ_ _ _ _=>none) (λ_ _ _ _=>none) (λ_ _ _=>none) (λ_ _ _=>none) (λ_ _ _ _=>none) (λ_ _ _ _=>none) (λ_ _ _ _ _=>none) (λ_ _ _ _=>none) (λ_ _=>none) (λ_ _=>none) (λ_ _=>none) (λ_ _ _ _=>none) (λ_ _ _ _=>none) (λ_ _ _ _=>none) (λ_ _=>none) (λ_ _ _=>none) (λ_ _ _=>none) (λ_ _ _=>none) (λ_ _=>none) (λ_ _=>none) (λ_ _=>none) (λ_ _ _=>none) (λl u s _=>some (l,u,s))
def ID(f:Expr->Option XV)(value slice:Expr):Option XV:=(f value).bind λo=>(xr slice).elim ((f slice).bind λi=>aap o i) λp=>two (i9 f p.1) (two (i9 f p.2.1) (i9 f p.2.2) λb c=>some (b,c)) λa q=>BY o a q.1 q.2
section
variable{W:aE}{A:Around}{vol own:List Addr}{s:Shared}{d:Nat}{env:Env}{cx:Cx}{ρ:au}{sv:Sv}
theorem lq{h:Heap}{a:XV}{v:Value}{y}(e:Ab a=some y)(x:ω W h a v):ω W h (.tuple y) v:=by cases a with
 |tuple j=>exact θ e x|_=>exact ζ e
theorem W0{h:Heap}{a:XV}{v:Value}{y}(e:aao a=some y)(x:ω W h a v):ω W h (.heads y) v:=by cases a with
 |heads j=>exact θ e x|_=>exact ζ e
theorem vY{e:Expr}{p}(h:xr e=some p):∃q,e=.Slice p.1 p.2.1 p.2.2 q:=by cases e with
 |Slice l u s q=>exact θ (P:=λp=>∃r,Expr.Slice l u s q=.Slice p.1 p.2.1 p.2.2 r) h ⟨q,rfl⟩|_=>exact ζ h
theorem ot(slice:Expr)(o i:Value):∃vs,subscripted slice false o i=operate vs (getItem o i):=by cases slice with
 |Slice l u s q=>cases s<;>exact⟨_,rfl⟩|_=>exact⟨_,rfl⟩
theorem dt{value slice:Expr}{o i:Value}{T id:String}{E Q:Value->Shared->Prop}(hl:typeLookup (.type T) "__getitem__"=pure (some (.builtin id)))(hT:s.TypeIs o T)(h:wpAny (Md W) A (getItem o i) Q E s):wpAny (Md W) A (subscriptTail value slice o i) Q E s:=by
 refine wpAny_bind ((getitemInPython_of_ne hT.not_modules).symm▸wpAny_bind (wpAny_specialOf hT hl (wpAny_pure ?_)))
 obtain⟨vs,hv⟩:=ot slice o i
 exact wpAny_bind (hv.symm▸wpAny_operating (wpAny_mono h (λr s3 q=>wpAny_bind (wpAny_letTemporaryGo (wpAny_pure q))) λ_ _ x=>x))
theorem Ξ.at{h:Heap}{ms:List XV}:∀{vs:List Value}{n:Nat}{m:XV},Ξ W h ms vs->ms[n]?=some m->∃v,vs[n]?=some v/\ω W h m v:=by induction ms with
 |nil=>exact λ_ e=>ζ e|cons m0 ms ih=>
  intro vs n m x e
  refine am x λv vs x y=>?_
  cases n with
  |zero=>exact⟨v,rfl,θ e x⟩|succ n=>exact ih (vs:=vs) (n:=n) y e
theorem Ξ.drop{h:Heap}{ms:List XV}:∀{vs:List Value}(n:Nat),Ξ W h ms vs->Ξ W h (ms.drop n) (vs.drop n):=by induction ms with
 |nil=>exact λn x=>bz x (by cases n<;>exact aC)|cons m ms ih=>
  intro vs n x
  cases n with
  |zero=>exact x|succ n=>exact am x λv vs _ y=>ih n y
theorem Ξ.take{h:Heap}{ms:List XV}:∀{vs:List Value}(n:Nat),Ξ W h ms vs->Ξ W h (ms.take n) (vs.take n):=by induction ms with
 |nil=>exact λn x=>bz x (by cases n<;>exact aC)|cons m ms ih=>
  intro vs n x
  cases n with
  |zero=>exact aC|succ n=>exact am x λv vs x y=>Δ x (ih n y)
theorem BZ{n len:Nat}(h:n<len):seqIndex? ((n:Nat):Int) len=some n:=by exact(congrArg (λj:Int=>if(decide (0<=j)&&decide (j<len))=true then some j.toNat else none) (if_neg (Int.not_lt.mpr (Int.natCast_nonneg n)))).trans (if_pos (Bool.and_eq_true_iff.mpr ⟨decide_eq_true (Int.natCast_nonneg n),decide_eq_true (Int.ofNat_lt.mpr h)⟩))
theorem wC{n k:Nat}{m:Int}(h:n<=k)(g:(k:Int)<m):(n:Int)<m:=Int.lt_of_le_of_lt (Int.ofNat_le.mpr h) g
theorem IE{n:Nat}{m:Int}(g:m<=0):m<=(n:Int):=Int.le_trans g (Int.natCast_nonneg n)
theorem Zm{h:Heap}{x:Tx}{v:Value}:ω W h (.heads x) v↔∃a vs n t,v=.ref a/\h.get? a=some (aI (.str (aD ((x.den W.S).takeWhile (·!=40))) t::vs) n):=Iff.rfl
theorem C'{x:Tx}{i}(e:Iy x=some i):x=[.sym i]:=by cases x with
 |nil=>exact ζ e|cons p q=>
  refine ξ e λh e=>?_
  cases nil_of h
  cases p with
  |lit _=>exact ζ e|sym j=>exact θ (P:=λi=>[TP.sym j]=[.sym i]) e rfl
theorem B0{o:XV}{l:List UInt8}{h:Heap}{v:Value}{P:Value->Prop}(e:(mA o).bind iu=some l)(x:ω W h o v)(k:∀t,P (.bytes (bu l) t)):P v:=O e λy e1 e2=>eM (P:=P) e1 x (cM (S:=W.S) e2▸k)
abbrev iR(W:aE)(A:Around)(vol:List Addr)(s:Shared)(value slice:Expr)(m:XV)(vo vi:Value):Prop:=ο W A vol (subscriptTail value slice vo vi) m s
theorem aar{value slice:Expr}{b:Array UInt8}{u t:Tok}{i:Int}{c:UInt8}(hf:Builtin.Bytes.fitsIndex i=true)(h:((seqIndex? i b.size).bind λx=>b[x]?)=some c):iR W A vol s value slice (.int (c.toNat:Nat)) (.bytes b u) (.int i t):=λE Q k=>dt PySem.W.FB.slot_bytes_getitem.lookup (typeIs_bytes _ _ _) (PySem.getItem_gives (typeIs_bytes s _ u) (by decide) PySem.W.FB.slot_bytes_getitem PySem.W.FB.entry_bytes_getitem (PySem.W.FB.args_bytes_getitem_2 _ _) (gives_bytes_getitem _ _ u t c hf h) (k _ _ lC .tok))
theorem Ga(l:List UInt8)(b:UInt8):((seqIndex? (-1) (bu (l++[b])).size).bind λx=>(bu (l++[b]))[x]?)=some b:=by
 have hs:(bu (l++[b])).size=l.length+1:=List.length_append
 have h1:(-1:Int)+((l.length+1:Nat):Int)=l.length:=by omega
 have h:seqIndex? (-1) (l.length+1)=some l.length:=by
  show(if(decide (0<=(-1:Int)+((l.length+1:Nat):Int))&&decide ((-1:Int)+((l.length+1:Nat):Int)<((l.length+1:Nat):Int)))=true then some ((-1:Int)+((l.length+1:Nat):Int)).toNat else none)=_
  rw[h1]
  exact if_pos (Bool.and_eq_true_iff.mpr ⟨decide_eq_true (Int.natCast_nonneg _),decide_eq_true (Int.ofNat_lt.mpr (Nat.lt_succ_self _))⟩)
 rw[hs,h]
 exact List.getElem?_toArray.trans (List.getElem?_concat_length ..)
theorem aeI{n k:Nat}(h:n<k)(g:k<=1000):Builtin.Bytes.fitsIndex (n:Int)=true:=Bool.and_eq_true_iff.mpr ⟨decide_eq_true (IE (by decide)),decide_eq_true (wC (Nat.le_trans (Nat.le_of_lt h) g) (by decide))⟩
theorem Gb{o i m:XV}{vo vi:Value}{value slice:Expr}(e:aap o i=some m)(ho:ω W (vis vol s.heap) o vo)(hi:ω W (vis vol s.heap) i vi):iR W A vol s value slice m vo vi:=by
  refine af e (λe=>π e λl n e1 e2 e=>ξ e λc e=>?_) λe=>af e (λe=>π e λl n e1 e2 e=>ξ e λc e=>?_) λe=>af e (λe=>π e λx n e1 e2 e=>ξ e λc e=>?_) λe=>af e (λe=>π e λl n e1 e2 e=>ξ e λc e=>?_) λe=>π e λx j e1 e2 e=>ξ e λc e=>η c λc d=>?_
  · refine dL e2 hi λt=>cO (lq e1 ho) λa vs h2 h3 E Q k=>(h3.at e).elim λv e=>?_
    have eP:=(ι.mp h2).1
    exact dt PySem.F.slot_tuple_getitem.lookup ⟨_,eP,rfl⟩ (PySem.P.getItem_tuple (items:=vs.toArray) (n:=0) (k:=n) eP (IE (by decide)) (wC (ble c) (by decide)) (BZ (List.getElem?_eq_some_iff.mp e.1).1) (List.getElem?_toArray.trans e.1) (k _ _ e.2 (.refl _)))
  · refine dL e2 hi λt=>bq (cX e1 ho) λa vs z h2 h3 E Q k=>(h3.at e).elim λv e=>?_
    have eP:=(ι.mp h2).1
    exact dt slot_list_getitem.lookup ⟨_,eP,rfl⟩ (getItem_listL (aN eP) (Int.natCast_nonneg n) (wC (ble c) (by decide)) e.1 (k _ _ e.2 (.refl _)))
  · cases Nat.eq_of_beq_eq_true c
    refine dL e2 hi λt=>(W0 e1 ho).elim λa=>Exists.rec λvs=>Exists.rec λz=>Exists.rec λu h=>h.1▸λE Q k=>?_
    have eP:=(ι.mp h.2).1
    refine dt slot_list_getitem.lookup ⟨_,eP,rfl⟩ (getItem_listL (aN eP) (by decide) (by decide) rfl (k _ _ ?_ (.refl _)))
    exact af e (λe=>χ e λl e=>jr ((congrArg aD (List.append_nil _)).trans (aJ (S:=W.S) e▸rfl))) λe=>χ e λi e=>C' e▸⟨u,congrArg (λl=>Value.str (aD (l.takeWhile (·!=40))) u) (List.append_nil _)⟩
  ·exact B0 (P:=λvo=>iR W A vol s value slice m vo vi) e1 ho λu=>dL (P:=iR W A vol s value slice m _) e2 hi λt=>χ e λb e=>have hn:=(List.getElem?_eq_some_iff.mp e).1;aar (aeI hn (ble c)) ((congrArg (Option.bind · _) (BZ hn)).trans (List.getElem?_toArray.trans e))
  · refine eM (P:=λvo=>iR W A vol s value slice m vo vi) e1 ho λu=>jE (P:=iR W A vol s value slice m _) e2 hi λt=>χ e λb e=>?_
    obtain⟨l,hl⟩:=vV (S:=W.S) e
    cases eq_of_beq d
    exact hl▸aar (by decide) (Ga l b)
theorem kP(ok:al W sv)(R:ψ A d){e:Option Expr}{a:Option Int}(h:i9 (sv.ev d cx ρ) e=some a)(X:az W own vol cx ρ env s)(E:Value->Shared->Prop)(Q:Value->Shared->Prop)(k:∀v s',IsPart v a->Step s s'->Q v s'):wpAny (Md W) A (valueOrNone (evalOpt e env)) Q E s:=by cases e with
 |none=>exact wpAny_pure (k _ _ (θ (P:=IsPart .none) h .none) (.refl _))|some e=>exact χ (P:=λa=>(∀v s',IsPart v a->Step s s'->Q v s')->wpAny (Md W) A (eval e env) Q E s) h (λi h k=>O h λv e1 e2=>ok.ev e1 X R E Q λv s' q1 q2=>jE (P:=λv=>Q v s') e2 q1 λt=>k _ _ (.int _ _) q2) k
theorem qc{v:Value}{i:Int}(h:IsPart v (some i)):∃t,v=.int i t:=by cases h;exact⟨_,rfl⟩
theorem iJ{v:Value}(h:IsPart v none):v=.none:=by cases h;rfl
theorem mX{α:Type}{a:Option α}(h:aZ a=true):a=none:=by cases a with
 |none=>rfl|some _=>exact υ h
theorem Gc{a:Option Int}{n:Nat}(h:sg a=some n):a=some (n:Int):=by
 refine O h λi e h=>e.trans ?_
 cases i with
 |ofNat m=>exact θ (P:=λn:Nat=>some (Int.ofNat m)=some (n:Int)) h rfl|negSucc _=>exact ζ h
theorem yd{v:Value}{a:Option Int}{n:Nat}(h:sg a=some n)(p:IsPart v a):IsPart v (some (n:Int)):=Gc h▸p
theorem noP{v:Value}{a:Option Int}(h:aZ a=true)(p:IsPart v a):IsPart v none:=mX h▸p
section
variable{o m:XV}{vo vl vu vt:Value}{a b c:Option Int}{sl:Addr}{value slice:Expr}
theorem AY{h:Heap}{l:List XV}{vs:List Value}(v:Ξ W h l vs)(c:Nat.ble l.length 1000=true):vs.toArray.size<=sizeLine:=show vs.length<=_ from v.len▸Nat.le_trans (ble c) (sizeLine_eq▸by decide)
theorem aeJ{ms:List XV}{vs:List Value}(I:Inv W vol s)(v:Ξ W (vis vol s.heap) ms vs):ω W (vis vol (s.heap.push (dH vs))) (.tuple ms) (.ref s.heap.objs.size):=⟨_,vs,rfl,dA I rfl,v.mono (ba (bU _ _))⟩
theorem aas{ms:List XV}{vs:List Value}(I:Inv W vol s)(v:Ξ W (vis vol s.heap) ms vs):ω W (vis vol (s.heap.push (aI vs 0))) (.list ms) (.ref s.heap.objs.size):=⟨_,vs,0,rfl,dA I rfl,v.mono (ba (bU _ _))⟩
theorem Db(e:Iz o a=some m)(I:Inv W vol s)(ho:ω W (vis vol s.heap) o vo)(hl:IsPart vl a)(hs:s.heap.IsSliceOf sl vl .none .none):iR W A vol s value slice m vo (.ref sl):=by
  refine af e (λe=>π e λl n e1 e2 e=>Φ e λc=>cO (lq e1 ho) λi vs h2 h3 E Q k=>η c λc c3=>η c λc1 c2=>?_) λe=>π e λl n e1 e2 e=>Φ e λc=>bq (cX e1 ho) λi vs z h2 h3 E Q k=>?_
  · obtain⟨tl,rfl⟩:=qc (yd e2 hl)
    have eP:=(ι.mp h2).1
    exact dt PySem.F.slot_tuple_getitem.lookup ⟨_,eP,rfl⟩ (getItem_tuple_from (items:=vs.toArray) (a:=n) ⟨_,eP,rfl,0,rfl⟩ hs (ble c1) (show n<=vs.length from h3.len▸ble c2) (k _ _ (aeJ I (h3.drop n)) (Step.push s _)) (AY h3 c3))
  · have eP:=(ι.mp h2).1
    exact dt slot_list_getitem.lookup ⟨_,eP,rfl⟩ (wpAny_getItem_list_slice (aN eP) hs (yd e2 hl) .none .none (λz=>nomatch z) ((slicePick_from' vs.toArray n).symm▸k _ _ (aas I (h3.drop n)) (Step.push s _)) (AY h3 c))
theorem Dc{l:List UInt8}(p q:Nat):(l.drop (min p l.length)).take (min q l.length-min p l.length)=(l.drop p).take (q-p):=by
  rcases Nat.le_total p l.length with h1|h1
  · rw[Nat.min_eq_left h1]
    rcases Nat.le_total q l.length with h2|h2
    ·rw[Nat.min_eq_left h2]
    ·rw[Nat.min_eq_right h2,List.take_of_length_le (Nat.le_of_eq List.length_drop),List.take_of_length_le (List.length_drop▸Nat.sub_le_sub_right h2 _)]
  ·rw[Nat.min_eq_right h1,List.drop_eq_nil_of_le (Nat.le_refl _),List.drop_eq_nil_of_le h1,List.take_nil,List.take_nil]
theorem B1{l r:List UInt8}{u:Tok}(hl:IsPart vl a)(hu:IsPart vu b)(hs:s.heap.IsSliceOf sl vl vu .none)(hn:l.length<=sizeLine)(h:KBy.picked (bu l) a b=bu r){y:Bx}(hy:y.den W.S=r):iR W A vol s value slice (.bytes y) (.bytes (bu l) u) (.ref sl):=λE Q k=>dt PySem.W.FB.slot_bytes_getitem.lookup (typeIs_bytes _ _ _) (PySem.getItem_meets (typeIs_bytes _ _ _) (by decide) PySem.W.FB.slot_bytes_getitem PySem.W.FB.entry_bytes_getitem (PySem.W.FB.args_bytes_getitem_2 _ _) (KBc.meets_slice2 (bu l) u _ hl hu) ⟨hs,Nat.le_trans (KBc.size_picked_le _ _ _) hn,λt' tk=>k _ _ (qr ((congrArg bu hy).trans h.symm)) .tok⟩)
theorem Dd(e:IB o b=some m)(I:Inv W vol s)(ho:ω W (vis vol s.heap) o vo)(hu:IsPart vu b)(hs:s.heap.IsSliceOf sl .none vu .none):iR W A vol s value slice m vo (.ref sl):=by
  refine af e (λe=>π e λl n e1 e2 e=>Φ e λc=>bq (cX e1 ho) λi vs z h2 h3 E Q k=>?_) λe=>π e λx j e1 e2 e=>ξ e λc e=>η c λc d=>?_
  · refine χ (P:=λm=>iR W A vol s value slice m vo (.ref sl)) e λy e=>?_
    obtain⟨z,hz⟩:=vW (S:=W.S) e
    have g:=Nat.le_trans (Bx.len W.uN x) (ble c)
    cases e2
    cases eq_of_beq d
    refine eM e1 ho λu=>hz▸B1 .none hu hs (hz▸Nat.le_trans g (sizeLine_eq▸by decide)) ((KBc.picked_eq ..).trans (congrArg bu ?_)) rfl
    show((y.den W.S++[z]).drop 0).take (clipAt (bu (y.den W.S++[z])).size (-1)-0)=_
    rw[show(bu (y.den W.S++[z])).size=(y.den W.S).length+1 from List.length_append,show clipAt ((y.den W.S).length+1) (-1)=(y.den W.S).length from clipAt_neg _ 1 (Nat.le_add_left ..)]
    exact List.take_left
  · have eP:=(ι.mp h2).1
    exact dt slot_list_getitem.lookup ⟨_,eP,rfl⟩ (wpAny_getItem_list_slice (aN eP) hs .none (yd e2 hu) .none (λz=>nomatch z) ((slicePick_upto' vs.toArray n).symm▸k _ _ (aas I (h3.take n)) (Step.push s _)) (AY h3 c))
theorem Gd(e:aaq o a b=some m)(ho:ω W (vis vol s.heap) o vo)(hl:IsPart vl a)(hu:IsPart vu b)(hs:s.heap.IsSliceOf sl vl vu .none):iR W A vol s value slice m vo (.ref sl):=by
 refine π e λl p e1 e2 e=>Φ e λc=>B0 (P:=λvo=>iR W A vol s value slice _ vo (.ref sl)) e1 ho λu=>π e2 λi j e4 e3 e=>?_
 cases e
 refine B1 (yd e4 hl) (yd e3 hu) hs (Nat.le_trans (ble c) (sizeLine_eq▸by decide)) ((KBc.picked_eq ..).trans (congrArg bu ?_)) (List.append_nil _)
 show(l.drop (clipAt l.length i)).take (clipAt l.length j-clipAt l.length i)=_
 exact clipAt_nat l.length i▸clipAt_nat l.length j▸Dc i j
theorem De{n:Nat}{l:List Nat}(h2:2<=n)(e:xq l a n=some m)(hl:IsPart vl a)(ht:IsPart vt (some (n:Int)))(hs:s.heap.IsSliceOf sl vl .none vt){u:Tok}:iR W A vol s value slice m (.str (aD l) u) (.ref sl):=by
 refine Φ e λc E Q k=>?_
 obtain⟨tt,rfl⟩:=qc ht
 obtain⟨lo,aeK,aeL⟩:∃lo:Option (Int×Tok),vl=partValue lo/\lo.map (·.1)=a:=by cases hl with
  |none=>exact⟨none,rfl,rfl⟩|int i t=>exact⟨some (i,t),rfl,rfl⟩
 subst aeK aeL
 have uP:((n:Int)==1)=false:=beq_eq_false_iff_ne.mpr λz=>Nat.ne_of_gt h2 (Int.ofNat.inj z)
 have h0:((n:Int)==0)=false:=beq_eq_false_iff_ne.mpr λz=>Nat.not_le.mpr (Nat.lt_of_succ_lt h2) (Nat.le_of_eq (Int.ofNat.inj z))
 refine dt PySem.F.slot_str_getitem.lookup (typeIs_str _ _ _) (wpAny_getItem_str_slice (l:=lo) (u:=none) (st:=some ((n:Int),tt)) hs h0 ?_)
 have hm:sliceMade (aD l) u lo none (some ((n:Int),tt))=.str ⟨((slicePicked (aD l) lo none (some ((n:Int),tt))).filterMap ((aD l).cps[·]?)).toArray⟩:=if_neg λz=>Bool.noConfusion (uP.symm.trans (Bool.and_eq_true_iff.mp z).1)
 have hle:(⟨((slicePicked (aD l) lo none (some ((n:Int),tt))).filterMap ((aD l).cps[·]?)).toArray⟩:Str)=aD ((Builtin.Str.strSliceIndices (lo.map (·.1)) none n l.length).filterMap (gR l)):=congrArg (λf:Nat->Option Nat=>aD ((Builtin.Str.strSliceIndices (lo.map Prod.fst) none n l.length).filterMap f)) (funext λx=>List.getElem?_toArray:(λx=>(⟨l⟩:Array Nat)[x]?)=gR l)
 exact hm▸hle▸⟨Nat.le_trans (ble c) (sizeLine_eq▸by decide),k _ _ (jr (congrArg aD (List.append_nil _))) .tok⟩
theorem y6(e:BY o a b c=some m)(I:Inv W vol s)(ho:ω W (vis vol s.heap) o vo)(hl:IsPart vl a)(hu:IsPart vu b)(ht:IsPart vt c)(hs:s.heap.IsSliceOf sl vl vu vt):iR W A vol s value slice m vo (.ref sl):=by
  refine a9 e (λh e=>?_) λh e=>ξ e λg e=>π e λl n e1 e2 e=>ξ e λc e=>?_
  · cases iJ (noP h ht)
    refine a9 e (λh e=>?_) λ_ e=>a9 e (λh e=>?_) λ_ e=>Gd e ho hl hu hs
    · cases iJ (noP h hu)
      exact Db e I ho hl hs
    · cases iJ (noP h hl)
      exact Dd e I ho hu hs
  · cases iJ (noP g hu)
    exact lD (P:=λvo=>iR W A vol s value slice m vo (.ref sl)) e1 ho λu=>De (ble c) e hl (yd e2 ht) hs
end
theorem Df(ok:al W sv)(R:ψ A d){l u st:Option Expr}{p:Pos}{a b c:Option Int}(X:az W own vol cx ρ env s)(h1:i9 (sv.ev d cx ρ) l=some a)(h2:i9 (sv.ev d cx ρ) u=some b)(h3:i9 (sv.ev d cx ρ) st=some c)(E Q:Value->Shared->Prop)(k:∀sl s' vl vu vt,IsPart vl a->IsPart vu b->IsPart vt c->s'.heap.IsSliceOf sl vl vu vt->Step s s'->Q (.ref sl) s'):wpAny (Md W) A (eval (.Slice l u st p) env) Q E s:=arm_eval_Slice l u st p env▸wpAny_bind (kP ok R h1 X E _ λvl s1 p1 k1=>wpAny_bind (wpAny_holding (kP ok R h2 (X.step k1) E _ λvu s2 p2 k2=>wpAny_bind (wpAny_holding (kP ok R h3 ((X.step k1).step k2) E _ λvt s3 p3 k3=>wpAny_newObj_type (k _ _ vl vu vt p1 p2 p3 (Heap.IsSliceOf.new _ _ _ _) (((k1.trans k2).trans k3).trans (Step.push _ _))) (show 3<=sizeLine+2 from sizeLine_eq▸by decide))))))
theorem aeM(ok:al W sv)(R:ψ A d){value slice:Expr}{pos:Pos}{m:XV}(X:az W own vol cx ρ env s)(e:ID (sv.ev d cx ρ) value slice=some m):ο W A vol (eval (.Subscript value slice pos) env) m s:=by
  refine O e λo e1 e E Q k=>Subscript_ (ok.ev e1 X R E _ λvo s1 h1 k1=>db e (λ_ e=>O e λi e2 e=>?_) λp hp e=>π e λa q a1 e2 e=>?_)
  ·exact ok.ev e2 (X.step k1) R E _ λvi s2 h2 k2=>Gb e (h1.step k2) h2 E Q λv s3 h3 k3=>k v s3 h3 ((k1.trans k2).trans k3)
  · obtain⟨z,rfl⟩:=vY hp
    refine π e2 λb c b1 c1 e2=>?_
    cases e2
    exact Df ok R (X.step k1) a1 b1 c1 E _ λsl s2 vl vu vt p1 p2 p3 hs k2=>y6 e ((X.inv.step k1).step k2) (h1.step k2) p1 p2 p3 hs E Q λv s3 h3 k3=>k v s3 h3 ((k1.trans k2).trans k3)
end
section
open Builtin Builtin.ObjectAttr
noncomputable def iL{α:Type}:List (Nat×α)->Nat->Option α
 |[],_=>none|p::q,y=>bif Nat.beq p.1 y then some p.2 else iL q y
inductive uQ where|own|const(m:XV)|prop(f:Addr)(t:Option Mt)|μ(f:Addr)(t:Option Mt)
abbrev iZ:=List (Nat×List (Str×uQ))
def lF(T:iZ)(C:Addr)(x:Str):Option uQ:=(iL T C).bind λl=>lk l x
noncomputable def wD(a:XV):Bool:=a.casesOn true (λ_=>true) (λ_=>true) (λ_ _=>true) (λ_=>true) (λ_ _=>true) (λ_=>true) (λ_=>true) (λ_=>true) (λ_=>true) (λ_=>true) (λ_=>true) (λ_ _=>true) (λ_=>true) (λ_=>true) (λ_=>true) (λ_=>false) (λ_=>true) (λ_=>true) (λ_=>true) (λ_=>true) true
def gh(e:Expr):Bool:=e.casesOn (λ_ _ _=>false) (λ_ _ _=>false) (λ_ _ _ _=>false) (λ_ _ _=>false) (λ_ _ _ _=>false) (λ_ _ _ _=>false) (λ_ _ _=>false) (λ_ _ _=>false) (λ_ _ _ _=>false) (λ_ _ _ _=>false) (λ_ _ _ _ _=>false) (λ_ _ _ _=>false) (λ_ _=>false) (λ_ _=>false) (λ_ _=>false) (λ_ _ _ _=>false) (λf a k _=>Nat.beq f.ctorIdx 23&&(ak a&&ak k)) (λ_ _ _ _=>false) (λ_ _=>false) (λ_ _ _=>false) (λ_ _ _=>false) (λ_ _ _=>false) (λ_ _=>false) (λ_ _=>false) (λ_ _=>false) (λ_ _ _=>false) (λ_ _ _ _=>false)
noncomputable def gL(o:gp Jm):Option XV:=o.casesOn (λm=>some m.up) none none
noncomputable def kj(x:Str):Option (Mt×Bool):=bif Fast.sEq x (Str.ofString "type")then some (.t,true)else bif Fast.sEq x (Str.ofString "properties")then some (.p,true)else bif Fast.sEq x (Str.ofString "verify")then some (.v,false)else bif Fast.sEq x (Str.ofString "compile")then some (.c,false)else bif Fast.sEq x (Str.ofString "__str__")then some (.s,false)else bif Fast.sEq x (Str.ofString "__len__")then some (.l,false)else none
noncomputable def gN(a:XV):Option (Addr×List (Str×XV)):=a.casesOn none (λ_=>none) (λ_=>none) (λ_ _=>none) (λ_=>none) (λ_ _=>none) (λ_=>none) (λ_=>none) (λ_=>none) (λ_=>none) (λ_=>none) (λ_=>none) (λC fs=>some (C,fs)) (λ_=>none) (λ_=>none) (λ_=>none) (λ_=>none) (λ_=>none) (λ_=>none) (λ_=>none) (λ_=>none) none
noncomputable def kl(a:XV):Option Nd:=a.casesOn none (λ_=>none) (λ_=>none) (λ_ _=>none) (λ_=>none) (λ_ _=>none) (λ_=>none) (λ_=>none) (λ_=>none) (λ_=>none) (λ_=>none) (λ_=>none) (λ_ _=>none) some (λ_=>none) (λ_=>none) (λ_=>none) (λ_=>none) (λ_=>none) (λ_=>none) (λ_=>none) none
def plain(o:Option XV):Option XV:=o.bind λm=>bif wD m then some m else none
def AZ(T:iZ)(call:Nat->Addr->List XV->Option XV)(d:Nat)(o:XV)(x:Str):Option XV:=d.casesOn none λd=>((gN o).bind λp=>(lF T p.1 x).bind λk=>k.casesOn (plain (lk p.2 x)) (λm=>bif aZ (lk p.2 x)then plain (some m)else none) (λf _=>plain (call d f [o])) λ_ _=>none).or ((kl o).bind λβ=>(kj x).bind λq=>bif q.2&&Nat.ble β.d d then gL (β.of q.1)else none)
structure iB(W:aE)(C:Addr):Prop where
 ga:findIn W.K (.ref C) "__getattribute__"=some (some (.builtin "object.__getattribute__"))gt:findIn W.K (.ref C) "__getattr__"=some none
 cd:∃cd,clsIn W.K C=some cd/\cd.hasDict=true
inductive u7(W:aE)(C:Addr)(x:Str)(f:Addr):Prop|mk(p:Addr)(rest:List Value)(a1:findIn W.K (.ref C) x=some (some (.ref p)))(a2:specialIn W.K (.ref p) "__get__"=some (some (.builtin "property.__get__")))(a3:takesIn W.K (.ref p)=some true)(a4:recIn W.K p "property"=some (.ref f::rest)):u7 W C x f
def W2(W:aE)(C:Addr)(x:Str):uQ->Prop
 |.own=>findIn W.K (.ref C) x=some none|.const m=>∃a,findIn W.K (.ref C) x=some (some a)/\specialIn W.K a "__get__"=some none/\copiedNames.contains x=false/\(∀h:Heap,W.top.StaysIn h->ω W h m a)|.prop f t=>u7 W C x f/\∀t',t=some t'->W.μ C t'=some f|.μ f t=>findIn W.K (.ref C) x=some (some (.ref f))/\typeIn W.K (.ref f)=some (.type "function")/\∀t',t=some t'->W.μ C t'=some f
def Ge(W:aE)(T:iZ):Prop:=∀C wr,W.jD C=some wr->∀x m p,kj x=some (m,p)->∃f,W.μ C m=some f/\lF T C x=some (bif p then .prop f (some m)else .μ f (some m))
def oB(W:aE)(T:iZ):Prop:=(∀C x k,lF T C x=some k->iB W C/\W2 W C x k)/\Ge W T
section
variable{W:aE}{A:Around}{vol own:List Addr}{s:Shared}{d:Nat}{env:Env}{cx:Cx}{ρ:au}{sv:Sv}
theorem rz{h:Heap}{C:Addr}{fs:List (Str×XV)}{v:Value}:ω W h (.obj C fs) v↔∃a dx od τ,v=.ref a/\h.get? a=some (instObj C dx)/\h.get? dx=some od/\dc W.w.params od τ/\aY W h fs τ:=Iff.rfl
theorem aeu{h:Heap}{β:Nd}{v:Value}:ω W h (.node β) v↔∃a,v=.ref a/\ki W h a β:=Iff.rfl
theorem fo{h:Heap}{a C dx:Addr}{od:Obj}(h1:h.get? a=some (instObj C dx))(h2:h.get? dx=some od):InstAt h a (instObj C dx) C (some od):=⟨h1,rfl,rfl,h2⟩
@[elab_as_elim]theorem nh{vol:List Addr}{h:Heap}{C:Addr}{fs}{v:Value}{P:Value->Prop}(x:ω W (vis vol h) (.obj C fs) v)(k:∀a dx od τ,InstAt h a (instObj C dx) C (some od)->dc W.w.params od τ->aY W (vis vol h) fs τ->ω W (vis vol h) (.obj C fs) (.ref a)->P (.ref a)):P v:=x.elim λa=>Exists.rec λdx=>Exists.rec λod=>Exists.rec λτ y=>y.1▸k a dx od τ (fo (ι.mp y.2.1).1 (ι.mp y.2.2.1).1) y.2.2.2.1 y.2.2.2.2 ⟨a,dx,od,τ,rfl,y.2⟩
structure W3(W:aE)(h:Heap)(a:Addr)(β:Nd)(C dx:Addr)(od:Obj)(τ:List (Str×Value)):Prop where
 cls:W.jD C=some β.wr
 at_:InstAt h a (instObj C dx) C (some od)dict:dc W.w.params od τ
 does:∀m f,W.μ C m=some f->gB W h f a β.d (β.of m)/\(m=.v->gJ W h f a β.d β.v)
theorem wE{vol:List Addr}{h:Heap}:(vis vol h).StaysIn h:=λ_ _ e=>(ι.mp e).1
@[elab_as_elim]theorem rC{vol:List Addr}{h:Heap}{β:Nd}{v:Value}{P:Value->Prop}(x:ω W (vis vol h) (.node β) v)(k:∀a C dx od τ,W3 W h a β C dx od τ->P (.ref a)):P v:=x.elim λa y=>y.1▸(y.2.mono wE).rec λC dx od τ h0 h1 h2 h3 _ h5=>k a C dx od τ ⟨h0,fo h1 h2,h3,h5⟩
theorem e_{h:Heap}{a:XV}{v:Value}{p}(e:gN a=some p)(x:ω W h a v):ω W h (.obj p.1 p.2) v/\a=.obj p.1 p.2:=by cases a with
 |obj C fs=>exact θ (P:=λp=>ω W h (.obj p.1 p.2) v/\XV.obj C fs=.obj p.1 p.2) e ⟨x,rfl⟩|_=>exact ζ e
theorem ib{h:Heap}{a:XV}{v:Value}{p}(e:kl a=some p)(x:ω W h a v):ω W h (.node p) v:=by cases a with
 |node β=>exact θ e x|_=>exact ζ e
theorem handed{h:Heap}{m:XV}{v:Value}:ω W h m v->wD m=true->handedIn v=true:=by cases m with
 |bi n=>exact λ_=>υ|none=>exact λx _=>nE.mp x▸rfl|bool b=>exact λx _=>nF.mp x▸rfl|addr a=>exact λx _=>(show v=.ref a from x)▸rfl|ty n=>exact λx _=>(show v=.type n.name from x)▸rfl|dD l=>exact λx _=>rx x λ_ _ _=>rfl|ip u=>exact λx _=>x.2|node β=>exact λx _=>x.elim λ_ y=>y.1▸rfl|tuple l=>exact λx _=>x.elim λ_=>Exists.rec λ_ y=>y.1▸rfl|dict l=>exact λx _=>x.elim λ_=>Exists.rec λ_=>Exists.rec λ_ y=>y.1▸rfl|list l=>exact λx _=>x.elim λ_=>Exists.rec λ_=>Exists.rec λ_ y=>y.1▸rfl|mz=>exact λx _=>x.elim λ_=>Exists.rec λ_=>Exists.rec λ_ y=>y.1▸rfl|obj C fs=>exact λx _=>x.elim λ_=>Exists.rec λ_=>Exists.rec λ_=>Exists.rec λ_ y=>y.1▸rfl|heads i=>exact λx _=>x.elim λ_=>Exists.rec λ_=>Exists.rec λ_=>Exists.rec λ_ y=>y.1▸rfl|Q7 n=>exact λx _=>x.elim λ_=>Exists.rec λ_=>Exists.rec λ_=>Exists.rec λ_ y=>y.1▸rfl|_=>exact λx _=>x.elim λ_ e=>e▸rfl
abbrev eN(l:List (Str×Value))(x:Str):Option Value:=lk l x
def qw(W:aE)(h:Heap)(m:Option XV)(v:Option Value):Prop:=m.elim (v=none) λm=>∃u,v=some u/\ω W h m u
theorem tb{h:Heap}{x:Str}{fs:List (Str×XV)}:∀{τ:List (Str×Value)},aY W h fs τ->qw W h (lk fs x) (eN τ x):=by induction fs with
 |nil=>exact λF=>(show _=[]from F)▸rfl|cons p q ih=>
  intro τ F
  obtain⟨v,es,rfl,f1,f2⟩:=F
  show qw W h (bif Fast.sEq p.1 x then some p.2 else lk q x) (bif Fast.sEq p.1 x then some v else lk es x)
  cases Fast.sEq p.1 x with
  |true=>exact⟨v,rfl,f1⟩|false=>exact ih f2
theorem gr{h:Heap}{x:Str}{fs:List (Str×XV)}{τ:List (Str×Value)}{m:XV}(F:aY W h fs τ)(e:lk fs x=some m):∃v,eN τ x=some v/\ω W h m v:=a8 (C:=λo=>qw W h o (eN τ x)) e.symm (tb F)
theorem gu{h:Heap}{x:Str}{fs:List (Str×XV)}{τ:List (Str×Value)}(F:aY W h fs τ)(e:lk fs x=none):eN τ x=none:=a8 (C:=λo=>qw W h o (eN τ x)) e.symm (tb F)
theorem lookIn_dict{P:Params}{o:Obj}{τ:List (Str×Value)}(D:dc P o τ)(x:Str):lookIn x o=some (eN τ x):=by
 obtain⟨_,es,n,hd,hE⟩:=D
 have key:∀(l:List DictEntry)(τ:List (Str×Value)),dq P l τ->l.any (·.refKey)=false/\(l.find? (·.key.isStr x)).map (·.val)=eN τ x:=by
  intro l
  induction l with
  |nil=>
   intro τ h
   cases τ with
   |nil=>exact⟨rfl,rfl⟩|cons _ _=>exact h.elim
  |cons e l ih=>
   intro τ h
   cases τ with
   |nil=>exact h.elim|cons p ps=>
    obtain⟨eh,ek,ev⟩:=e
    obtain⟨⟨_,⟨t,rfl⟩,rfl⟩,hr⟩:=h
    obtain⟨i1,i2⟩:=ih ps hr
    refine⟨i1,?_⟩
    show Option.map (·.val) (match p.1==x with|true=>some _|false=>l.find? (·.key.isStr x))=bif Fast.sEq p.1 x then some p.2 else lk ps x
    cases h:Fast.sEq p.1 x with
    |true=>exact(beq_iff_eq.mpr (Fast.sEq_iff.mp h)).symm▸rfl|false=>exact(qu h).symm▸i2
 obtain⟨k1,k2⟩:=key es.toList τ hE
 unfold lookIn
 rw[hd,<-k2]
 dsimp only
 cases es.toList.find? (·.key.isStr x)with
 |some e=>rfl|none=>exact(if_neg (k1▸Bool.false_ne_true))
theorem Gf{K:Frag}{C:Addr}{od:Obj}{nm:Str}{v:Value}(c:∃cd,clsIn K C=some cd/\cd.hasDict=true)(f:findIn K (.ref C) nm=some none)(l:lookIn nm od=some (some v)):findObj K C (some od) nm=some (.value v):=by
 obtain⟨cd,c1,c2⟩:=c
 have o:PySem.W.ownOf cd (some od) nm=some (some v):=(if_pos c2).trans l
 delta findObj;simp only[c1,f,o,Option.bind_some]
theorem y7{K:Frag}{C:Addr}{od:Obj}{nm:Str}{a:Value}(c:∃cd,clsIn K C=some cd/\cd.hasDict=true)(f:findIn K (.ref C) nm=some (some a))(g:specialIn K a "__get__"=some none)(n:copiedNames.contains nm=false)(l:lookIn nm od=some none)(hh:handedIn a=true):findObj K C (some od) nm=some (.value a):=by
 obtain⟨cd,c1,c2⟩:=c
 have o:PySem.W.ownOf cd (some od) nm=some none:=(if_pos c2).trans l
 delta findObj;simp only[c1,f,g,o,n,hh,Option.bind_some,Bool.false_and,Bool.false_eq_true,if_false,if_true]
theorem Dg{K:Frag}{C p:Addr}{od:Option Obj}{nm:Str}{g:Value}(c:∃cd,clsIn K C=some cd/\cd.hasDict=true)(f:findIn K (.ref C) nm=some (some (.ref p)))(h:specialIn K (.ref p) "__get__"=some (some g))(t:takesIn K (.ref p)=some true):findObj K C od nm=some (.bind g (.ref p)):=by
 obtain⟨cd,c1,c2⟩:=c
 delta findObj;simp only[c1,f,h,t,Option.bind_some]
theorem xt{C a dx:Addr}{od:Obj}{nm:Str}{f:Addr}{m:XV}(I:Inv W vol s)(IA:InstAt s.heap a (instObj C dx) C (some od))(CF:iB W C)(P:u7 W C nm f)(nb:wD m=true)(h:aM W A.in1 vol (.call (.ref f) ⟨[.ref a],[]⟩) m {s with toks:=s.toks+1}):ο W A vol (getAttr (.ref a) nm true) m s:=by
 obtain⟨p,rest,a1,a2,a3,a4⟩:=P
 refine λE Q k=>get_bind (g:=.builtin "property.__get__") (a:=.ref p) I.k IA CF.ga (Dg CF.cd a1 a2 a3) CF.gt (wpAny_call (prop_get (x:=a) (tp:=.ref C) (I.step (s':={s with toks:=s.toks+1}) .tok).k a4 (h _ λv s' z1 z2=>?_)))
 exact wpAny_of_eq (handedOut_of (handed z1 nb)) (k _ _ z1 (Step.trans .tok z2))
theorem Dh{T:iZ}(TO:oB W T)(ok:al W sv)(I:Inv W vol s)(R:ψ A d){o:XV}{vo:Value}{nm:Str}{m:XV}(e:AZ T (λd f a=>sv.call d f a []) d o nm=some m)(ho:ω W (vis vol s.heap) o vo):ο W A vol (getAttr vo nm true) m s:=by cases d with
|zero=>exact ζ e|succ d=>
  refine af e (λe=>O e λp e1 e=>O e λk q e=>?_) λe=>O e λβ e1 e=>O e λq e2 e=>ξ e λc e=>η c λc1 c2=>?_
  · obtain⟨ho',rfl⟩:=e_ e1 ho
    obtain⟨CF,AF⟩:=TO.1 _ _ _ q
    refine nh ho' λa dx od τ IA D F V=>?_
    cases k with
|own=>exact O e λm' e1 e=>Φ e λnb E Q k=>(gr F e1).elim λv w=>get_value I.k IA CF.ga (Gf CF.cd AF ((lookIn_dict D nm).trans (congrArg some w.1))) (handed w.2 nb) (k _ _ w.2 .tok)|const m0=>
      obtain⟨va,a1,a2,a3,a4⟩:=AF
      exact ξ e λh0 e=>Φ (show(bif wD m0 then some m0 else none)=some m from e) λnb E Q k=>have v2:=a4 (vis vol s.heap) I.top
get_value I.k IA CF.ga (y7 CF.cd a1 a2 a3 ((lookIn_dict D nm).trans (congrArg some (gu F (mX h0)))) (handed v2 nb)) (handed v2 nb) (k _ _ v2 .tok)|prop f t=>exact O e λm' e1 e=>Φ e λnb=>xt I IA CF AF.1 nb (ok.call (vol:=vol) e1 (I.step .tok) R.in1 (Δ V aC) rfl)|μ f t=>exact ζ e
  · refine rC (ib e1 ho) λa C dx od τ N=>?_
    obtain⟨t,p⟩:=q
    cases p with
|false=>exact υ c1|true=>
    obtain⟨f,q1,q⟩:=TO.2 _ _ N.cls _ _ _ e2
    obtain⟨CF,AF⟩:=TO.1 _ _ _ q
    have hd:=(N.does t f q1).1
    cases hm:β.of t with
|ok m'=>exact θ (a8 (C:=λo=>gL o=some m) hm.symm e) (xt I N.at_ CF AF.1 (by cases m'<;>rfl) λR' k=>a8 (C:=λo=>gB W s.heap f a β.d o) hm.symm hd A.in1 _ R' (R.in1.le (ble c2)) (cw _) (I.nil.step .tok) λv s' z1 z2=>k v s' z1.up z2)|exc=>exact ζ (a8 (C:=λo=>gL o=some m) hm.symm e)|stuck=>exact ζ (a8 (C:=λo=>gL o=some m) hm.symm e)
theorem gv{o:Expr}{attr:Str}{whole:Sem Value}:gh o=false->attributeBase o attr env whole=whole:=by cases o with
 |Call f a k p=>cases f with
  |Name i q=>cases a with
   |nil=>cases k with
    |nil=>exact cq|cons _ _=>exact λ_=>rfl
   |cons _ _=>exact λ_=>rfl
  |_=>exact λ_=>rfl
 |_=>exact λ_=>rfl
theorem acP{T:iZ}(TO:oB W T)(ok:al W sv)(R:ψ A d){value:Expr}{x:Str}{pos:Pos}{o m:XV}(X:az W own vol cx ρ env s)(h0:gh value=false)(e1:sv.ev d cx ρ value=some o)(e2:AZ T (λd f a=>sv.call d f a []) d o x=some m):ο W A vol (eval (.Attribute value x pos) env) m s:=λE Q k=>arm_eval_Attribute value x pos env▸gv (env:=env) (attr:=x) h0▸wpAny_bind (ok.ev e1 X R E _ λvo s1 h1 k1=>wpAny_bind (wpAny_standAt (wpAny_bind (wpAny_holding (Dh TO ok (X.inv.step k1) R e2 h1 E _ λv s2 h2 k2=>wpAny_bind (wpAny_letTemporaryGo (wpAny_pure (k v s2 h2 (k1.trans k2)))))))))
end
end
noncomputable def bF(f:Expr->Option XV):List Expr->Option (List XV)
 |[]=>some []|e::r=>(i7 e).elim (pG (f e) (bF f r)) λy=>two ((f y).bind qN) (bF f r) λl q=>bif Nat.ble l.length 1000 then some (l++q)else none
noncomputable def sL(f:Expr->Option XV):List Keyword->Option (List (Str×XV))
 |[]=>some []|k::r=>two (two k.arg (f k.value) λx v=>some (x,v)) (sL f r) λp l=>some (p::l)
def bk(es:List Expr):Bool:=es.casesOn false λe r=>ak r&&eZ e
section
variable{W:aE}{A:Around}{vol own:List Addr}{s:Shared}{d:Nat}{env:Env}{cx:Cx}{ρ:au}{sv:Sv}
theorem el{h:Heap}{a b:List XV}:∀{x y:List Value},Ξ W h a x->Ξ W h b y->Ξ W h (a++b) (x++y):=by induction a with
 |nil=>exact λp q=>bz p q|cons m a ih=>exact λp q=>am p λv vs p1 p2=>Δ p1 (ih p2 q)
theorem y8{a:Addr}{vs:List Value}{n:Nat}{E:Value->Shared->Prop}{Q:List Value->Shared->Prop}(h:s.heap.get? a=some (aI vs n))(hz:vs.length<=1000)(k:∀h',s.heap.StaysIn h'->Q vs {s with heap:=h'}):StarOf (Md W) A E (.ref a) Q s:=wpAny_bind (wpAny_specialOf ⟨_,h,rfl⟩ PySem.F.slot_list_iter.lookup (wpAny_pure ⟨rfl,wpAny_collect_seq (T:="list") a (.inl rfl) h rfl rfl (λh' hk=>k h' hk) (show vs.length<=sizeLine from sizeLine_eq▸Nat.le_trans hz (by decide))⟩))
theorem kR(ok:al W sv){pos:Pos}(R:ψ A d){es:List Expr}:∀{ms:List XV}{s:Shared},bF (sv.ev d cx ρ) es=some ms->az W own vol cx ρ env s->xn W A vol (spliced (backTo pos (starEach es env))) ms s:=by induction es with
|nil=>exact λe X=>θ e λE Q k=>wpAny_items_nil (k _ _ aC (.refl _))|cons x r ih=>
    refine λ{ms s}e X=>db e (λh e=>π e λm l e1 e2 e=>?_) λy h e=>π e λl q e1 e2 e4=>O e1 λm e1 e3=>?_
    ·exact θ e λE Q k=>wpAny_items_cons (ok.ev e1 X R E _ λv s1 h1 k1=>ih e2 (X.step k1) E _ λvs s2 h2 k2=>k _ _ (Δ (h1.step k2) h2) (k1.trans k2)) (il h)
    · obtain⟨p,rfl⟩:=kN h
      refine Φ e4 λc E Q k=>items_star (ok.ev e1 X R E _ λv s1 h1 k1=>bq (cX e3 h1) λa vs n h2 h3=>y8 (ι.mp h2).1 (h3.len▸ble c) λh' hk=>?_)
      have k2:Step s1 {s1 with heap:=h'}:=⟨hk,rfl,rfl⟩
      exact ih e2 ((X.step k1).step k2) E _ λws s3 h4 k3=>k _ _ (el ((h3.step k2).step k3) h4) ((k1.trans k2).trans k3)
theorem aL{h:Heap}:aY W h [] []:=rfl
theorem cy{h:Heap}{x:Str}{m:XV}{ms:List (Str×XV)}{v:Value}{vs:List (Str×Value)}(a:ω W h m v)(b:aY W h ms vs):aY W h ((x,m)::ms) ((x,v)::vs):=⟨v,vs,rfl,a,b⟩
theorem aY.step{vol:List Addr}{s s':Shared}{m:List (Str×XV)}{v:List (Str×Value)}(x:aY W (vis vol s.heap) m v)(k:Step s s'):aY W (vis vol s'.heap) m v:=x.mono (ba k.keep)
theorem dB(ok:al W sv){pos:Pos}(R:ψ A d){kws:List Keyword}:∀{ms:List (Str×XV)}{s:Shared},sL (sv.ev d cx ρ) kws=some ms->az W own vol cx ρ env s->(backToKw pos (keywordEach kws env)).all (·.1.isSome)=true/\∀(E:Value->Shared->Prop)(Q:List Value->Shared->Prop),(∀vs s',aY W (vis vol s'.heap) ms (((backToKw pos (keywordEach kws env)).filterMap (·.1)).zip vs)->Step s s'->Q vs s')->wpAny (Md W) A (evalAll ((backToKw pos (keywordEach kws env)).map (·.2))) Q E s:=by induction kws with
 |nil=>exact λe X=>θ e ⟨rfl,λE Q k=>wpAny_evalAll_nil (k _ _ aL (.refl _))⟩|cons kw r ih=>
  intro ms s e X
  obtain⟨n,x,p⟩:=kw
  refine π e λq l e1 e2 e=>π e1 λn' m h e5 e3=>?_
  cases show n=some n' from h
  cases e3
  cases e
  exact⟨(ih e2 X).1,λE Q k=>wpAny_evalAll_cons (x:=do let v<-eval x env;standAt pos;pure v) (wpAny_bind (ok.ev e5 X R E _ λv s1 h1 k1=>wpAny_bind (wpAny_standAt (wpAny_pure ((ih e2 (X.step k1)).2 E _ λvs s2 h2 k2=>k _ _ (cy (h1.step k2) h2) (k1.trans k2))))))⟩
abbrev Kept(W:aE)(h:Heap)(f:Value):Prop:=∃k,(k=Keeper.frame\/k=Keeper.machine)/\Looks (Md W) h (keeperOf f) k
theorem callEnd{t:Sem Value}{E Q:Value->Shared->Prop}(h:wpAny (Md W) A t Q E s):wpAny (Md W) A (t>>=λr=>holding [r] point>>=λ_=>pure r) Q E s:=wpAny_bind (wpAny_mono h (λr RC hr=>wpAny_bind (wpAny_holding (wpAny_point (wpAny_pure hr)))) λ_ _ x=>x)
theorem B2{mk f:Value}{vs:List Value}{kw:List (Str×Value)}{E Q:Value->Shared->Prop}(h:wpAny (Md W) A (call f vs kw) Q E s):wpAny (Md W) A (callMarked mk f vs kw) Q E s:=Calls.wpAny_keep h
theorem y9{f:Value}{args:List (Bool×Sem Value)}{keywords:List (Option Str×Sem Value)}(hl:∀x,args≠[(true,x)])(Ai:keywords.all (·.1.isSome)=true){E:Value->Shared->Prop}{Q:Args->Shared->Prop}(h:wpAny (Md W) A (spliced args) (λvs s1=>wpAny (Md W) A (evalAll (keywords.map (·.2))) (λks s2=>Q ⟨vs,(keywords.filterMap (·.1)).zip ks⟩ s2) E s1) E s):wpAny (Md W) A (evalArgs f true args keywords) Q E s:=by
 have e:evalArgs f true args keywords=spliced args>>=λvs=>holding (vs++[]) (if keywords.all (·.1.isSome)=true then evalAll (keywords.map (·.2))>>=λks=>pure (⟨vs,(keywords.filterMap (·.1)).zip ks⟩:Args)else mergedKeywords f keywords>>=λd=>holding (.ref d::vs) (keywordsIn f d)>>=λk=>pure (⟨vs,k⟩:Args)):=by match args,hl with
  |[],_=>rfl|(false,x)::r,_=>rfl|[(true,x)],hl=>exact absurd rfl (hl x)|(true,x)::q::r,_=>rfl
 exact e▸wpAny_bind (wpAny_mono h (λvs s1 h1=>wpAny_holding (if_pos Ai▸wpAny_bind (wpAny_mono h1 (λks s2 h2=>wpAny_pure h2) λ_ _ x=>x))) λ_ _ x=>x)
theorem wF{f:Value}{first:List Value}{args:List (Bool×Sem Value)}{keywords:List (Option Str×Sem Value)}{pos:Pos}{E Q:Value->Shared->Prop}(hl:∀x,args≠[(true,x)])(Ai:keywords.all (·.1.isSome)=true)(h:wpAny (Md W) A (spliced args) (λvs s1=>wpAny (Md W) A (evalAll (keywords.map (·.2))) (λks s2=>Kept W s2.heap f/\wpAny (Md W) A (call f (first++vs) ((keywords.filterMap (·.1)).zip ks)) Q E s2) E s1) E s):wpAny (Md W) A (callWith pos f first args keywords) Q E s:=by
 refine wpAny_bind (wpAny_holding (y9 hl Ai (wpAny_mono h (λvs s1 h=>wpAny_mono h (λks s2 h=>wpAny_bind (wpAny_standAt (h.1.elim λk g=>wpAny_bind (g.2.here ?_)))) λ_ _ x=>x) λ_ _ x=>x)))
 have h2:=h.2
 rcases g.1 with rfl|rfl
 ·cases(args.any (·.1)||keywords.any (·.1.isNone))with
  |true=>exact callEnd (B2 h2)|false=>exact wpAny_ite (c:=args.length+2*keywords.length>30) (Iq (λ_=>callEnd h2) λ_=>callEnd (B2 h2))
 ·cases(args.any (·.1)||keywords.any (·.1.isNone))with
  |true=>exact callEnd (wpAny_operating h2)|false=>exact callEnd h2
theorem jf{f:Addr}{h:Heap}(X:W.K.In h)(hk:keepIn W.K (.ref f)=true):Kept W h (.ref f):=looks_keep hk X
theorem qd{n:String}{h:Heap}:Kept W h (.builtin n):=⟨.machine,.inr rfl,Looks.of_pure rfl⟩
theorem kS{n:String}{h:Heap}:Kept W h (.type n):=⟨.machine,.inr rfl,Looks.of_pure rfl⟩
theorem jQ{e:Expr}{r:List Expr}:∃t,starEach (e::r) env=((i7 e).isSome,t)::starEach r env:=by cases h:i7 e with
 |none=>exact⟨eval e env,il h⟩|some y=>exact(kN h).elim λp z=>z▸⟨_,rfl⟩
theorem l9{pos:Pos}{es:List Expr}(h:bk es=false)(x:Sem Value):backTo pos (starEach es env)≠[(true,x)]:=by
 intro q
 cases es with
 |nil=>exact nomatch q|cons e r=>
  obtain⟨t,h1⟩:=jQ (e:=e) (r:=r) (env:=env)
  cases r with
  |nil=>exact Bool.noConfusion (((congrArg (λl=>(l.head?.map Prod.fst).getD false) (h1▸q)).symm.trans h:true=false))|cons e2 r=>
   obtain⟨t2,h2⟩:=jQ (e:=e2) (r:=r) (env:=env)
   exact Nat.noConfusion (Nat.succ.inj (congrArg List.length (h2▸h1▸q:backTo pos ((eZ e,t)::(eZ e2,t2)::starEach r env)=[(true,x)])))
theorem site(ok:al W sv)(R:ψ A d){f:Value}{first:List Value}{es:List Expr}{kws:List Keyword}{pos:Pos}{ms:List XV}{ks:List (Str×XV)}{m:XV}(X:az W own vol cx ρ env s)(hl:bk es=false)(e1:bF (sv.ev d cx ρ) es=some ms)(e2:sL (sv.ev d cx ρ) kws=some ks)(hk:∀s',Step s s'->Kept W s'.heap f)(h:∀s' vs kv,Step s s'->Ξ W (vis vol s'.heap) ms vs->aY W (vis vol s'.heap) ks kv->ο W A vol (call f (first++vs) kv) m s'):ο W A vol (callWith pos f first (backTo pos (starEach es env)) (backToKw pos (keywordEach kws env))) m s:=λE Q k=>wF (l9 hl) (dB (pos:=pos) ok R e2 X).1 (kR ok R e1 X E _ λvs s1 h1 k1=>(dB ok R e2 (X.step k1)).2 E _ λkv s2 h2 k2=>⟨hk s2 (k1.trans k2),h s2 _ _ (k1.trans k2) (h1.step k2) h2 E Q λv s' a b=>k v s' a ((k1.trans k2).trans b)⟩)
end
structure Bi where
 mb:XV->Str->List XV->Option XV
 bc:Nat->Bk->List XV->Option XV
 tc:Nat->Tk->List XV->Option XV
noncomputable def fp:List Expr->Bool
 |[]=>true|e::r=>!eZ e&&fp r
noncomputable def gb(a:XV):Option Addr:=a.casesOn none (λ_=>none) (λ_=>none) (λ_ _=>none) (λ_=>none) (λ_ _=>none) (λ_=>none) (λ_=>none) (λ_=>none) (λ_=>none) (λ_=>none) (λ_=>none) (λ_ _=>none) (λ_=>none) some (λ_=>none) (λ_=>none) (λ_=>none) (λ_=>none) (λ_=>none) (λ_=>none) none
noncomputable def aat(a:XV):Option Bk:=a.casesOn none (λ_=>none) (λ_=>none) (λ_ _=>none) (λ_=>none) (λ_ _=>none) (λ_=>none) (λ_=>none) (λ_=>none) (λ_=>none) (λ_=>none) (λ_=>none) (λ_ _=>none) (λ_=>none) (λ_=>none) (λ_=>none) some (λ_=>none) (λ_=>none) (λ_=>none) (λ_=>none) none
noncomputable def Aj(a:XV):Option Tk:=a.casesOn none (λ_=>none) (λ_=>none) (λ_ _=>none) (λ_=>none) (λ_ _=>none) (λ_=>none) (λ_=>none) (λ_=>none) (λ_=>none) (λ_=>none) (λ_=>none) (λ_ _=>none) (λ_=>none) (λ_=>none) some (λ_=>none) (λ_=>none) (λ_=>none) (λ_=>none) (λ_=>none) none
def u8(keep:List Nat)(bi:Bi)(call:Nat->Addr->List XV->List (Str×XV)->Option XV)(d:Nat)(f:XV)(ms:List XV)(ks:List (Str×XV)):Option XV:=d.casesOn none λd=>((gb f).bind λa=>bif cr a keep then call d a ms ks else none).or (bif ak ks then((aat f).bind λk=>bi.bc d k ms).or ((Aj f).bind λk=>bi.tc d k ms)else none)
def IF(T:iZ)(bi:Bi)(call:Nat->Addr->List XV->Option XV)(d:Nat)(o:XV)(x:Str)(ms:List XV):Option XV:=(Nat.casesOn (motive:=λ_=>Option XV) d none λd=>((gN o).bind λp=>(lF T p.1 x).bind λk=>k.casesOn none (λ_=>none) (λ_ _=>none) λf _=>bif aZ (lk p.2 x)then call d f (o::ms)else none).or ((kl o).bind λβ=>bif ak ms then(kj x).bind λq=>bif !q.2&&(Nat.ble β.d d&&!(Fast.sEq (Str.ofString "args") x||(Fast.sEq (Str.ofString "taproot") x||false)))then gL (β.of q.1)else none else none)).or (bi.mb o x ms)
section
variable{W:aE}{A:Around}{vol own:List Addr}{s:Shared}{d:Nat}{env:Env}{cx:Cx}{ρ:au}{sv:Sv}
structure E8(W:aE)(bi:Bi):Prop where
 mb:∀{o x ms m},bi.mb o x ms=some m->∀{A vol s vo d},Inv W vol s->ψ A d->ω W (vis vol s.heap) o vo->∃id,(∀(pl:Sem Bool)(E:Value->Shared->Prop)(Q:Value×List Value->Shared->Prop),Q (.builtin id,[vo]) s->wpAny (Md W) A (getMethod vo x pl) Q E s)/\∀s' vs,Step s s'->Ξ W (vis vol s'.heap) ms vs->ο W A vol (call (.builtin id) (vo::vs) []) m s'
 bc:∀{d k ms m},bi.bc d k ms=some m->∀{A vol s vs},Inv W vol s->ψ A (d+1)->Ξ W (vis vol s.heap) ms vs->ο W A vol (call (.builtin k.name) vs []) m s
 tc:∀{d k ms m},bi.tc d k ms=some m->∀{A vol s vs},Inv W vol s->ψ A (d+1)->Ξ W (vis vol s.heap) ms vs->ο W A vol (call (.type k.name) vs []) m s
def u9(W:aE)(keep:List Nat):Prop:=∀a,cr a keep=true->keepIn W.K (.ref a)=true
theorem fR{h:Heap}{a:XV}{v:Value}{i}(e:gb a=some i)(x:ω W h a v):v=.ref i:=by cases a with
 |addr j=>exact θ (P:=λi=>v=.ref i) e x|_=>exact ζ e
theorem W4{h:Heap}{a:XV}{v:Value}{i}(e:aat a=some i)(x:ω W h a v):v=.builtin i.name:=by cases a with
 |bi j=>exact θ (P:=λi=>v=.builtin i.name) e (show v=.builtin j.name from x)|_=>exact ζ e
theorem W5{h:Heap}{a:XV}{v:Value}{i}(e:Aj a=some i)(x:ω W h a v):v=.type i.name:=by cases a with
 |ty j=>exact θ (P:=λi=>v=.type i.name) e (show v=.type j.name from x)|_=>exact ζ e
def Callee(W:aE)(A:Around)(vol:List Addr)(ms:List XV)(ks:List (Str×XV))(m:XV)(vf:Value):Prop:=(∀h,W.K.In h->Kept W h vf)/\∀{s vs kv},Inv W vol s->Ξ W (vis vol s.heap) ms vs->aY W (vis vol s.heap) ks kv->ο W A vol (call vf vs kv) m s
theorem Di{keep:List Nat}{bi:Bi}(KO:u9 W keep)(BO:E8 W bi)(ok:al W sv)(R:ψ A d){f:XV}{vf:Value}{ms:List XV}{ks:List (Str×XV)}{m:XV}(e:u8 keep bi sv.call d f ms ks=some m){h:Heap}(hf:ω W h f vf):Callee W A vol ms ks m vf:=by cases d with
 |zero=>exact ζ e|succ d=>
 refine af e (λe=>O e λa e1 e=>ξ e λq e=>fR e1 hf▸?_) λe=>ξ e λc e=>nil_of c▸af e (λe=>O e λk e1 e=>W4 e1 hf▸?_) λe=>O e λk e1 e=>W5 e1 hf▸?_
 ·exact⟨λh X=>jf X (KO _ q),λI hv hk=>(ok.call e I (R.le (Nat.le_succ _)) hv hk).call⟩
 ·exact⟨λh X=>qd,λI hv hk=>(show _=[]from hk)▸BO.bc e I R hv⟩
 ·exact⟨λh X=>kS,λI hv hk=>(show _=[]from hk)▸BO.tc e I R hv⟩
theorem y_{keep:List Nat}{bi:Bi}(KO:u9 W keep)(BO:E8 W bi)(ok:al W sv)(R:ψ A d){n:Str}{p pos:Pos}{es:List Expr}{kws:List Keyword}{f m:XV}{ms:List XV}{ks:List (Str×XV)}(X:az W own vol cx ρ env s)(h0:bk es=false)(e0:sv.ev d cx ρ (.Name n p)=some f)(e1:bF (sv.ev d cx ρ) es=some ms)(e2:sL (sv.ev d cx ρ) kws=some ks)(e3:u8 keep bi sv.call d f ms ks=some m):ο W A vol (eval (.Call (.Name n p) es kws pos) env) m s:=λE Q k=>by
 rw[arm_eval_Call_Name']
 refine wpAny_bind (ok.ev e0 X R E _ λvf s1 h1 k1=>?_)
 have C:=Di (A:=A) (vol:=vol) KO BO ok R e3 h1
 exact site (first:=[]) ok R (X.step k1) h0 e1 e2 (λs' k2=>C.1 _ ((X.step k1).step k2).inv.k) (λs' vs kv k2 hv hk=>C.2 ((X.step k1).step k2).inv hv hk) E Q λv s' a b=>k v s' a (k1.trans b)
theorem nZ{pos:Pos}{es:List Expr}(h:fp es=true):(backTo pos (starEach es env)).all (λx=>!x.1)=true:=by induction es with
 |nil=>rfl|cons e r ih=>
  obtain⟨t,h1⟩:=jQ (e:=e) (r:=r) (env:=env)
  exact h1▸η h λa b=>Bool.and_eq_true_iff.mpr ⟨a,ih b⟩
theorem lT{es:List Expr}(h:fp es=true):bk es=false:=by cases es with
 |nil=>rfl|cons e r=>exact η h λa _=>Bool.and_eq_false_iff.mpr (.inr (aP a))
theorem aeD{es:List Expr}:(starEach es env).length=es.length:=by induction es with
 |nil=>rfl|cons e r ih=>
  obtain⟨t,h1⟩:=jQ (e:=e) (r:=r) (env:=env)
  exact h1▸congrArg Nat.succ ih
theorem IG{α:Type}{x:Str}{l:List (Str×α)}:∀{ns:List Str},l.map (·.1)=ns->ns.any (Fast.sEq · x)=false->lk l x=none:=by induction l with
 |nil=>exact λ_ _=>rfl|cons p q ih=>
  intro ns e h
  cases e
  obtain⟨a,b⟩:=Bool.or_eq_false_iff.mp h
  exact a8 (C:=λc=>(bif c then some p.2 else lk q x)=none) a (ih rfl b)
theorem Gg{T:iZ}{bi:Bi}(TO:oB W T)(BO:E8 W bi)(FO:∀C x f t,lF T C x=some (.μ f t)->keepIn W.K (.ref f)=true)(ok:al W sv)(R:ψ A d){o:Expr}{n:Str}{j_ pos:Pos}{es:List Expr}{ov m:XV}{ms:List XV}(X:az W own vol cx ρ env s)(h0:gh o=false)(h1:fp es=true)(h2:Nat.blt es.length 20=true)(h3:Nat.beq j_.endLine pos.line=true)(e0:sv.ev d cx ρ o=some ov)(e1:bF (sv.ev d cx ρ) es=some ms)(e2:IF T bi (λd f a=>sv.call d f a []) d ov n ms=some m):ο W A vol (eval (.Call (.Attribute o n j_) es [] pos) env) m s:=λE Q k=>by
  have he:eval (.Call (.Attribute o n j_) es [] pos) env=(do
    let ov<-attributeBase o n env (eval o env)standAt j_.atName
    methodCall o n j_ pos env ov (es.length+0) (backTo pos (starEach es env)) []):=rfl
  rw[he,gv h0]
  refine wpAny_bind (ok.ev e0 X R E _ λvo s1 v1 k1=>wpAny_bind (wpAny_standAt ?_))
  have few:methodCallForm (es.length+0) (backTo pos (starEach es env)) []=true:=Bool.and_eq_true_iff.mpr ⟨Bool.and_eq_true_iff.mpr ⟨nZ h1,rfl⟩,decide_eq_true (Nat.lt_of_lt_of_le (of_decide_eq_true (aeF _ _▸h2):es.length<20) (by decide))⟩
  have hp:methodCallPos true o env j_ pos=pure pos:=if_pos (beq_iff_eq.mpr (Nat.eq_of_beq_eq_true h3))
  show wpAny (Md W) A (holding [vo] (calleeOf (methodCallForm (es.length+0) (backTo pos (starEach es env)) []) o env vo n)>>=λp=>methodCallPos (methodCallForm (es.length+0) (backTo pos (starEach es env)) []) o env j_ pos>>=λc=>callWith c p.1 p.2 (backTo pos (starEach es env)) []) Q E s1
  rw[few,hp]
  have XK:W.K.In s1.heap:=(X.inv.step k1).k
  have go:∀(f:Value)(first:List Value),(∀(pl:Sem Bool)(E:Value->Shared->Prop)(Q:Value×List Value->Shared->Prop),Q (f,first) s1->wpAny (Md W) A (getMethod vo n pl) Q E s1)->(∀s',Step s1 s'->Kept W s'.heap f)->(∀s' vs,Step s1 s'->Ξ W (vis vol s'.heap) ms vs->ο W A vol (call f (first++vs) []) m s')->wpAny (Md W) A (holding [vo] (calleeOf true o env vo n)>>=λp=>(pure pos:Sem Pos)>>=λc=>callWith c p.1 p.2 (backTo pos (starEach es env)) []) Q E s1:=λf first g1 g3 g4=>wpAny_bind (wpAny_holding (g1 _ _ _ (wpAny_bind (wpAny_pure (site (kws:=[]) ok R (X.step k1) (lT h1) e1 rfl g3 (λs' vs kv k2 hv hk=>(show kv=[]from hk)▸g4 s' vs k2 hv) E Q λv s' a b=>k v s' a (k1.trans b))))))
  refine af e2 (λe2=>?_) λe2=>(BO.mb e2 (X.inv.step k1) R v1).elim λid g=>go (.builtin id) [vo] (λpl E Q q=>g.1 pl E Q q) (λs' k2=>qd) λs' vs k2 hv=>g.2 s' vs k2 hv
  cases d with
|zero=>exact ζ e2|succ d=>
  refine af e2 (λe=>O e λp e1 e=>O e λkk q e=>?_) λe=>O e λβ e1 e=>ξ e λc0 e=>O e λq e2 e=>ξ e λc e=>η c λc1 c=>η c λc2 c3=>?_
  · obtain⟨v1',rfl⟩:=e_ e1 v1
    obtain⟨CF,AF⟩:=TO.1 _ _ _ q
    cases kk with
|μ f t=>
      refine ξ e λh0 e=>?_
      obtain⟨a,dx,od,τ,rfl,i1,i2,D,F⟩:=v1'
      exact go (.ref f) [.ref a] (λpl E Q q=>method_fn XK (fo (ι.mp i1).1 (ι.mp i2).1) CF.ga CF.gt AF.1 AF.2.1 (congrArg (Option.map Option.isSome) ((lookIn_dict D n).trans (congrArg some (gu F (mX h0))))) q) (λs' k2=>looks_keep (FO _ _ _ _ q) ((X.inv.step k1).step k2).k) λs' vs k2 hv=>(ok.call e ((X.inv.step k1).step k2) (R.le (Nat.le_succ _)) (Δ (v1.step k2) hv) aL).call|_=>exact ζ e
  · obtain⟨t,p⟩:=q
    cases p with
|true=>exact υ c1|false=>
    obtain⟨a,rfl,N⟩:=ib e1 v1
    obtain⟨C,dx,od,τ,hC,i1,i2,D,hE,does⟩:=N.mono wE
    obtain⟨f,q9,q⟩:=TO.2 _ _ hC _ _ _ e2
    obtain⟨CF,AF⟩:=TO.1 _ _ _ q
    have hd:=(does t f q9).1
    cases hm:β.of t with
|ok m'=>
      refine go (.ref f) [.ref a] (λpl E Q q=>method_fn XK (fo i1 i2) CF.ga CF.gt AF.1 AF.2.1 (congrArg (Option.map Option.isSome) ((lookIn_dict D n).trans (congrArg some (IG hE (aP c3))))) q) (λs' k2=>looks_keep (FO _ _ _ _ q) ((X.inv.step k1).step k2).k) λs' vs k2 hv=>θ (a8 (C:=λo=>gL o=some m) hm.symm e) ?_
      cases nil_of c0
      cases(show vs=[]from hv)
      exact λE Q q=>wpAny_call (a8 (C:=λo=>gB W s1.heap f a β.d o) hm.symm hd A s' _ (R.le (Nat.le_trans (ble c2) (Nat.le_succ _))) k2.keep ((X.inv.step k1).step k2).nil λv s3 z1 z2=>q v s3 z1.up z2)|exc=>exact ζ (a8 (C:=λo=>gL o=some m) hm.symm e)|stuck=>exact ζ (a8 (C:=λo=>gL o=some m) hm.symm e)
end
noncomputable def i_(e:Expr):Bool:=Nat.ble 8 e.ctorIdx&&Nat.ble e.ctorIdx 10
noncomputable def Ak(k:NameKind):Bool:=k.casesOn true true false false false
noncomputable def hK(k:NameKind):Bool:=k.casesOn true false false false false
def bO(cx:Cx)(x:Str):Bool:=(lk cx.names x).elim false Ak
def aau(R:List ((Nat×Nat×Nat)×Int))(op:Operator)(a b:XV):Option XV:=bif Nat.beq op.ctorIdx 0 then(two (dK a) (dK b) λx y=>bif Nat.ble (x.bound+y.bound) bI then some (.str (x++y))else none).or ((two (gX a) (gX b) λx y=>some (.int (x+y))).or (two (mA a) (mA b) λx y=>bif Nat.ble (x.bound+y.bound) bI then some (.bytes (x++y))else none))else none
section
variable{W:aE}{A:Around}{vol own:List Addr}{s:Shared}{d:Nat}{env:Env}{cx:Cx}{ρ:au}{sv:Sv}
theorem g0{α:Type}{x y:Str}{v m:α}{l:List (Str×α)}{P:Prop}(e:lk ((x,v)::l) y=some m)(k:x=y->v=m->P)(n:x≠y->lk l y=some m->P):P:=by
 have e:(bif Fast.sEq x y then some v else lk l y)=some m:=e
 cases h:Fast.sEq x y with
 |true=>exact k (Fast.sEq_iff.mp h) (Option.some.inj (a8 (C:=λc=>(bif c then some v else lk l y)=some m) h.symm e))|false=>exact n (λz=>Bool.noConfusion (h.symm.trans (Fast.sEq_iff.mpr z))) (a8 (C:=λc=>(bif c then some v else lk l y)=some m) h.symm e)
theorem iC{α:Type}(x y:Str)(v:α)(l:List (Str×α)):lk ((x,v)::l) y=if x=y then some v else lk l y:=by
 show(bif Fast.sEq x y then some v else lk l y)=_
 cases h:Fast.sEq x y with
 |true=>exact(if_pos (Fast.sEq_iff.mp h)).symm|false=>exact(if_neg λz=>Bool.noConfusion (h.symm.trans (Fast.sEq_iff.mpr z))).symm
theorem stored{a:Addr}{h':Heap}{tk:Tok}(ha:a∈own)(ho:∃o,h'.get? a=some o)(hs:Heap.SameBut a s.heap h'):ae own s {s with heap:=h',toks:=tk}:=⟨λb o n e=>(hs.2 b λz=>n (z▸ha)).trans e,λb o e=>if z:b=a then ho.imp λ_ q=>z▸q else⟨o,(hs.2 b z).trans e⟩,rfl,rfl⟩
theorem fS{x:Str}{k:NameKind}(X:az W own vol cx ρ env s)(q:cx.names.lookup x=some k)(n:k=.free->False):env.kindOf x=some k:=(X.names x k q).elim id λz=>(n z.left).elim
theorem eg(X:az W own vol cx ρ env s){x:Str}{m:XV}{v:Value}(hc:bO cx x=true)(hv:ω W (vis vol s.heap) m v)(E:Value->Shared->Prop)(Q:Unit->Shared->Prop)(k:∀s',az W own vol cx ((x,m)::ρ) env s'->ae own s s'->Q () s'):wpAny (Md W) A (storeName env x v) Q E s:=by
  have go:∀(a:Addr)(h':Heap)(tk:Tok),a∈own->(∃o,h'.get? a=some o)->Heap.SameBut a s.heap h'->((vis vol s.heap).StaysIn (vis vol h')->∃mm,h'.Ns env.locals mm/\∀y mv,lk ((x,m)::ρ) y=some mv->cx.names.lookup y=some .local->∃v,mm y=some v/\ω W (vis vol h') mv v)->((vis vol s.heap).StaysIn (vis vol h')->∀y mv,lk ((x,m)::ρ) y=some mv->(cx.names.lookup y=some .cell\/cx.names.lookup y=some .free)->∃c v,env.cells.lookup y=some c/\h'.IsCell c (some v)/\ω W (vis vol h') mv v)->(∀y,cx.names.lookup y=some .cell->∃c v,env.cells.lookup y=some c/\c∈own/\c≠env.locals/\h'.IsCell c v)->Q () {s with heap:=h',toks:=tk}:=λa h' tk ha ho hs f1 f2 f3=>have S:ae own s {s with heap:=h',toks:=tk}:=stored ha ho hs
    have V:(vis vol s.heap).StaysIn (vis vol h'):=S.vis X.sub
 k _ ⟨⟨X.kind,X.names,X.globals,X.builtins,X.inv.mV X.sub S,f1 V,f2 V⟩,X.sub,X.fF,f3,X.apart,X.free,λn c h=>(X.cl n c h).elim (S.live c)⟩ S
  obtain⟨mm,h1,h2⟩:=X.loc
  cases q:lk cx.names x with
|none=>exact υ (a8 (C:=λo:Option NameKind=>o.elim false Ak=true) q.symm hc)|some kd=>
  have hk:Ak kd=true:=a8 (C:=λo:Option NameKind=>o.elim false Ak=true) q.symm hc
  have q:=aU q
  cases kd with
|«local»=>
    refine wpAny_storeName_local (fS X q (λz=>NameKind.noConfusion z)) h1 (λh' hn hs=>go env.locals h' _ X.fF (hn.imp λo=>Exists.rec λes=>Exists.rec λep z=>z.1) hs (λV=>⟨_,hn,λy mv a b=>g0 a (λz w=>?_) λz w=>?_⟩) (λV y mv a b=>g0 a (λz w=>?_) λz w=>?_) λy a=>?_) (X.kind▸rfl)
    ·exact⟨v,if_pos z.symm,w▸hv.mono V⟩
    ·exact(h2 y mv w b).imp λu y=>⟨(if_neg (Ne.symm z)).trans y.1,y.2.mono V⟩
    ·exact b.elim (λb=>nomatch(z▸q).symm.trans b) λb=>nomatch(z▸q).symm.trans b
    ·exact(X.z_ y mv w b).imp λc=>Exists.imp λu y=>⟨y.1,y.2.1.sameBut hs (b.elim (λb=>(X.mF _ b).elim λc'=>Exists.rec λv' y'=>Option.some.inj (y'.1.symm.trans y.1)▸y'.2.2.1) λb e=>X.free _ c b y.1 (e▸X.fF)),y.2.2.mono V⟩
    ·exact(X.mF y a).imp λc=>Exists.imp λu y=>⟨y.1,y.2.1,y.2.2.1,y.2.2.2.sameBut hs y.2.2.1⟩|cell=>
    obtain⟨c,w,c1,c2,c3,c4⟩:=X.mF x q
    refine wpAny_storeName_cell X.kind (fS X q (λz=>NameKind.noConfusion z)) c1 c4 λh' hn hs=>go c h' s.toks c2 (hn.imp λo z=>z.1) hs (λV=>⟨mm,h1.sameBut hs (Ne.symm c3),λy mv a b=>g0 a (λz w=>?_) λz w=>?_⟩) (λV y mv a b=>g0 a (λz w=>?_) λz w=>?_) λy a=>?_
    ·exact nomatch(z▸q).symm.trans b
    ·exact(h2 y mv w b).imp λu y=>⟨y.1,y.2.mono V⟩
    ·exact⟨c,v,z▸c1,hn,w▸hv.mono V⟩
    ·exact(X.z_ y mv w b).imp λc'=>Exists.imp λu r=>⟨r.1,r.2.1.sameBut hs λe=>z (X.apart x y c (.inl q) b c1 (e▸r.1)),r.2.2.mono V⟩
    · obtain⟨c',u,u1,u2,u3,u4⟩:=X.mF y a
      exact if z:c'=c then⟨c',some v,u1,u2,u3,z▸hn⟩else⟨c',u,u1,u2,u3,u4.sameBut hs z⟩|_=>exact υ hk
theorem km{e:Expr}{t:Option Expr}{l:Nat}:i_ e=false->swapsWith e t l env=pure false:=by cases e<;>first|exact λ_=>rfl|exact cq
open PySem.W.KBy in theorem px:typeLookup (.type "bytes") (dunderI "add")=pure none:=by rw[typeLookup_type,builtinLookup_eq_fast];kernel_rfl
open PySem.W.KBy in theorem Dj{x y:Bx}{va vb:Value}{h:Heap}(hb:x.bound+y.bound<=bI)(ha:ω W h (.bytes x) va)(hv:ω W h (.bytes y) vb):ο W A vol (inplaceOp .Add va vb) (.bytes (x++y)) s:=by
  refine cb ha λt=>cb hv λu E Q k=>?_
  have h:∀b t' tk,b=bu (x.den W.S)++bu (y.den W.S)->Q (.bytes b t') {s with toks:=tk}:=λb t' tk e=>k _ _ (qr ((congrArg bu (Bx.bG ..)).trans ((gq ..).symm.trans e.symm))) .tok
  refine PySem.iconcat_gives (typeIs_bytes s _ t) (typeIs_bytes s _ u) px noFill_bytes_add seq_bytes_add PySem.W.FB.slot_bytes_add PySem.W.FB.entry_bytes_add (PySem.W.FB.args_bytes_add_2 _ _) (gives_bytes_add (tooLong_not (AU hb))) ?_
  by_cases hb:(bu (x.den W.S)).isEmpty=true
  · rw[if_pos hb]
    exact h _ u s.toks ((Array.isEmpty_iff.1 hb).symm▸(Array.empty_append ..).symm)
  · rw[if_neg hb]
    by_cases hc:(bu (y.den W.S)).isEmpty=true
    · rw[if_pos hc]
      exact h _ t s.toks ((Array.isEmpty_iff.1 hc).symm▸(Array.append_empty ..).symm)
    · rw[if_neg hc]
      exact⟨by rw[Array.size_append,sizeLine_eq];exact AU ‹_›,h _ s.toks (s.toks+1) rfl⟩
theorem Gh{op:Operator}{a b m:XV}{va vb:Value}{h:Heap}(e:aau W.S.res op a b=some m)(ha:ω W h a va)(hb:ω W h b vb):ο W A vol (inplaceOp op va vb) m s:=by cases op with
 |Add=>
  refine af e (λe=>π e λx y e1 e2 e=>Φ e λc=>C7 (h:=h) (ble c) (d9 e1 ha λt=>⟨t,rfl⟩) (d9 e2 hb λt=>⟨t,rfl⟩)) λe=>af e (λe=>?_) λe=>π e λx y e1 e2 e=>Φ e λc=>Dj (h:=h) (ble c) (eM e1 ha λt=>⟨t,rfl⟩) (eM e2 hb λt=>⟨t,rfl⟩)
  exact mG e ha hb λ_ _ _ _ e=>θ e (qt rfl λE Q q=>PyProof.Rows.iadd_int q)|_=>exact ζ e
def Runs(W:aE)(A:Around)(own vol:List Addr)(cx:Cx)(env:Env)(t:Sem Flow)(r:fP)(s:Shared):Prop:=∀(E:Value->Shared->Prop)(Q:Flow->Shared->Prop),(∀f s',AT W own vol cx env r f s'->ae own s s'->Q f s')->wpAny (Md W) A t Q E s
theorem Gi(ok:al W sv)(R:ψ A d){e:Expr}{pos:Pos}{m:XV}(X:az W own vol cx ρ env s)(e1:sv.ev d cx ρ e=some m):Runs W A own vol cx env (exec (.Return (some e) pos) env) (.ret m) s:=λE Q k=>(exec_Return_some ..).symm▸wpAny_bind (wpAny_standAt (wpAny_bind (ok.ev e1 X R E _ λv s1 h1 k1=>wpAny_pure (k _ _ ⟨v,rfl,h1,X.inv.step k1⟩ (.of k1)))))
theorem Dk{pos:Pos}(X:az W own vol cx ρ env s):Runs W A own vol cx env (exec (.Return none pos) env) (.ret .none) s:=λE Q k=>(exec_Return_none ..).symm▸wpAny_bind (wpAny_standAt (wpAny_pure (k _ _ ⟨_,rfl,rfl,X.inv⟩ (.of (.refl _)))))
theorem Gj(ok:al W sv)(R:ψ A d){e:Expr}{x:Str}{p pos:Pos}{m:XV}(X:az W own vol cx ρ env s)(h0:i_ e=false)(hc:bO cx x=true)(e1:sv.ev d cx ρ e=some m):Runs W A own vol cx env (exec (.Assign [.Name x p] e pos) env) (.next ((x,m)::ρ)) s:=λE Q k=>wpAny_Assign_Name (ok.ev e1 X R E _ λv s1 h1 k1=>eg (X.step k1) hc h1 E _ λs2 X2 k2=>k _ _ ⟨rfl,X2⟩ ((ae.of k1).trans k2)) (km h0)
theorem Dl{x:Str}(h:lk cx.names x=some .local):bO cx x=true:=a8 (C:=λo:Option NameKind=>o.elim false Ak=true) h rfl
theorem aav(ok:al W sv)(R:ψ A d){e:Expr}{x:Str}{op:Operator}{p pos:Pos}{o v m:XV}(X:az W own vol cx ρ env s)(h0:lk cx.names x=some .local)(e0:lk ρ x=some o)(e1:sv.ev d cx ρ e=some v)(g:∀{s:Shared}{h:Heap}{va vb:Value},ω W h o va->ω W h v vb->ο W A vol (inplaceOp op va vb) m s):Runs W A own vol cx env (exec (.AugAssign (.Name x p) op e pos) env) (.next ((x,m)::ρ)) s:=λE Q k=>X.loc.elim λmm h=>(h.2 x o e0 (aU h0)).elim λu u1=>wpAny_AugAssign_Name (wpAny_loadName_local X.kind (fS X (aU h0) (λz=>NameKind.noConfusion z)) h.1 u1.1 (ok.ev e1 X R E _ λv s1 h1 k1=>g (u1.2.step k1) h1 E _ λr s2 h2 k2=>eg ((X.step k1).step k2) (Dl h0) h2 E _ λs3 X3 k3=>k _ _ ⟨rfl,X3⟩ ((ae.of (k1.trans k2)).trans k3)))
theorem az.re(X:az W own vol cx ρ env s){x:Str}{o m:XV}(e0:lk ρ x=some o)(g:∀{v:Value},ω W (vis vol s.heap) o v->ω W (vis vol s.heap) m v):az W own vol cx ((x,m)::ρ) env s:=⟨⟨X.kind,X.names,X.globals,X.builtins,X.inv,X.loc.imp λmm h=>⟨h.1,λy mv q1 q2=>g0 q1 (λz w=>z▸(h.2 x o e0 (z▸q2)).imp λu y=>⟨y.1,w▸g y.2⟩) λz w=>h.2 y mv w q2⟩,λy mv q1 q2=>g0 q1 (λz w=>z▸(X.z_ x o e0 (z▸q2)).imp λc=>Exists.imp λu y=>⟨y.1,y.2.1,w▸g y.2.2⟩) λz w=>X.z_ y mv w q2⟩,X.sub,X.fF,X.mF,X.apart,X.free,X.cl⟩
theorem rIf(ok:al W sv)(R:ψ A d){t:Expr}{b o:List Stmt}{pos:Pos}{c:Bool}{r:fP}(X:az W own vol cx ρ env s)(e1:sv.tr d cx ρ t=some c)(e2:(bif c then sv.exs d cx ρ b else sv.exs d cx ρ o)=some r):Runs W A own vol cx env (exec (.If t b o pos) env) r s:=λE Q k=>by
 refine(exec_If ..).symm▸wpAny_bind (wpAny_standAt (wpAny_bind (ok.tr e1 X R E _ λs1 k1=>?_)))
 cases c with
 |true=>exact ok.exs e2 (X.step k1) R E Q λf s' a b=>k f s' a ((ae.of k1).trans b)|false=>exact ok.exs e2 (X.step k1) R E Q λf s' a b=>k f s' a ((ae.of k1).trans b)
theorem RE(X:az W own vol cx ρ env s):Runs W A own vol cx env (execs [] env) (.next ρ) s:=λE Q k=>wpAny_execs_nil (k _ _ ⟨rfl,X⟩ (.of (.refl _)))
theorem iK{st:Stmt}{rest:List Stmt}{aV:au}{r:fP}(h1:Runs W A own vol cx env (exec st env) (.next aV) s)(h2:∀s',az W own vol cx aV env s'->Runs W A own vol cx env (execs rest env) r s'):Runs W A own vol cx env (execs (st::rest) env) r s:=λE Q k=>wpAny_execs_cons (h1 E _ λf s1 a b=>a.1▸h2 s1 a.2 E Q λf s2 c e=>k f s2 c (b.trans e))
theorem nH{st:Stmt}{rest:List Stmt}{m:XV}(h1:Runs W A own vol cx env (exec st env) (.ret m) s):Runs W A own vol cx env (execs (st::rest) env) (.ret m) s:=λE Q k=>wpAny_execs_cons (h1 E _ λf s1 a b=>a.elim λv y=>y.1▸k _ _ ⟨v,rfl,y.2⟩ b)
end
structure kK where
 body:List Stmt
 names:List (Str×NameKind)bind:List XV->List (Str×XV)->Option au
noncomputable def bp(names:List (Str×NameKind)):au->Bool
 |[]=>true|p::r=>(lk names p.1).elim false hK&&bp names r
noncomputable def fb:List (Str×NameKind)->Bool
 |[]=>true|p::r=>p.2.casesOn true false true true true&&fb r
noncomputable def u_(r:fP):XV:=r.casesOn (λ_=>.none) id
def acQ(fn:Nat->Option kK)(exs:Nat->Cx->au->List Stmt->Option fP)(d:Nat)(f:Addr)(ms:List XV)(ks:List (Str×XV)):Option XV:=d.casesOn none λd=>(fn f).bind λft=>(ft.bind ms ks).bind λρ=>bif bp ft.names ρ then(exs d ⟨ft.names⟩ ρ ft.body).map u_ else none
section
variable{W:aE}{A:Around}{vol own:List Addr}{s:Shared}{d:Nat}{env:Env}{cx:Cx}{ρ:au}{sv:Sv}
def RF(W:aE)(f:Addr)(env:Env):Prop:=∃oc od Q_ fd,W.K.lookup f=some ⟨oc,od,.func fd,Q_⟩/\env.func=some f/\env.code=fd.code/\env.scope=fd.scope/\∀x c,fd.closure.lookup x=some c->env.cells.lookup x=some c
structure fq(W:aE)(f:Addr)(ft:kK):Prop where it:∃oc od Q_ fd,W.K.lookup f=some ⟨oc,od,.func fd,Q_⟩/\fd.body=.stmts ft.body/\fd.scope.names=ft.names/\fd.scope.kind=.function/\fd.scope.isCoroutine=false/\fd.scope.isGenerator=false/\fd.globals=mainGlobals/\fd.builtins=builtinsNs/\codeIn W.K fd.code fd.qualname=true/\((fb ft.names=true/\(∀x y c,fd.closure.lookup x=some c->fd.closure.lookup y=some c->x=y)/\∀x c,fd.closure.lookup x=some c->∃o,W.top.get? c=some o)\/(fd.closure=[]/\(∀x,ft.names.lookup x≠some .free)/\((ft.names.map (·.1)).Nodup)))/\∀(A:Around)(vol:List Addr)(s:Shared)(ms:List XV)(ks:List (Str×XV))(vs:List Value)(kv:List (Str×Value))(ρ:au),Inv W vol s->Ξ W (vis vol s.heap) ms vs->aY W (vis vol s.heap) ks kv->ft.bind ms ks=some ρ->∀(E:Value->Shared->Prop)(Q:List (Str×Value)->Shared->Prop),(∀binds s',aY W (vis vol s'.heap) ρ binds.reverse->Step s s'->Q binds s')->wpAny (Md W) A (bindArgs fd ⟨vs,kv⟩) Q E s
theorem gw{h:Heap}{ρ:au}:∀{es:List (Str×Value)},aY W h ρ es->es.map (·.1)=ρ.map (·.1):=by induction ρ with
 |nil=>exact λx=>(show _=[]from x)▸rfl|cons p r ih=>exact λx=>x.elim λv=>Exists.rec λes y=>y.1▸congrArg (p.1::·) (ih y.2.2)
theorem aeN{k:NameKind}:hK k=true->k=.local:=by cases k<;>first|exact λ_=>rfl|exact υ
theorem j6{names:List (Str×NameKind)}{ρ:au}:bp names ρ=true->∀x∈ρ.map (·.1),names.lookup x=some .local:=by induction ρ with
 |nil=>exact λ_ x m=>nomatch m|cons p r ih=>
  intro h x m
  refine η h λh1 h2=>(List.mem_cons.mp m).elim (λe=>?_) (ih h2 x)
  cases q:lk names p.1 with
  |none=>exact υ (a8 (C:=λo:Option NameKind=>o.elim false hK=true) q.symm h1)|some k=>exact e▸(aU q).trans (congrArg some (aeN (a8 (C:=λo:Option NameKind=>o.elim false hK=true) q.symm h1)))
theorem cF{names:List (Str×NameKind)}:fb names=true->∀x∈names,x.2≠.cell:=by induction names with
 |nil=>exact λ_ x m=>nomatch m|cons p r ih=>exact λh x m=>η h λh1 h2=>(List.mem_cons.mp m).elim (λe z=>υ (a8 (C:=λk:NameKind=>(k.casesOn true false true true true:Bool)=true) (e▸z).symm h1)) (ih h2 x)
theorem te(names:List (Str×NameKind)):∀(n:Nat)(bh:List (Str×Addr)),(cellsFrom n names bh).map (·.1)=((names.filter (λx=>x.2==.cell)).map (·.1)).reverse++bh.map (·.1):=by induction names with
|nil=>exact λ_ _=>rfl|cons p r ih=>
    intro n bh
    obtain⟨x,k⟩:=p
    show(if k==.cell then cellsFrom (n+1) r ((x,n)::bh)else cellsFrom n r bh).map (·.1)=_
    rw[List.filter_cons]
    by_cases h:(k==NameKind.cell)=true
    · rw[if_pos h,if_pos h,ih,List.map_cons,List.map_cons,List.reverse_cons,List.append_assoc]
      rfl
    ·rw[if_neg h,if_neg h,ih]
theorem vZ{α:Type}{x:Str}(a b:List (Str×α)):(a++b).lookup x=(a.lookup x).or (b.lookup x):=by induction a with
 |nil=>rfl|cons q t ih=>
  show(match x==q.1 with|true=>some q.2|false=>(t++b).lookup x)=(match x==q.1 with|true=>some q.2|false=>t.lookup x).or (b.lookup x)
  cases x==q.1 with
  |true=>rfl|false=>exact ih
theorem rU{kindOf:Str->Option NameKind}{x:Str}(l:List (Str×Value)):∀(m:Str->Option Value),(∀y∈l,kindOf y.1=some .local)->bindL kindOf l m x=(l.reverse.lookup x).or (m x):=by induction l with
|nil=>exact λm _=>rfl|cons p r ih=>
    intro m hl
    rw[List.reverse_cons,vZ,Option.or_assoc]
    refine((congrArg (bindL kindOf r · x) (if_pos (hl p (.head _)))).trans (ih _ λy hy=>hl y (.tail _ hy))).trans (congrArg (Option.or _) ?_)
    show(if x=p.1 then some p.2 else m x)=(match x==p.1 with|true=>some p.2|false=>none).or (m x)
    by_cases hx:x=p.1
    · rw[if_pos hx,beq_iff_eq.mpr hx]
      rfl
    · rw[if_neg hx,beq_eq_false_iff_ne.mpr hx]
      rfl
theorem rD{vol own:List Addr}{h h':Heap}(k:h.StaysIn h')(n:∀a∈own,h.get? a=none):(vis vol h).StaysIn (vis (own++vol) h'):=λb o e=>have e:=ι.mp e
 ι.mpr ⟨k b o e.1,λm=>(List.mem_append.mp m).elim (λm=>nomatch(n b m).symm.trans e.1) e.2⟩
abbrev Dm(W:aE)(A:Around)(vol:List Addr)(s:Shared)(d:Nat)(f:Addr)(ft:kK)(ρ:au)(RR:Result->Shared->Prop):Prop:=∀(own:List Addr)(env:Env)(s2:Shared),(∀a∈own,s.heap.get? a=none)->Step s s2->az W own (own++vol) ⟨ft.names⟩ ρ env s2->ψ (A.deeper env) d->env.frame=some env.locals->(∀y c,env.cells.lookup y=some c->c∈own\/∃o,W.top.get? c=some o)->RF W f env->codeAny (Md W) A (.func ft.body env) RR s2
theorem th{A:Around}(R:ψ A (d+1))(env:Env):ψ (A.deeper env) d:=⟨room 1 (by decide) R.depth,room 3 (by decide) R.units,R.guards,R.handled⟩
theorem iD(I:Inv W vol s)(R:ψ A (d+1)){f:Addr}{ft:kK}(FF:fq W f ft){ms:List XV}{ks:List (Str×XV)}{vs:List Value}{kv:List (Str×Value)}{ρ:au}{RR:Result->Shared->Prop}(e1:ft.bind ms ks=some ρ)(e2:bp ft.names ρ=true)(hv:Ξ W (vis vol s.heap) ms vs)(hk:aY W (vis vol s.heap) ks kv)(A0:Dm W A vol s d f ft ρ RR):codeAny (Md W) A (.call (.ref f) ⟨vs,kv⟩) RR s:=by
  obtain⟨oc,od,Q_,fd,hf,hbd,fw,mY,hco,RG,hgl,hbi,A1,ve,A3⟩:=FF.it
  have A4:A.depth<recursionLimit:=Nat.lt_of_le_of_lt (Nat.le_trans (Nat.le_add_right _ _) R.depth) (by decide)
  refine codeAny_call_function A4 (I.k _ _ hf) rfl hco RG hbd (codeRec_of I.k A1) ?_
  refine A3 A.in1 vol s ms ks vs kv ρ I hv hk e1 _ _ λbinds s1 hb k1=>?_
  have I1:=I.step k1
  have IH:∀{x mv},lk ρ x=some mv->ft.names.lookup x=some .local:=λ{x mv}a=>j6 e2 x ((gr hb a).elim λv w=>gw hb▸List.mem_map_of_mem (f:=(·.1)) (mem_of_lookup (aU w.1)))
  have B3:∀{x mv},lk ρ x=some mv->(ft.names.lookup x=some .cell\/ft.names.lookup x=some .free)->False:=λa b=>b.elim (λb=>nomatch(IH a).symm.trans b) λb=>nomatch(IH a).symm.trans b
  have YW:∀x∈binds,ft.names.lookup x.1=some .local:=λx m=>j6 e2 x.1 (gw hb▸List.mem_map_of_mem (List.mem_reverse.mpr m))
  have pA:∀(own:List Addr)(bN:Env)(s2:Shared),(∀a∈own,s1.heap.get? a=none)->s1.heap.StaysIn s2.heap->s2.os=s1.os->s2.gens=s1.gens->bN.frame=some bN.locals->(∀y c,bN.cells.lookup y=some c->c∈own\/∃o,W.top.get? c=some o)->RF W f bN->az W own (own++vol) ⟨ft.names⟩ ρ bN s2->codeAny (Md W) A (.func ft.body bN) RR s2:=λown bN s2 cu bZ hos acR jp hcc H4 SS=>A0 own bN s2 (λa m=>by cases q:s.heap.get? a with
|none=>rfl|some o=>exact nomatch(cu a m).symm.trans (k1.keep _ _ q)) (k1.trans ⟨bZ,hos,acR⟩) SS (th R bN) jp hcc H4
  have hL:s1.heap.get? s1.heap.objs.size=none:=aX _
  rcases ve with⟨hc,ha,hx⟩|⟨uu,A5,hnd⟩
  · refine wpAny_newFunctionEnv (fw▸cF hc) (fw▸YW) (λh2 sG H5=>⟨(W.lim.keeps I1.keeps).fresh _ H5,?_⟩) mY
    have bZ:s1.heap.StaysIn h2:=λb o e=>H5.extBut b o (Nat.ne_of_lt (Heap.lt_size e)) (Heap.get?_push_of_some _ e)
    have cu:∀a∈[s1.heap.objs.size],s1.heap.get? a=none:=λa m=>List.mem_singleton.mp m▸hL
    have mI:=rD (vol:=vol) bZ cu
    refine pA [s1.heap.objs.size] _ _ cu bZ rfl rfl rfl (λy c q=>.inr (hx y c q)) ⟨oc,od,Q_,fd,hf,rfl,rfl,rfl,λ_ _ q=>q⟩ ⟨⟨mY,λx k q=>.inl ((congrArg (List.lookup x) fw).trans q),hgl,hbi,⟨Ψ I1.top mI,λa m=>(List.mem_append.mp m).elim (λm=>?_) λm=>(I1.vol a m).imp (bZ a)⟩,⟨_,sG,λx mv a b=>(gr hb a).imp λv w=>⟨aU w.1,w.2.mono mI⟩⟩,λx mv a b=>(B3 a b).elim⟩,λa m=>List.mem_append_left _ m,.head _,λx a=>(cF hc _ (mem_of_lookup a) rfl).elim,λx y c _ _ p q=>ha x y c p q,λx c a b m=>(hx x c b).elim λo e=>?_,λx c b=>(hx x c b).imp λo e=>bZ _ _ (I1.keeps _ _ e)⟩
    · obtain⟨o,_,_,ho,_⟩:=sG
      exact⟨o,List.mem_singleton.mp m▸ho⟩
    ·exact nomatch(cu c m).symm.trans (I1.keeps _ _ e)
  · rw[uu]
    refine wpAny_newFunctionEnv_cells mY (λx m=>.inl (fw▸YW x m)) λbN he s2 IC=>?_
    obtain⟨h2,tk,rfl,bZ⟩:=IC.done
    have bZ:s1.heap.StaysIn h2:=bZ
    refine⟨(W.lim.keeps I1.keeps).keeps bZ,?_⟩
    have Al:bN.locals=s1.heap.objs.size:=he▸rfl
    have ye:bN.cells.map (·.1)=((ft.names.filter (λx=>x.2==.cell)).map (·.1)).reverse:=he▸(te ..).trans ((List.append_nil _).trans (congrArg (λl=>((List.filter (λx:Str×NameKind=>x.2==.cell) l).map (·.1)).reverse) fw))
    have YX:bN.scope=fd.scope:=he▸rfl
    have Zt:∀x,bN.kindOf x=ft.names.lookup x:=λx=>congrArg (List.lookup x) ((congrArg Scope.names YX).trans fw)
    have cu:∀a∈bN.locals::bN.cells.map (·.2),s1.heap.get? a=none:=λa m=>by
      rcases List.mem_cons.mp m with rfl|m
      ·exact Al▸hL
      · obtain⟨⟨n,c⟩,m2,rfl⟩:=List.mem_map.mp m
        exact Heap.get?_none_of_le (Nat.le_of_lt (Al▸IC.above n c m2))
    have aaw:(bN.cells.map (·.1)).Nodup:=ye▸List.pairwise_reverse.mpr (((List.filter_sublist.map _).nodup hnd).imp Ne.symm)
    have mI:=rD (vol:=vol) bZ cu
    refine pA (bN.locals::bN.cells.map (·.2)) bN _ cu bZ rfl rfl (he▸rfl) (λy c q=>.inl (.tail _ (List.mem_map_of_mem (f:=(·.2)) (mem_of_lookup q)))) ⟨oc,od,Q_,fd,hf,he▸rfl,he▸rfl,YX,λx c q=>nomatch(uu▸q:([]:List (Str×Addr)).lookup x=some c)⟩ ⟨⟨YX▸mY,λx k q=>.inl ((Zt x).trans q),he▸hgl,he▸hbi,⟨Ψ I1.top mI,λa m=>(List.mem_append.mp m).elim (λm=>(List.mem_cons.mp m).elim (λe=>?_) λm=>?_) λm=>(I1.vol a m).imp (bZ a)⟩,⟨_,IC.toInCall.ns,λx mv a b=>(gr hb a).imp λv w=>⟨(rU binds _ λy m=>(Zt _).trans (YW y m)).trans (congrArg (Option.or · _) (aU w.1)),w.2.mono mI⟩⟩,λx mv a b=>(B3 a b).elim⟩,λa m=>List.mem_append_left _ m,.head _,λx a=>?_,λx y c p q p' q'=>name_of_addr IC.apart (mem_of_lookup p') (mem_of_lookup q'),λx c a b=>(A5 x a).elim,λx c b=>(IC.cell x c b).imp λ_ e=>e.1⟩
    · obtain⟨o,_,_,ho,_⟩:=IC.toInCall.ns
      exact⟨o,e▸ho⟩
    · obtain⟨⟨n,c⟩,m2,rfl⟩:=List.mem_map.mp m
      exact(IC.cell n c (lookup_of_mem_nodup aaw m2)).imp λ_ e=>e.1
    · obtain⟨⟨y,c⟩,m2,rfl⟩:=List.mem_map.mp (ye▸List.mem_reverse.mpr (List.mem_map.mpr ⟨(x,.cell),List.mem_filter.mpr ⟨mem_of_lookup a,rfl⟩,rfl⟩):x∈bN.cells.map (·.1))
      have hc:=lookup_of_mem_nodup aaw m2
      exact⟨c,_,hc,.tail _ (List.mem_map_of_mem (f:=(·.2)) m2),Nat.ne_of_gt (IC.above _ c m2),IC.cell _ c hc⟩
theorem nI(I:Inv W vol s)(R:ψ A (d+1)){f:Addr}{ft:kK}(FF:fq W f ft){ms:List XV}{ks:List (Str×XV)}{vs:List Value}{kv:List (Str×Value)}{ρ:au}{r:fP}(e1:ft.bind ms ks=some ρ)(e2:bp ft.names ρ=true)(hv:Ξ W (vis vol s.heap) ms vs)(hk:aY W (vis vol s.heap) ks kv)(h:∀{own env s2},az W own (own++vol) ⟨ft.names⟩ ρ env s2->ψ (A.deeper env) d->Runs W (A.deeper env) own (own++vol) ⟨ft.names⟩ env (execs ft.body env) r s2):aM W A vol (.call (.ref f) ⟨vs,kv⟩) (u_ r) s:=λRR k=>by
 refine iD I R FF e1 e2 hv hk λown env s2 cu k2 SS RD _ _ _=>codeAny_func (h SS RD _ _ λfl s3 hr st=>?_)
 have kk:Step s s3:=⟨λb o e=>st.keep b o (λm=>nomatch(cu b m).symm.trans e) (k2.keep b o e),st.os.trans k2.os,st.gens.trans k2.gens⟩
 cases r with
 |next aV=>exact hr.1▸k _ _ rfl kk|ret m=>exact hr.elim λv y=>y.1▸k _ _ (y.2.1.mono (dX λa m=>List.mem_append_right _ m)) kk
end
structure w9(W:aE)(h:Heap)(I:Addr)(Is:List Addr)(ms:List XV)(tg:Expr)(P:Nat->Shared->Prop)(Pm:Nat->Value->Shared->Prop):Prop where
 mem:I∈Is
 new:∀a∈Is,h.get? a=none
 st:∀{i s},P i s->h.StaysIn s.heap
 Q':∀{i v s},Pm i v s->h.StaysIn s.heap
 live:∀{i s},P i s->∀a∈Is,∃o,s.heap.get? a=some o
 next:∀{A s i m d},ψ A d->P i s->ms[i]?=some m->∀(E:Value->Shared->Prop)(Q:Option Value->Shared->Prop),(∀v s',Pm (i+1) v s'->ae Is s s'->(∀vol,h.StaysIn (vis vol s'.heap)->(∀a∈vol,∃o,s.heap.get? a=some o)->ω W (vis vol s'.heap) m v)->Q (some v) s')->wpAny (Md W) A (pyNext (.ref I)) Q E s
 stop:∀{A s d},ψ A d->P ms.length s->∀(E:Value->Shared->Prop)(Q:Option Value->Shared->Prop),(∀s',(∀b o,b∉Is->s.heap.get? b=some o->s'.heap.get? b=some o)->s'.os=s.os->s'.gens=s.gens->Q none s')->wpAny (Md W) A (pyNext (.ref I)) Q E s
 self:∀{A s i}{E Q:Value->Shared->Prop},P i s->Q (.ref I) s->wpAny (Md W) A (pyIter (.ref I)) Q E s
 owned:∀{A s i}{v:Value}{E:Value->Shared->Prop}{Q:Unit->Shared->Prop},Pm i v s->(∀s',P i s'->ae Is s s'->Q () s')->wpAny (Md W) A (letOwnedTupleGo tg (.ref I) v) Q E s
 frame:∀{i s s'},P i s->(∀a∈Is,s'.heap.get? a=s.heap.get? a)->h.StaysIn s'.heap->P i s'
abbrev oE(W:aE)(h:Heap)(I:Addr)(Is:List Addr)(ms:List XV)(P:Nat->Shared->Prop):Prop:=∀tg,w9 W h I Is ms tg P (λi _ s=>P i s)
noncomputable def bA(e:Expr):Option Str:=e.casesOn (λ_ _ _=>none) (λ_ _ _=>none) (λ_ _ _ _=>none) (λ_ _ _=>none) (λ_ _ _ _=>none) (λ_ _ _ _=>none) (λ_ _ _=>none) (λ_ _ _=>none) (λ_ _ _ _=>none) (λ_ _ _ _=>none) (λ_ _ _ _ _=>none) (λ_ _ _ _=>none) (λ_ _=>none) (λ_ _=>none) (λ_ _=>none) (λ_ _ _ _=>none) (λ_ _ _ _=>none) (λ_ _ _ _=>none) (λ_ _=>none) (λ_ _ _=>none) (λ_ _ _=>none) (λ_ _ _=>none) (λ_ _=>none) (λx _=>some x) (λ_ _=>none) (λ_ _ _=>none) (λ_ _ _ _=>none)
noncomputable def pM(e:Expr):Option (List Expr):=e.casesOn (λ_ _ _=>none) (λ_ _ _=>none) (λ_ _ _ _=>none) (λ_ _ _=>none) (λ_ _ _ _=>none) (λ_ _ _ _=>none) (λ_ _ _=>none) (λ_ _ _=>none) (λ_ _ _ _=>none) (λ_ _ _ _=>none) (λ_ _ _ _ _=>none) (λ_ _ _ _=>none) (λ_ _=>none) (λ_ _=>none) (λ_ _=>none) (λ_ _ _ _=>none) (λ_ _ _ _=>none) (λ_ _ _ _=>none) (λ_ _=>none) (λ_ _ _=>none) (λ_ _ _=>none) (λ_ _ _=>none) (λ_ _=>none) (λ_ _=>none) (λ_ _=>none) (λl _ _=>some l) (λ_ _ _ _=>none)
theorem cz{t:Expr}{n:Str}:bA t=some n->∃p,t=.Name n p:=by cases t with
 |Name x p=>exact λh=>θ (P:=λn=>∃q,Expr.Name x p=.Name n q) h ⟨p,rfl⟩|_=>exact λh=>ζ h
theorem Dn{t:Expr}{l:List Expr}:pM t=some l->∃k p,t=.Tuple l k p:=by cases t with
 |Tuple x k p=>exact λh=>θ (P:=λn=>∃k' q,Expr.Tuple x k p=.Tuple n k' q) h ⟨k,p,rfl⟩|_=>exact λh=>ζ h
section
variable{W:aE}{A:Around}{vol own:List Addr}{s:Shared}{d:Nat}{env:Env}{cx:Cx}{ρ:au}{sv:Sv}
theorem lU{it:Addr}{o:Obj}{n:String}{fs:Array Value}{target:Expr}{v:Value}{E:Value->Shared->Prop}{Q:Unit->Shared->Prop}(h:s.heap.get? it=some o)(hc:o.cls=.type n)(hd:o.data=.fields fs)(hn:(["enumerate","zip","dict_itemiterator","dict_reverseitemiterator","odict_iterator","itertools.zip_longest","itertools.pairwise"].contains n)=false)(q:Q () s):wpAny (Md W) A (letOwnedTupleGo target (.ref it) v) Q E s:=by
 have body:wpAny (Md W) A (letOwnedTupleGo (.Tuple [] 0 ⟨0,0,0,0⟩) (.ref it) v) Q E s:=by cases v with
  |ref a=>
   refine wpAny_bind (wpAny_load h ?_)
   rw[hc,hd]
   exact wpAny_ite (if_neg (c:=_=true) (λz=>Bool.noConfusion (hn.symm.trans (Bool.and_eq_true_iff.mp z).1))▸wpAny_pure q)|_=>exact wpAny_pure q
 cases target<;>first|exact body|exact wpAny_pure q
theorem n5{I:Addr}{h':Heap}{o:Obj}(hs:Heap.SameBut I s.heap h')(hI:h'.get? I=some o):ae [I] s {s with heap:=h'}:=stored (.head _) ⟨o,hI⟩ hs
theorem aG{P:Addr->Prop}{I:Addr}(h:P I):∀a∈[I],P a:=λa m=>List.mem_singleton.mp m▸h
theorem tj{h:Heap}{I:Addr}{ms:List XV}{vs:List Value}{At:Nat->Heap->Prop}{n:String}(h2:Ξ W h ms vs)(hn:h.get? I=none)(hat:∀{i h},At i h->∃o fs,h.get? I=some o/\o.cls=.type n/\o.data=.fields fs)(hno:(["enumerate","zip","dict_itemiterator","dict_reverseitemiterator","odict_iterator","itertools.zip_longest","itertools.pairwise"].contains n)=false)(acS:∀{i h h'},At i h->h'.get? I=h.get? I->At i h')(acT:∀{A s i v},h.StaysIn s.heap->At i s.heap->vs[i]?=some v->∀(E:Value->Shared->Prop)(Q:Option Value->Shared->Prop),(∀h',At (i+1) h'->Heap.SameBut I s.heap h'->Q (some v) {s with heap:=h'})->wpAny (Md W) A (pyNext (.ref I)) Q E s)(acU:∀{A s},A.handled=none->h.StaysIn s.heap->At vs.length s.heap->∀(E:Value->Shared->Prop)(Q:Option Value->Shared->Prop),(∀h',(∀b o,b≠I->s.heap.get? b=some o->h'.get? b=some o)->Q none {s with heap:=h'})->wpAny (Md W) A (pyNext (.ref I)) Q E s)(lr:∀{A s i}{E Q:Value->Shared->Prop},At i s.heap->Q (.ref I) s->wpAny (Md W) A (pyIter (.ref I)) Q E s):oE W h I [I] ms (λi s=>h.StaysIn s.heap/\At i s.heap):=λtg=>{
 mem:=.head _
 new:=aG hn
 st p:=p.1
 Q' p:=p.1
 live p:=aG ((hat p.2).imp λ_=>Exists.rec λ_ y=>y.1)
 next{A s i m d}R p e E Q k:=(h2.at e).elim λv w=>acT p.1 p.2 w.1 E Q λh' pB hs=>have bZ:h.StaysIn h':=λb o e=>(hs.2 b λz=>nomatch(z▸hn).symm.trans e).trans (p.1 b o e)
  (hat pB).elim λoi=>Exists.rec λ_ y=>k v _ ⟨bZ,pB⟩ (n5 hs y.1) λvol hv _=>w.2.mono hv
 stop{A s d}R p E Q k:=acU R.handled p.1 (h2.len.symm▸p.2) E Q λh' hs=>k _ (λb o n e=>hs b o (λz=>n (z▸.head _)) e) rfl rfl
 self{A s i E Q}p q:=lr p.2 q
 owned{A s i v E Q}p q:=(hat p.2).elim λo=>Exists.rec λfs y=>lU y.1 y.2.1 y.2.2 hno (q s p (.of (.refl _)))
 frame{i s s'}p e hk:=⟨hk,acS p.2 (e I (.head _))⟩}
theorem Gk{h:Heap}{I a:Addr}{vs:List Value}{n:Nat}{ms:List XV}(h1:h.get? a=some (aI vs n))(h2:Ξ W h ms vs)(hn:h.get? I=none):oE W h I [I] ms (λi s=>h.StaysIn s.heap/\s.heap.IsListIter I a i):=tj (At:=λi h=>h.IsListIter I a i) h2 hn (λp=>p.imp λ_ y=>⟨_,y⟩) (by decide) (λp e=>p.imp λ_ y=>⟨e.trans y.1,y.2⟩) (λst p e E Q k=>wpAny_pyNext_list_item p (aN (st _ _ h1)) (List.getElem?_toArray.trans e) k) (λhh st p E Q k=>wpAny_pyNext_list_end hh p (aN (st _ _ h1)) (List.getElem?_toArray.trans (List.getElem?_eq_none (Nat.le_refl _))) k) λp q=>wpAny_pyIter_listiter p q
theorem Do{h:Heap}{I a:Addr}{vs:List Value}{ms:List XV}(h1:h.get? a=some (dH vs))(h2:Ξ W h ms vs)(hn:h.get? I=none):oE W h I [I] ms (λi s=>h.StaysIn s.heap/\s.heap.IsTupleIter I a i):=tj (At:=λi h=>h.IsTupleIter I a i) h2 hn (λp=>p.imp λ_ y=>⟨_,y⟩) (by decide) (λp e=>p.imp λ_ y=>⟨e.trans y.1,y.2⟩) (λst p e E Q k=>wpAny_pyNext_tuple_item p ⟨_,st _ _ h1,rfl,0,rfl⟩ (items:=vs.toArray) (List.getElem?_toArray.trans e) k) (λhh st p E Q k=>wpAny_pyNext_tuple_end (items:=vs.toArray) hh p ⟨_,st _ _ h1,rfl,0,rfl⟩ (List.getElem?_toArray.trans (List.getElem?_eq_none (Nat.le_refl _))) k) λp q=>wpAny_pyIter_tupleiter p q
def hO(a:XV):Option (List XV):=(qN a).or (Ab a)
theorem ic{vol:List Addr}{h:Heap}{a:Addr}(e:h.get? a=none):(vis vol h).get? a=none:=by cases q:(vis vol h).get? a with
 |none=>rfl|some o=>exact nomatch e.symm.trans (ι.mp q).1
theorem jL{vol:List Addr}{o:Obj}:(vis vol s.heap).StaysIn (s.heap.push o):=λb _ e=>Heap.get?_push_of_some _ (ι.mp e).1
theorem l_{o:XV}{vo:Value}{ms:List XV}(e:hO o=some ms)(I0:Inv W vol s)(ho:ω W (vis vol s.heap) o vo)(E Q:Value->Shared->Prop)(k:∀I s' P,oE W (vis vol s.heap) I [I] ms P->P 0 s'->Step s s'->s.heap.get? I=none->Q (.ref I) s'):wpAny (Md W) A (pyIter vo) Q E s:=have hI:s.heap.get? s.heap.objs.size=none:=aX _
 af e (λe=>bq (P:=λvo=>wpAny (Md W) A (pyIter vo) Q E s) (cX e ho) λa vs n h1 h2=>wpAny_pyIter_list (aN (ι.mp h1).1) (k _ _ _ (Gk h1 h2 (ic hI)) ⟨jL,⟨_,Heap.get?_push_size _ rfl,rfl,rfl⟩⟩ (Step.push s _) hI)) λe=>cO (P:=λvo=>wpAny (Md W) A (pyIter vo) Q E s) (lq e ho) λa vs h1 h2=>wpAny_pyIter_tuple (items:=vs.toArray) ⟨_,(ι.mp h1).1,rfl,0,rfl⟩ (k _ _ _ (Do h1 h2 (ic hI)) ⟨jL,⟨_,Heap.get?_push_size _ rfl,rfl,rfl⟩⟩ (Step.push s _) hI)
theorem Gl{h:Heap}{I:Addr}{ms:List XV}{P:Nat->Shared->Prop}(S:oE W h I [I] ms P)(R:ψ A d)(n:Nat):∀(i:Nat)(s:Shared)(E:Value->Shared->Prop)(Q:List Value->Shared->Prop),i+n=ms.length->P i s->(∀vs s',P ms.length s'->ae [I] s s'->(∀vol,h.StaysIn (vis vol s'.heap)->(∀a∈vol,∃o,s.heap.get? a=some o)->I∈vol->Ξ W (vis vol s'.heap) (ms.drop i) vs)->Q vs s')->wpAny (Md W) A (draw (.ref I) n) Q E s:=by induction n with
 |zero=>exact λi s E Q e p k=>wpAny_pure (k [] s (e▸p) (.of (.refl _)) λvol _ _ _=>(List.drop_of_length_le (Nat.le_of_eq e.symm)).symm▸aC)|succ n ih=>
  intro i s E Q e p k
  have hi:i<ms.length:=e▸Nat.lt_add_of_pos_right (Nat.succ_pos n)
  have S0:=S (.Name "x" ⟨0,0,0,0⟩)
  refine wpAny_bind (S0.next R p (List.getElem?_eq_getElem hi) E _ λv s1 p1 k1 hv=>wpAny_bind (wpAny_holding (ih (i+1) s1 E _ ((Nat.add_right_comm i 1 n).trans e) p1 λvs s2 p2 k2 Zu=>wpAny_pure (k (v::vs) s2 p2 (k1.trans k2) λvol hk hl hI=>?_))))
  have hk1:h.StaysIn (vis vol s1.heap):=λb o e=>ι.mpr ⟨S0.st p1 b o e,(ι.mp (hk b o e)).2⟩
  exact(List.drop_eq_getElem_cons hi).symm▸Δ ((hv vol hk1 hl).mono (k2.vis (aG hI))) (Zu vol hk (λa m=>(hl a m).elim (k1.live a)) hI)
theorem za{o:XV}{vo:Value}{ms:List XV}{E:Value->Shared->Prop}{Q:Bool->Shared->Prop}(e:hO o=some ms)(ho:ω W (vis vol s.heap) o vo)(q:Q false s):wpAny (Md W) A (notIterableAtAll vo) Q E s:=af e (λe=>bq (P:=λvo=>wpAny (Md W) A (notIterableAtAll vo) Q E s) (cX e ho) λa vs n h1 h2=>wpAny_bind (wpAny_specialOf ⟨_,(ι.mp h1).1,rfl⟩ slot_list_iter.lookup (wpAny_pure q))) λe=>cO (P:=λvo=>wpAny (Md W) A (notIterableAtAll vo) Q E s) (lq e ho) λa vs h1 h2=>wpAny_bind (wpAny_specialOf ⟨_,(ι.mp h1).1,rfl⟩ PySem.F.slot_tuple_iter.lookup (wpAny_pure q))
theorem ir{o:XV}{vo:Value}{ms:List XV}(e:hO o=some ms)(I0:Inv W vol s)(R:ψ A d)(ho:ω W (vis vol s.heap) o vo)(E:Value->Shared->Prop)(Q:List Value->Shared->Prop)(k:∀vs s',Ξ W (vis vol s'.heap) ms vs->Step s s'->Q vs s'):wpAny (Md W) A (unpackItems vo ms.length none) Q E s:=by
  refine wpAny_bind (za e ho (wpAny_bind (wpAny_holding (l_ e I0 ho E _ λI s1 P S0 p0 k1 hI=>wpAny_bind (wpAny_holding (Gl S0 R ms.length 0 s1 E _ (Nat.zero_add _) p0 λvs s2 p2 k2 Zu=>?_))))))
  have S:=S0 (.Name "x" ⟨0,0,0,0⟩)
  have hI2:I∉vol:=I0.fresh hI
  have hk:(vis vol s.heap).StaysIn (vis (I::vol) s2.heap):=λb o e=>ι.mpr ⟨S.st p2 b o e,λm=>(List.mem_cons.mp m).elim (λz=>nomatch(z▸S.new _ (.head _)).symm.trans e) (ι.mp e).2⟩
  have hv:Ξ W (vis (I::vol) s2.heap) ms vs:=Zu (I::vol) hk (λa m=>(List.mem_cons.mp m).elim (λz=>z▸S.live p0 _ (.head _)) ((I0.step k1).vol a)) (.head _)
  refine wpAny_ite ?_
  refine if_neg (Nat.not_lt.mpr (Nat.le_of_eq hv.len.symm))▸wpAny_bind (wpAny_holding (S.stop R p2 E _ λs3 k3 o3 g3=>wpAny_pure (k vs s3 ((hv.mono (h':=vis (I::vol) s3.heap) λb o e=>?_).mono nD) ⟨λb o e=>?_,o3.trans (k2.os.trans k1.os),g3.trans (k2.gens.trans k1.gens)⟩)))
  · have e:=ι.mp e
    exact ι.mpr ⟨k3 b o (λz=>e.2 (List.mem_singleton.mp z▸.head _)) e.1,e.2⟩
  · have hb:b∉[I]:=λz=>nomatch(List.mem_singleton.mp z▸hI).symm.trans e
    exact k3 b o hb (k2.keep b o hb (k1.keep b o e))
noncomputable def mZ(cx:Cx):List Expr->List XV->au->Option au
 |[],ms,ρ=>bif ak ms then some ρ else none|t::ts,ms,ρ=>(bA t).bind λx=>ms.casesOn none λm ms=>bif bO cx x then mZ cx ts ms ((x,m)::ρ)else none
def lG(cx:Cx)(ρ:au)(t:Expr)(m:XV):Option au:=(bA t).elim ((pM t).bind λts=>(hO m).bind λms=>mZ cx ts ms ρ) λx=>bif bO cx x then some ((x,m)::ρ)else none
theorem gx{x:Str}{p:Pos}{m:XV}{v:Value}(X:az W own vol cx ρ env s)(c:bO cx x=true)(hv:ω W (vis vol s.heap) m v)(E:Value->Shared->Prop)(Q:Unit->Shared->Prop)(k:∀s',az W own vol cx ((x,m)::ρ) env s'->ae own s s'->Q () s'):wpAny (Md W) A (assign (.Name x p) env v) Q E s:=wpAny_bind (m:=standAt p) (wpAny_standAt (wpAny_bindName (eg X c hv E _ k)))
theorem Dp{ts:List Expr}:∀{ms:List XV}{ρ aV:au}{s:Shared}{vs:List Value},mZ cx ts ms ρ=some aV->az W own vol cx ρ env s->Ξ W (vis vol s.heap) ms vs->∀(E:Value->Shared->Prop)(Q:Unit->Shared->Prop),(∀s',az W own vol cx aV env s'->ae own s s'->Q () s')->wpAny (Md W) A (assignInOrder ((assignEach ts env).map (·.2)) vs) Q E s:=by induction ts with
 |nil=>exact λ{ms ρ aV s vs}e X hv E Q k=>ξ e λh e=>wpAny_pure (k s (Option.some.inj e▸X) (.of (.refl _)))|cons t ts ih=>
  refine λ{ms ρ aV s vs}e X hv E Q k=>O e λx h e=>?_
  obtain⟨p,rfl⟩:=cz h
  cases ms with
  |nil=>exact ζ e|cons m ms=>
   exact ξ e λc e=>am (P:=λvs=>wpAny (Md W) A (assignInOrder ((assignEach (.Name x p::ts) env).map Prod.snd) vs) Q E s) hv λv vs v1 v2=>wpAny_bind (m:=holding vs (assign (.Name x p) env v)) (wpAny_holding (gx X c v1 E _ λs1 X1 k1=>ih e X1 (v2.mono (k1.vis X.sub)) E Q λs' X' k'=>k s' X' (k1.trans k')))
theorem zc{ts:List Expr}:∀{ms:List XV}{ρ aV:au},mZ cx ts ms ρ=some aV->ms.length=ts.length/\(assignEach ts env).length=ts.length/\(assignEach ts env).findIdx? (·.1)=none:=by induction ts with
 |nil=>exact λe=>ξ e λh e=>⟨congrArg List.length (nil_of h),rfl,rfl⟩|cons t ts ih=>
  refine λ{ms ρ aV}e=>O e λx h e=>?_
  obtain⟨p,rfl⟩:=cz h
  cases ms with
  |nil=>exact ζ e|cons m ms=>
   refine ξ e λc e=>?_
   obtain⟨h1,h2,h3⟩:=ih e
   exact⟨congrArg Nat.succ h1,congrArg Nat.succ h2,List.findIdx?_cons.trans (congrArg (Option.map Nat.succ) h3)⟩
theorem jM(R:ψ A d){t:Expr}{m:XV}{v:Value}{aV:au}(e:lG cx ρ t m=some aV)(X:az W own vol cx ρ env s)(hv:ω W (vis vol s.heap) m v)(E:Value->Shared->Prop)(Q:Unit->Shared->Prop)(k:∀s',az W own vol cx aV env s'->ae own s s'->Q () s'):wpAny (Md W) A (assign t env v) Q E s:=by
  refine db e (λ_ e=>O e λts h e=>O e λms e1 e2=>?_) λx h e=>?_
  · obtain⟨kk,p,rfl⟩:=Dn h
    obtain⟨h1,h2,h3⟩:=zc (env:=env) e2
    rw[arm_assign_Tuple]
    refine wpAny_bind (wpAny_standAt ?_)
    unfold unpack
    rw[h2,<-h1,h3]
    exact wpAny_bind (wpAny_holding (ir e1 X.inv R hv E _ λvs s1 Zu k1=>Dp e2 (X.step k1) Zu E Q λs' X' k'=>k s' X' ((ae.of k1).trans k')))
  · obtain⟨p,rfl⟩:=cz h
    refine ξ e λc e=>?_
    cases e
    exact gx X c hv E Q k
end
def ni(ρ:au)(t:Expr):Bool:=(bA t).elim ((pM t).elim false λts=>ts.all λt=>(bA t).elim false λx=>aZ (lk ρ x)) λx=>aZ (lk ρ x)
noncomputable def vg(tr:Expr->Option Bool):List Expr->Option Bool
 |[]=>some true|c::r=>(tr c).bind λb=>bif b then vg tr r else some false
noncomputable def nj(cx:Cx)(ρ:au)(si:au->Option (List XV))(tr:au->Expr->Option Bool)(target:Expr)(ifs:List Expr):List XV->Option (List XV)
 |[]=>some []|m::r=>(lG cx ρ target m).bind λaV=>(vg (tr aV) ifs).bind λb=>bif b then two (si aV) (nj cx ρ si tr target ifs r) λxs ys=>some (xs++ys)else nj cx ρ si tr target ifs r
noncomputable def A6(ev:au->Expr->Option XV)(tr:au->Expr->Option Bool)(cx:Cx)(elt:Expr):List Comprehension->au->Option (List XV)
 |[],ρ=>(ev ρ elt).map λx=>[x]|g::gs,ρ=>bif yS g.is_async 0&&(!fm g.iter&&ni ρ g.target)then(ev ρ g.iter).bind λo=>(hO o).bind λms=>nj cx ρ (A6 ev tr cx elt gs) tr g.target g.ifs ms else none
section
variable{W:aE}{A:Around}{vol own:List Addr}{s:Shared}{d:Nat}{env:Env}{cx:Cx}{ρ:au}{sv:Sv}
noncomputable def ma(ifs:List Expr)(env:Env):Sem Bool:=forIn ifs true λc r=>if r=true then do let ok<-isTrue c env (eval c env);pure (ForInStep.yield ok)else pure (ForInStep.yield r)
noncomputable def jR(elt:Expr)(g':Option Comprehension)(e:Expr)(k:Nat)(bh:Value)(env:Env)(ag:Sem PySem.Fin):Sem PySem.Fin:=match g' with
 |some g'=>do
  let x<-eval g'.iter env
  standAt g'.iter.pos let x<-foldedSetIterable g'.iter env x let _<-runOwn (.compStart e (k+1) (<-holding [x] (pyIter x)) bh env) env
  ag|none=>do
  (do let _<-call (.builtin "list.append") [bh,<-eval elt env]:Sem Unit)ag
theorem Gm{elt:Expr}{gens:List Comprehension}{scope:Scope}{pos:Pos}{k:Nat}{g:Comprehension}{g':Option Comprehension}{it bh:Value}{env:Env}(hg:gens[k]?=some g)(ha:g.is_async=0)(hn:gens[k+1]?=g')(ha':∀q,g'=some q->q.is_async=0):compTurn (.ListComp elt gens scope pos) k it bh env=(do
   standAt g.iter.pos match<-pyNext it with
   |none=>pure (.done .next)|some v=>
    letOwnedTupleGo g.target it v
    assign g.target env v let ok<-ma g.ifs env if ok=true then jR elt g' (.ListComp elt gens scope pos) k bh env (again (.compLoop (.ListComp elt gens scope pos) k it bh env))else again (.compLoop (.ListComp elt gens scope pos) k it bh env)):=by
 have hb:(g.is_async !=0)=false:=congrArg (λi:Int=>i !=0) ha
 unfold compTurn
 cases g' with
 |none=>
  simp only[hg,hb,hn,Bool.false_eq_true,if_false]
  rfl|some q=>
  have hb':(q.is_async !=0)=false:=congrArg (λi:Int=>i !=0) (ha' q rfl)
  simp only[hg,hb,hn,hb',Bool.false_eq_true,if_false]
  rfl
theorem gy{e:Expr}{env:Env}{x:Value}:fm e=false->foldedSetIterable e env x=pure x:=by cases e<;>first|exact λ_=>rfl|exact cq
theorem az.weak{aV:au}(X:az W own vol cx aV env s)(h:∀x m,lk ρ x=some m->lk aV x=some m):az W own vol cx ρ env s:=⟨⟨X.kind,X.names,X.globals,X.builtins,X.inv,X.loc.imp λm y=>⟨y.1,λx mv p q=>y.2 x mv (h x mv p) q⟩,λx mv p q=>X.z_ x mv (h x mv p) q⟩,X.sub,X.fF,X.mF,X.apart,X.free,X.cl⟩
theorem az.moved{oz:List Addr}{s':Shared}(X:az W own vol cx ρ env s)(V:(vis vol s.heap).StaysIn (vis oz s'.heap))(hv:∀a∈oz,∃o,s'.heap.get? a=some o)(ho:∀a∈own,a∈oz)(hL:∀o,s.heap.get? env.locals=some o->s'.heap.get? env.locals=some o)(hc:∀x c,env.cells.lookup x=some c->∀o,s.heap.get? c=some o->s'.heap.get? c=some o):az W own oz cx ρ env s':=⟨⟨X.kind,X.names,X.globals,X.builtins,⟨Ψ X.inv.top V,hv⟩,X.loc.imp λm y=>⟨y.1.at hL,λx mv p q=>(y.2 x mv p q).imp λv z=>⟨z.1,z.2.mono V⟩⟩,λx mv p q=>(X.z_ x mv p q).imp λc=>Exists.imp λv z=>⟨z.1,z.2.1.imp λo w=>⟨hc x c z.1 o w.1,w.2⟩,z.2.2.mono V⟩⟩,ho,X.fF,λx p=>(X.mF x p).imp λc=>Exists.imp λv z=>⟨z.1,z.2.1,z.2.2.1,z.2.2.2.imp λo w=>⟨hc x c z.1 o w.1,w.2⟩⟩,X.apart,X.free,λn c h=>(X.cl n c h).imp λo e=>hc n c h o e⟩
theorem mc{α:Type}{x y:Str}{m u:α}{l:List (Str×α)}(n:y≠x)(q:lk l x=some u):lk ((y,m)::l) x=some u:=(iC ..).trans ((if_neg n).trans q)
theorem xu{α:Type}{x y:Str}{u:α}{l:List (Str×α)}(h:aZ (lk l y)=true)(q:lk l x=some u):y≠x:=λz=>nomatch(mX h).symm.trans ((congrArg (lk l) z).trans q)
theorem v4{ts:List Expr}:∀{ms:List XV}{H6 ρ aV:au},mZ cx ts ms ρ=some aV->(ts.all λt=>(bA t).elim false λx=>aZ (lk H6 x))=true->(∀x m,lk H6 x=some m->lk ρ x=some m)->∀x m,lk H6 x=some m->lk aV x=some m:=by induction ts with
 |nil=>exact λe h k=>ξ e λ_ e=>Option.some.inj e▸k|cons t ts ih=>
  refine λ{ms H6 ρ aV}e h k=>O e λx hx e=>?_
  cases ms with
  |nil=>exact ζ e|cons v ms=>exact ξ e λc e=>η h λh1 h2=>ih e h2 λz u w=>mc (xu (a8 (C:=λo:Option Str=>(o.elim false λx=>aZ (lk H6 x))=true) hx.symm h1) w) (k z u w)
theorem qe{t:Expr}{m:XV}{aV:au}(e:lG cx ρ t m=some aV)(h:ni ρ t=true):∀x u,lk ρ x=some u->lk aV x=some u:=by
  refine db e (λhn e=>O e λts ht e=>O e λms e1 e2=>?_) λx hx e=>ξ e λc e=>?_
  · have h:((pM t).elim false λts=>ts.all λt=>(bA t).elim false λx=>aZ (lk ρ x))=true:=a8 (C:=λo:Option Str=>(o.elim ((pM t).elim false λts=>ts.all λt=>(bA t).elim false λx=>aZ (lk ρ x)) λx=>aZ (lk ρ x))=true) hn.symm h
    exact v4 e2 (a8 (C:=λo:Option (List Expr)=>(o.elim false λts=>ts.all λt=>(bA t).elim false λx=>aZ (lk ρ x))=true) ht.symm h) λ_ _ q=>q
  · have h:aZ (lk ρ x)=true:=a8 (C:=λo:Option Str=>(o.elim ((pM t).elim false λts=>ts.all λt=>(bA t).elim false λx=>aZ (lk ρ x)) λx=>aZ (lk ρ x))=true) hx.symm h
    cases e
    exact λy u q=>mc (xu h q) q
theorem v5{ifs:List Expr}:∀{s:Shared}{E:Value->Shared->Prop}{Q:Bool->Shared->Prop},Q false s->wpAny (Md W) A (forIn ifs false λc r=>if r=true then do let ok<-isTrue c env (eval c env);pure (ForInStep.yield ok)else pure (ForInStep.yield r)) Q E s:=by induction ifs with
 |nil=>exact λq=>wpAny_pure q|cons a l ih=>
  intro s E Q q
  rw[List.forIn_cons]
  exact wpAny_bind (wpAny_pure (ih q))
theorem Dq(ok:al W sv)(R:ψ A d){ifs:List Expr}:∀{b:Bool}{s:Shared},vg (sv.tr d cx ρ) ifs=some b->az W own vol cx ρ env s->∀(E:Value->Shared->Prop)(Q:Bool->Shared->Prop),(∀s',Step s s'->Q b s')->wpAny (Md W) A (ma ifs env) Q E s:=by induction ifs with
 |nil=>exact λe X E Q k=>wpAny_pure (Option.some.inj e▸k _ (.refl _))|cons c r ih=>
  refine λ{b s}e X E Q k=>O e λt e1 e=>?_
  unfold ma
  rw[List.forIn_cons]
  refine wpAny_bind (show wpAny (Md W) A (PySem.isTrue c env (eval c env)>>=λok=>pure (ForInStep.yield ok)) _ E s from wpAny_bind (ok.tr e1 X R E _ λs1 k1=>wpAny_pure ?_))
  cases t with
  |true=>exact ih e (X.step k1) E Q λs' q=>k s' (k1.trans q)|false=>exact v5 (Option.some.inj e▸k s1 k1)
structure pN(Is own:List Addr)(s s':Shared):Prop where
 keep:∀b o,b∉Is->b∉own->s.heap.get? b=some o->s'.heap.get? b=some o
 live:∀b o,b∉Is->s.heap.get? b=some o->∃o',s'.heap.get? b=some o'
 os:s'.os=s.os
 gens:s'.gens=s.gens
theorem pN.pre{Is own:List Addr}{s s' dz:Shared}(a:ae (Is++own) s s')(b:pN Is own s' dz):pN Is own s dz:=⟨λx o n m e=>b.keep x o n m (a.keep x o (λq=>(List.mem_append.mp q).elim n m) e),λx o n e=>(a.live x o e).elim λo' e'=>b.live x o' n e',b.os.trans a.os,b.gens.trans a.gens⟩
theorem az.side{s':Shared}{side:List Addr}(X:az W own vol cx ρ env s)(k:ae side s s')(h1:∀a∈side,a∈vol)(h2:env.locals∉side)(h3:∀x c,env.cells.lookup x=some c->c∉side):az W own vol cx ρ env s':=X.moved (k.vis h1) (X.inv.mV h1 k).vol X.sub (λo=>k.keep _ o h2) λx c q o=>k.keep c o (h3 x c q)
end
section
variable{W:aE}{A:Around}{vol own:List Addr}{s:Shared}{d:Nat}{env:Env}{cx:Cx}{ρ:au}{sv:Sv}
def iM(W:aE)(D:Addr)(vol:List Addr)(j9:List XV)(s:Shared):Prop:=∃ys n,s.heap.get? D=some (aI ys n)/\Ξ W (vis vol s.heap) j9 ys
abbrev sM:=(Shared->Prop)->(Value->Shared->Prop)->Shared->Prop
def vh(W:aE)(D:Addr)(cx:Cx)(env:Env)(si:au->Option (List XV))(eO:sM):Prop:=∀(vol:List Addr)(ρ:au)(xs j9:List XV)(s:Shared)(E:Value->Shared->Prop)(Q:Shared->Prop),si ρ=some xs->az W [env.locals] vol cx ρ env s->D∈vol->iM W D vol j9 s->j9.length+xs.length<=1000->(∀s',az W [env.locals] vol cx ρ env s'->iM W D vol (j9++xs) s'->ae [env.locals,D] s s'->Q s')->eO Q E s
def acV(W:aE)(A:Around)(env:Env)(g:Comprehension)(eO:sM)(ag:PySem.Fin)(it:Value)(Q:PySem.Fin->Shared->Prop)(E:Value->Shared->Prop)(s:Shared):Prop:=wpAny (Md W) A (pyNext it) (λr s1=>r.elim (Q (.done .next) s1) λv=>wpAny (Md W) A (letOwnedTupleGo g.target it v) (λ_ s2=>wpAny (Md W) A (assign g.target env v) (λ_ s3=>wpAny (Md W) A (ma g.ifs env) (λokb s4=>bif okb then eO (λs5=>Q ag s5) E s4 else Q ag s4) E s3) E s2) E s1) E s
def TurnOk(W:aE)(A:Around)(env:Env)(e:Expr)(k:Nat)(D:Addr)(g:Comprehension)(eO:sM):Prop:=∀(it:Value)(Q:PySem.Fin->Shared->Prop)(E:Value->Shared->Prop)(s:Shared),acV W A env g eO (.again (.compLoop e k it (.ref D) env)) it Q E s->wpAny (Md W) A (compTurn e k it (.ref D) env) Q E s
theorem iM.to{D:Addr}{j9:List XV}{oz:List Addr}{s':Shared}(x:iM W D vol j9 s)(V:(vis vol s.heap).StaysIn (vis oz s'.heap))(k:∀o,s.heap.get? D=some o->s'.heap.get? D=some o):iM W D oz j9 s':=x.imp λ_=>Exists.imp λ_ y=>⟨k _ y.1,y.2.mono V⟩
theorem iM.step{D:Addr}{j9:List XV}{s s':Shared}{side:List Addr}(x:iM W D vol j9 s)(k:ae side s s')(h1:∀a∈side,a∈vol)(h2:D∉side):iM W D vol j9 s':=x.to (k.vis h1) λo=>k.keep _ o h2
theorem jS{Is:List Addr}{s':Shared}(hk:∀b o,b∉Is->s.heap.get? b=some o->s'.heap.get? b=some o):(vis (Is++vol) s.heap).StaysIn (vis vol s'.heap):=λb o e=>have e:=ι.mp e
 ι.mpr ⟨hk b o (λz=>e.2 (List.mem_append_left _ z)) e.1,λm=>e.2 (List.mem_append_right _ m)⟩
theorem az.sub'{Is:List Addr}{s':Shared}(X:az W own (Is++vol) cx ρ env s)(hk:∀b o,b∉Is->s.heap.get? b=some o->s'.heap.get? b=some o)(hv:∀a∈own,a∈vol)(hI:∀a∈Is,a∉vol)(hL:env.locals∉Is)(hc:∀x c,env.cells.lookup x=some c->c∉Is):az W own vol cx ρ env s':=X.moved (jS hk) (λa m=>(X.inv.vol a (List.mem_append_right _ m)).imp λo=>hk a o λz=>hI a z m) hv (λo=>hk _ o hL) λx c q o=>hk c o (hc x c q)
theorem w9.after{h:Heap}{I:Addr}{Is:List Addr}{ms:List XV}{tg:Expr}{P:Nat->Shared->Prop}{Pm:Nat->Value->Shared->Prop}(S:w9 W h I Is ms tg P Pm){j:Nat}{s s':Shared}{side:List Addr}(p:P j s)(k:ae side s s')(hs:∀a∈Is,a∉side)(hh:∀b∈side,h.get? b=none):P j s':=S.frame p (λa m=>(S.live p a m).elim λo e=>(k.keep a o (hs a m) e).trans e.symm) λb o e=>k.keep b o (λm=>nomatch(hh b m).symm.trans e) (S.st p b o e)
theorem ae.sup{l l':List Addr}{a b:Shared}(q:ae l a b)(h:∀x∈l,x∈l'):ae l' a b:=⟨λx o n e=>q.keep x o (λm=>n (h x m)) e,q.live,q.os,q.gens⟩
theorem xv(ok:al W sv)(R:ψ A d){e:Expr}{k:Nat}{g:Comprehension}{D:Addr}{si:au->Option (List XV)}{eO:sM}(aax:∀it,(Md W).den (.compLoop e k it (.ref D) env)=(compTurn e k it (.ref D) env).onRaise (λx=>do noteFrame x env;theTreesLotGoes x))(aay:∀it,A.under (.compLoop e k it (.ref D) env)=A)(II:TurnOk W A env e k D g eO)(acW:vh W D cx env si eO)(B4:ni ρ g.target=true)(l4:D≠env.locals){h:Heap}{I:Addr}{Is:List Addr}{ms:List XV}{P:Nat->Shared->Prop}{Pm:Nat->Value->Shared->Prop}(S:w9 W h I Is ms g.target P Pm)(Zv:env.locals∉Is)(hID:D∉Is)(Ac:∀x c,env.cells.lookup x=some c->c∉Is)(sd:∀a∈Is,a∉vol)(yT:D∈vol)(EV:env.locals∈vol)(hhv:∀b∈Is++vol,h.get? b=none){RR:Result->Shared->Prop}(n:Nat):∀(i:Nat)(s:Shared)(j9 xs:List XV),i+n=ms.length->P i s->nj cx ρ si (sv.tr d cx) g.target g.ifs (ms.drop i)=some xs->az W [env.locals] (Is++vol) cx ρ env s->iM W D (Is++vol) j9 s->j9.length+xs.length<=1000->(∀s',az W [env.locals] vol cx ρ env s'->iM W D vol (j9++xs) s'->pN Is [env.locals,D] s s'->RR (.ok .next) s')->codeAny (Md W) A (.compLoop e k (.ref I) (.ref D) env) RR s:=by
 have hC1:∀a∈[env.locals],a∈vol:=aG EV
 induction n with
 |zero=>
  intro i s j9 xs hi p e1 X bh lH kk
  cases show i=ms.length from hi
  rw[List.drop_length]at e1
  refine codeAny_of_tree ?_
  rw[aax,aay]
  refine wpAny_noted (II _ _ _ _ (S.stop R p _ _ λs1 k1 o1 g1=>kk s1 (X.sub' k1 hC1 sd Zv Ac) ?_ ⟨λb o n _ e=>k1 b o n e,λb o n e=>⟨o,k1 b o n e⟩,o1,g1⟩))
  exact Option.some.inj e1▸(List.append_nil j9).symm▸bh.to (jS k1) λo=>k1 _ o hID|succ n ih=>
  intro i s j9 xs hi p e1 X bh lH kk
  have uR:i<ms.length:=hi▸Nat.lt_add_of_pos_right (Nat.succ_pos n)
  have hi':i+1+n=ms.length:=(Nat.add_right_comm i 1 n).trans hi
  rw[List.drop_eq_getElem_cons uR]at e1
  refine O e1 λaV e2 e1=>O e1 λb e3 e1=>codeAny_of_tree ?_
  have fM:∀a∈Is,a∈Is++vol:=λa m=>List.mem_append_left _ m
  have hLh:∀b∈[env.locals],h.get? b=none:=aG (hhv _ (List.mem_append_right _ EV))
  have hDL:∀b∈[env.locals,D],h.get? b=none:=λb m=>(List.mem_cons.mp m).elim (λz=>z▸hhv _ (List.mem_append_right _ EV)) (aG (P:=λb=>h.get? b=none) (hhv _ (List.mem_append_right _ yT)) b)
  have aeO:D∉[env.locals]:=λm=>l4 (List.mem_singleton.mp m)
  have IJ:∀{p:Addr->Prop},∀a∈([]:List Addr),p a:=λa m=>nomatch m
  rw[aax,aay]
  refine wpAny_noted (II _ _ _ _ (S.next R p (List.getElem?_eq_getElem uR) _ _ λv s1 p1 k1 hv=>?_))
  have X1:=X.side k1 fM Zv Ac
  have Am:h.StaysIn (vis (Is++vol) s1.heap):=λb o e=>ι.mpr ⟨S.Q' p1 b o e,λm=>nomatch(hhv b m).symm.trans e⟩
  refine S.owned p1 λs2 p2 k2=>jM R e2 (X1.side k2 fM Zv Ac) ((hv (Is++vol) Am X.inv.vol).mono (k2.vis fM)) _ _ λs3 X3 k3=>Dq ok R e3 X3 _ _ λs4 k4=>?_
  have k4':ae ([]:List Addr) s3 s4:=ae.of k4
  have X4:=X3.step k4
  have aaz:=(((bh.step k1 fM hID).step k2 fM hID).step k3 (λa m=>List.mem_append_right _ (hC1 a m)) aeO).step k4' IJ λm=>nomatch m
  have p4:P (i+1) s4:=S.after (S.after p2 k3 (λa m z=>Zv (List.mem_singleton.mp z▸m)) hLh) k4' (λ_ _ m=>nomatch m) IJ
  have H7:∀x∈Is,x∈Is++[env.locals,D]:=λx m=>List.mem_append_left _ m
  have H8:ae (Is++[env.locals,D]) s s4:=(((k1.sup H7).trans (k2.sup H7)).trans (k3.sup (aG (List.mem_append_right _ (.head _))))).trans (ae.of k4)
  cases b with
  |false=>exact⟨rfl,ih (i+1) s4 j9 xs hi' p4 e1 (X4.weak (qe e2 B4)) aaz lH λs' a b c=>kk s' a b (c.pre H8)⟩|true=>
   refine π e1 λzs ws e4 e5 e1=>?_
   cases e1
   have lH:j9.length+zs.length+ws.length<=1000:=Nat.le_trans (Nat.le_of_eq ((Nat.add_assoc ..).trans (congrArg (j9.length+·) List.length_append.symm))) lH
   refine acW (Is++vol) aV zs j9 s4 _ _ e4 X4 (List.mem_append_right _ yT) aaz (Nat.le_trans (Nat.le_add_right _ _) lH) λs5 X5 aeP k5=>⟨rfl,ih (i+1) s5 (j9++zs) ws hi' ?_ e5 (X5.weak (qe e2 B4)) aeP (List.length_append.symm▸lH) λs' a b c=>kk s' a (List.append_assoc ..▸b) (c.pre (H8.trans (k5.sup λx m=>List.mem_append_right _ m)))⟩
   exact S.after p4 k5 (λa m z=>(List.mem_cons.mp z).elim (λz=>Zv (z▸m)) λz=>hID (List.mem_singleton.mp z▸m)) hDL
end
section
variable{W:aE}{A:Around}{vol own:List Addr}{s:Shared}{d:Nat}{env:Env}{cx:Cx}{ρ:au}{sv:Sv}
def tm(W:aE)(A:Around)(D:Addr)(env:Env)(elt:Expr)(Q:Shared->Prop)(E:Value->Shared->Prop)(s:Shared):Prop:=wpAny (Md W) A (eval elt env) (λx s1=>wpAny (Md W) A (call (.builtin "list.append") [.ref D,x]) (λ_ s2=>Q s2) E s1) E s
def tn(W:aE)(A:Around)(D:Addr)(env:Env)(e:Expr)(k:Nat)(g:Comprehension)(Q:Shared->Prop)(E:Value->Shared->Prop)(s:Shared):Prop:=wpAny (Md W) A (eval g.iter env) (λx s1=>wpAny (Md W) A (pyIter x) (λit s2=>wpAny (Md W) A (runOwn (.compStart e k it (.ref D) env) env) (λ_ s3=>Q s3) E s2) E s1) E s
theorem zd(ok:al W sv)(R:ψ A d){D:Addr}{elt:Expr}(l4:D≠env.locals)(Zw:∀x c,env.cells.lookup x=some c->c≠D):vh W D cx env (λρ=>(sv.ev d cx ρ elt).map λx=>[x]) (tm W A D env elt):=by
 refine λvol ρ xs j9 s E Q e1 X yT bh lH k=>?_
 obtain⟨m,e2,rfl⟩:=Option.map_eq_some_iff.mp e1
 refine ok.ev e2 X R E _ λv s1 h1 k1=>bh.elim λys=>Exists.rec λn a=>?_
 have hl:ys.toArray.size<sizeLine:=show ys.length<sizeLine from a.2.len▸Nat.lt_of_lt_of_le lH (sizeLine_eq▸by decide)
 refine wpAny_list_append_plain (items:=ys.toArray) ⟨n,k1.keep _ _ a.1⟩ (λh' hp hs=>hp.elim λn' hp=>?_) (Nat.le_of_lt hl)
 have st:ae [D] s1 {s1 with heap:=h'}:=n5 hs hp
 refine k _ ((X.step k1).side st (aG yT) (λm=>l4 (List.mem_singleton.mp m).symm) λx c q m=>Zw x c q (List.mem_singleton.mp m)) ⟨ys++[v],n',hp.trans ?_,((el (a.2.step k1) (Δ h1 aC)).mono (st.vis (aG yT)))⟩ ((ae.of k1).trans (st.sup (aG (.tail _ (.head _)))))
 exact congrArg (λl=>some ({cls:=.type "list",data:=.seq l n'}:Obj)) (List.push_toArray ..)
theorem tq{e:Expr}{elt:Expr}{gens:List Comprehension}{scope:Scope}{pos:Pos}{k:Nat}{g:Comprehension}{I:Addr}{bh:Value}{RR:Result->Shared->Prop}(he:e=.ListComp elt gens scope pos)(hg:gens[k]?=some g)(ha:g.is_async=0)(h0:codeAny (Md W) A (.compLoop e k (.ref I) bh env) RR s)(hs:∀(E Q:Value->Shared->Prop),Q (.ref I) s->wpAny (Md W) A (pyIter (.ref I)) Q E s):codeAny (Md W) A (.compStart e k (.ref I) bh env) RR s:=by
 subst he
 refine codeAny_of_tree ?_
 show wpAny _ _ ((compStart (.ListComp elt gens scope pos) k (.ref I) bh env).onRaise (λx=>do noteFrame x env;standAt theWindowsPlace)) _ _ s
 refine wpAny_notedAt ?_
 unfold compStart
 have hb:(g.is_async !=0)=false:=congrArg (λi:Int=>i !=0) ha
 have hc:(clausesOf (.ListComp elt gens scope pos))[k]?=some g:=hg
 simp only[hc,Option.elim,hb,Bool.false_eq_true,if_false]
 refine wpAny_bind (wpAny_askSetting (wpAny_ite ?_))
 split
 ·first
  |exact wpAny_bind (wpAny_pure (wpAny_pure (And.intro rfl h0)))|exact wpAny_pure (And.intro rfl h0)
 ·first
  |exact wpAny_bind (wpAny_rule (wpAny_bind (wpAny_standAt (wpAny_bind (hs _ _ (wpAny_pure (And.intro rfl h0)))))))|exact wpAny_bind (wpAny_rule (wpAny_bind (wpAny_bind (wpAny_standAt (wpAny_pure (wpAny_bind (hs _ _ (wpAny_pure (And.intro rfl h0)))))))))
theorem IK{elt:Expr}{gens:List Comprehension}{scope:Scope}{pos:Pos}{k:Nat}{g:Comprehension}{g':Option Comprehension}{D:Addr}{eO:sM}(hg:gens[k]?=some g)(ha:g.is_async=0)(hn:gens[k+1]?=g')(ha':∀q,g'=some q->q.is_async=0)(ht:∀(ag:PySem.Fin)(Q:PySem.Fin->Shared->Prop)(E:Value->Shared->Prop)(s:Shared),eO (λs=>Q ag s) E s->wpAny (Md W) A (jR elt g' (.ListComp elt gens scope pos) k (.ref D) env (pure ag)) Q E s):TurnOk W A env (.ListComp elt gens scope pos) k D g eO:=by
 refine λit Q E s h=>Gm hg ha hn ha'▸wpAny_bind (wpAny_standAt (wpAny_bind (wpAny_mono h (λr s1 h1=>?_) λ_ _ x=>x)))
 cases r with
 |none=>exact wpAny_pure h1|some v=>
  refine wpAny_bind (wpAny_mono h1 (λ_ s2 h2=>wpAny_bind (wpAny_mono h2 (λ_ s3 h3=>wpAny_bind (wpAny_mono h3 (λokb s4 h4=>?_) λ_ _ x=>x)) λ_ _ x=>x)) λ_ _ x=>x)
  cases okb with
  |false=>exact wpAny_pure h4|true=>exact ht _ _ _ _ h4
theorem acX{elt:Expr}{e:Expr}{k:Nat}{D:Addr}(ag:PySem.Fin)(Q:PySem.Fin->Shared->Prop)(E:Value->Shared->Prop)(s:Shared)(h:tm W A D env elt (λs=>Q ag s) E s):wpAny (Md W) A (jR elt none e k (.ref D) env (pure ag)) Q E s:=wpAny_bind (wpAny_bind (wpAny_mono h (λx s5 h5=>wpAny_bind (wpAny_mono h5 (λ_ s6 h6=>wpAny_pure (wpAny_pure h6)) λ_ _ x=>x)) λ_ _ x=>x))
theorem acY{elt:Expr}{e:Expr}{k:Nat}{D:Addr}{g':Comprehension}(hs:fm g'.iter=false)(ag:PySem.Fin)(Q:PySem.Fin->Shared->Prop)(E:Value->Shared->Prop)(s:Shared)(h:tn W A D env e (k+1) g' (λs=>Q ag s) E s):wpAny (Md W) A (jR elt (some g') e k (.ref D) env (pure ag)) Q E s:=wpAny_bind (m:=eval g'.iter env) (wpAny_mono h (λx s5 h5=>wpAny_bind (wpAny_standAt (wpAny_bind (wpAny_of_eq (gy hs) (wpAny_bind (wpAny_holding (wpAny_mono h5 (λit2 s6 h6=>wpAny_bind (wpAny_mono h6 (λ_ s7 h7=>wpAny_pure h7) λ_ _ x=>x)) λ_ _ x=>x))))))) λ_ _ x=>x)
noncomputable def qX:List Comprehension->Bool
 |[]=>true|g::r=>(yS g.is_async 0&&!fm g.iter)&&qX r
theorem qY{a b:Int}(h:yS a b=true):a=b:=eq_of_beq h
theorem kU(A:Around)(h:A.handled=none):A.mark none=A:=by cases A;cases h;rfl
theorem az.hide{I:Addr}{s':Shared}{oI:Obj}(X:az W own vol cx ρ env s)(k:Step s s')(hI:s.heap.get? I=none)(ho:s'.heap.get? I=some oI):az W own (I::vol) cx ρ env s':=X.moved (iH (ba k.keep) hI) (λa m=>(List.mem_cons.mp m).elim (λz=>⟨_,z▸ho⟩) λm=>(X.inv.vol a m).imp (k.keep a)) (λa m=>.tail _ (X.sub a m)) (k.keep _) λx c _=>k.keep c
theorem fT{s s':Shared}(k:Step s s'){a:Addr}(h:s'.heap.get? a=none):s.heap.get? a=none:=by cases e:s.heap.get? a with
 |none=>rfl|some o=>exact nomatch h.symm.trans (k.keep _ _ e)
theorem Dr(ok:al W sv)(R:ψ A d){D:Addr}{elt:Expr}{gens:List Comprehension}{scope:Scope}{pos:Pos}(l4:D≠env.locals)(Zw:∀x c,env.cells.lookup x=some c->c≠D)(gs:List Comprehension):∀(k:Nat),gens.drop (k+1)=gs->qX gs=true->∃eO,vh W D cx env (A6 (sv.ev d cx) (sv.tr d cx) cx elt gs) eO/\(∀g,gens[k]?=some g->g.is_async=0->TurnOk W A env (.ListComp elt gens scope pos) k D g eO):=by induction gs with
 |nil=>exact λk hd hgo=>⟨_,zd ok R l4 Zw,λg hg ha=>IK hg ha (List.head?_drop.symm.trans (congrArg List.head? hd)) (λq e=>nomatch e) acX⟩|cons g' gs ih=>
  refine λk hd hgo=>η hgo λc hgo=>η c λc1 c2=>?_
  have hn:gens[k+1]?=some g':=List.head?_drop.symm.trans (congrArg List.head? hd)
  obtain⟨TW,em,tu⟩:=ih (k+1) (List.tail_drop.symm.trans (congrArg List.tail hd)) hgo
  refine⟨tn W A D env (.ListComp elt gens scope pos) (k+1) g',λvol ρ xs j9 s E Q e1 X yT bh lH kk=>ξ e1 λc e1=>O e1 λo e2 e1=>O e1 λms e3 e1=>η c λc3 c=>η c λ_ c4=>?_,λg hg ha=>IK hg ha hn (λq e=>Option.some.inj e▸qY c1) (acY (aP c2))⟩
  refine ok.ev e2 X R E _ λvo s1 h1 k1=>?_
  have X1:=X.step k1
  refine l_ e3 X1.inv h1 E _ λI s2 P S0 p0 k2 hI=>?_
  have S:=S0 (.Name "x" ⟨0,0,0,0⟩)
  have sd:I∉vol:=X1.inv.fresh hI
  have EV:env.locals∈vol:=X.sub _ (.head _)
  have hIs:s.heap.get? I=none:=fT k1 hI
  have hx:∀{b:Addr}{o:Obj},s.heap.get? b=some o->b∉[I]:=λe z=>nomatch(List.mem_singleton.mp z▸hIs).symm.trans e
  have aeQ:=bh.to (iH (ba (k1.trans k2).keep) hIs) ((k1.trans k2).keep D)
  refine(S.live p0 I (.head _)).elim λoI hoI=>wpAny_runOwn (kU A R.handled▸tq rfl hn (qY c1) ?_ λE Q q=>S.self p0 q)
  refine xv ok R (λit=>rfl) (λit=>Around.under_of_weight rfl) (tu _ hn (qY c1)) em c4 l4 (S0 _) (λm=>sd (List.mem_singleton.mp m▸EV)) (λm=>sd (List.mem_singleton.mp m▸yT)) (λx c q=>(X.cl x c q).elim λo e=>hx e) (aG sd) yT EV (λb m=>(List.mem_cons.mp m).elim (λz=>z▸S.new _ (.head _)) λm=>hideAll_none _ m) ms.length 0 s2 j9 xs (Nat.zero_add _) p0 e1 (X1.hide k2 hI hoI) aeQ lH λs3 X3 aeR k3=>?_
  have E9:=k1.trans k2
  exact kk s3 X3 aeR ⟨λb o n e=>k3.keep b o (hx e) n (E9.keep b o e),λb o e=>k3.live b o (hx e) (E9.keep b o e),k3.os.trans E9.os,k3.gens.trans E9.gens⟩
end
noncomputable def jT(a b:NameKind):Bool:=decide (a=b)
noncomputable def Gn(k:NameKind):Bool:=k.casesOn false false true false false
noncomputable def rE(k:NameKind):Bool:=k.casesOn false true false false false
noncomputable def qZ(all:List (Str×NameKind)):List (Str×NameKind)->Bool
 |[]=>true|p::r=>(lk all p.1).elim false (jT p.2)&&qZ all r
noncomputable def q4(cx:Cx)(ρ:au):List (Str×NameKind)->Option au
 |[]=>some []|p::r=>bif Gn p.2 then bif(lk cx.names p.1).elim false rE then two (lk ρ p.1) (q4 cx ρ r) λm q=>some ((p.1,m)::q)else none else q4 cx ρ r
noncomputable def B5(k:ScopeKind):Bool:=Nat.beq k.ctorIdx 1
abbrev kL:=Nat->Cx->au->Expr->Expr->Option (List XV)
def bR(W:aE)(it:kL):Prop:=∀{d:Nat}{cx:Cx}{ρ:au}{tg e:Expr}{ms:List XV},it d cx ρ tg e=some ms->∀{A:Around}{own vol:List Addr}{env:Env}{s:Shared},az W own vol cx ρ env s->ψ A d->∀(E Q:Value->Shared->Prop),(∀I Is s2 P Pm h,w9 W h I Is ms tg P Pm->P 0 s2->Step s s2->(∀a∈Is,s.heap.get? a=none)->(∀b∈vol,h.get? b=none)->Q (.ref I) s2)->wpAny (Md W) A (eval e env) (λvo s1=>wpAny (Md W) A (pyIter vo) Q E s1) E s
def qf(sv:Sv)(d:Nat)(jq:au)(elt:Expr)(g:Comprehension)(gs:List Comprehension)(scope:Scope)(ms:List XV):Option (List XV):=nj ⟨scope.names⟩ jq (A6 (sv.ev d ⟨scope.names⟩) (sv.tr d ⟨scope.names⟩) ⟨scope.names⟩ elt gs) (sv.tr d ⟨scope.names⟩) g.target g.ifs ms
def hU(it:kL)(sv:Sv)(d:Nat)(cx:Cx)(ρ:au)(elt:Expr)(gens:List Comprehension)(scope:Scope):Option XV:=gens.casesOn none λg gs=>bif(qX (g::gs)&&fb scope.names)&&(B5 scope.kind&&qZ scope.names scope.names)then(q4 cx ρ scope.names).bind λjq=>bif ni jq g.target then(it d cx ρ g.target g.iter).bind λms=>(qf sv d jq elt g gs scope ms).bind λxs=>bif Nat.ble xs.length 1000 then some (.list xs)else none else none else none
section
variable{W:aE}{A:Around}{vol own:List Addr}{s:Shared}{d:Nat}{env:Env}{cx:Cx}{ρ:au}{sv:Sv}
theorem ue{a b:NameKind}(h:jT a b=true):a=b:=of_decide_eq_true h
theorem n6{all l:List (Str×NameKind)}:qZ all l=true->∀x k,(x,k)∈l->all.lookup x=some k:=by induction l with
 |nil=>exact λ_ x k m=>nomatch m|cons p r ih=>
  intro h x k m
  refine η h λh1 h2=>(List.mem_cons.mp m).elim (λe=>?_) (ih h2 x k)
  cases e
  cases q:lk all x with
  |none=>exact υ (a8 (C:=λo:Option NameKind=>o.elim false (jT k)=true) q.symm h1)|some k'=>exact(aU q).trans (congrArg some (ue (a8 (C:=λo:Option NameKind=>o.elim false (jT k)=true) q.symm h1)).symm)
def B6(cx:Cx)(ρ:au)(l:List (Str×NameKind))(jq:au):Prop:=(∀x,(x,NameKind.free)∈l->cx.names.lookup x=some .cell)/\∀x m,lk jq x=some m->lk ρ x=some m/\cx.names.lookup x=some .cell/\(x,NameKind.free)∈l
theorem uf{l:List (Str×NameKind)}:∀{jq:au},q4 cx ρ l=some jq->B6 cx ρ l jq:=by induction l with
 |nil=>exact λe=>Option.some.inj e▸⟨λx m=>(nomatch m),λx m e=>(nomatch e)⟩|cons p r ih=>
  obtain⟨y,k⟩:=p
  cases k with
  |free=>
   refine λ{jq}e=>ξ e λc e=>π e λm q e1 e2 e=>?_
   cases e
   obtain⟨h1,h2⟩:=ih e2
   have q1:cx.names.lookup y=some .cell:=by cases q:lk cx.names y with
    |none=>exact υ (a8 (C:=λo:Option NameKind=>o.elim false rE=true) q.symm c)|some k=>
     have c:=a8 (C:=λo:Option NameKind=>o.elim false rE=true) q.symm c
     cases k with
     |cell=>exact aU q|_=>exact υ c
   exact⟨λx m=>(List.mem_cons.mp m).elim (λe=>(Prod.mk.inj e).1▸q1) (h1 x),λx m q=>g0 q (λz w=>z▸w▸⟨e1,q1,.head _⟩) λz w=>(h2 x m w).imp_right λb=>b.imp_right λc=>.tail _ c⟩|_=>exact λe=>(ih e).imp (λh x m=>(List.mem_cons.mp m).elim (λe=>NameKind.noConfusion (Prod.mk.inj e).2) (h x)) λh x m q=>(h x m q).imp_right λb=>b.imp_right λc=>.tail _ c
noncomputable def fN(env:Env):List (Str×NameKind)->List (Str×Addr)->List (Str×Addr)
 |[],bh=>bh|(n,k)::r,bh=>if k==.free then fN env r ((n,(env.cells.lookup n).getD 0)::bh)else fN env r bh
theorem py{scope:Scope}(h:∀x,(x,NameKind.free)∈scope.names->∃c,env.cells.lookup x=some c):closureFor scope env=pure (fN env scope.names []):=by
 simp only[closureFor]
 have key:∀(l:List (Str×NameKind))(bh:List (Str×Addr)),(∀x,(x,NameKind.free)∈l->∃c,env.cells.lookup x=some c)->(forIn l bh λ(p:Str×NameKind)(cs:List (Str×Addr))=>match p with
    |(name,kind)=>if(kind==NameKind.free)=true then do
     let a<-cellOf env name
     pure (ForInStep.yield ((name,a)::cs))else pure (ForInStep.yield cs):Sem (List (Str×Addr)))=pure (fN env l bh):=by
  intro l
  induction l with
  |nil=>exact λbh _=>rfl|cons p r ih=>
   intro bh hl
   obtain⟨n,k⟩:=p
   rw[List.forIn_cons]
   cases k with
   |free=>
    obtain⟨c,hc⟩:=hl n (.head _)
    show(cellOf env n>>=λa=>pure (ForInStep.yield ((n,a)::bh)))>>=_=pure (fN env r ((n,(env.cells.lookup n).getD 0)::bh))
    unfold cellOf
    rw[hc]
    exact ih _ λx m=>hl x (.tail _ m)|_=>exact ih _ λx m=>hl x (.tail _ m)
 rw[show(forIn scope.names ([]:List (Str×Addr)) _:Sem (List (Str×Addr)))=pure (fN env scope.names [])from key scope.names [] h]
 rfl
theorem ze{α:Type}{x n:Str}{v u:α}{l:List (Str×α)}{P:Prop}(e:((n,v)::l).lookup x=some u)(k:x=n->v=u->P)(m:l.lookup x=some u->P):P:=by
 rw[List.lookup_cons]at e
 cases h:x==n with
 |true=>exact k (eq_of_beq h) (Option.some.inj (a8 (C:=λb=>(match b with|true=>some v|false=>l.lookup x)=some u) h.symm e))|false=>exact m (a8 (C:=λb=>(match b with|true=>some v|false=>l.lookup x)=some u) h.symm e)
theorem rV{x:Str}{c:Addr}(l:List (Str×NameKind)):∀(bh:List (Str×Addr)),(∀y,(y,NameKind.free)∈l->∃c,env.cells.lookup y=some c)->(∀y c,bh.lookup y=some c->env.cells.lookup y=some c)->(fN env l bh).lookup x=some c->env.cells.lookup x=some c:=by induction l with
 |nil=>exact λbh _ h e=>h x c e|cons p r ih=>
  obtain⟨n,k⟩:=p
  cases k with
  |free=>
   refine λbh hl h e=>(hl n (.head _)).elim λc' hc=>ih _ (λy m=>hl y (.tail _ m)) (λy z q=>ze q (λa b=>?_) (h y z)) e
   exact a▸b▸hc.symm▸rfl|_=>exact λbh hl h e=>ih bh (λy m=>hl y (.tail _ m)) h e
theorem zf{x:Str}(l:List (Str×NameKind)):∀(bh:List (Str×Addr)),((x,NameKind.free)∈l\/∃c,bh.lookup x=some c)->∃c,(fN env l bh).lookup x=some c:=by induction l with
 |nil=>exact λbh h=>h.elim (λh=>nomatch h) id|cons p r ih=>
  obtain⟨n,k⟩:=p
  cases k with
  |free=>
   refine λbh h=>ih _ ?_
   by_cases hx:x=n
   ·subst hx;exact .inr ⟨_,List.lookup_cons_self ..⟩
   ·exact h.imp (λh=>(List.mem_cons.mp h).elim (λe=>absurd (Prod.mk.inj e).1 hx) id) λh=>h.imp λc h=>List.lookup_cons.trans ((beq_eq_false_iff_ne.mpr hx).symm▸h)|_=>exact λbh h=>ih bh (h.imp_left λh=>(List.mem_cons.mp h).elim (λe=>NameKind.noConfusion (Prod.mk.inj e).2) id)
theorem ou{scope:Scope}{x:Str}{k:NameKind}{l:List (Str×NameKind)}:l.lookup x=some k->(l.map λ(n,k)=>if(k==NameKind.free&&env.scope.kind==.function&&env.kindOf n==some .cell)then(n,NameKind.cell)else(n,k)).lookup x=some k\/(k=.free/\(l.map λ(n,k)=>if(k==NameKind.free&&env.scope.kind==.function&&env.kindOf n==some .cell)then(n,NameKind.cell)else(n,k)).lookup x=some .cell):=by induction l with
|nil=>exact λh=>nomatch h|cons p r ih=>
    obtain⟨y,k'⟩:=p
    intro h
    rw[List.map_cons]
    dsimp only
    have go:∀Ra M,(Ra=k'\/(k'=.free/\Ra=.cell))->(r.lookup x=some k->M.lookup x=some k\/(k=.free/\M.lookup x=some .cell))->((y,Ra)::M).lookup x=some k\/(k=.free/\((y,Ra)::M).lookup x=some .cell):=λRa M hk hM=>by
      rw[List.lookup_cons]at h⊢
      cases hx:x==y with
|true=>
        rw[hx]at h
        exact Option.some.inj h▸hk.imp (congrArg some) λe=>⟨e.1,congrArg some e.2⟩|false=>exact hM (a8 (C:=λb=>(match b with|true=>some k'|false=>r.lookup x)=some k) hx.symm h)
    by_cases hc:(k'==NameKind.free&&env.scope.kind==.function&&env.kindOf y==some .cell)=true
    · rw[show(if(k'==NameKind.free&&env.scope.kind==.function&&env.kindOf y==some .cell)=true then(y,NameKind.cell)else(y,k'))=(y,NameKind.cell)from if_pos hc]
      exact go _ _ (.inr ⟨eq_of_beq (Bool.and_eq_true_iff.mp (Bool.and_eq_true_iff.mp hc).1).1,rfl⟩) ih
    · rw[show(if(k'==NameKind.free&&env.scope.kind==.function&&env.kindOf y==some .cell)=true then(y,NameKind.cell)else(y,k'))=(y,k')from if_neg hc]
      exact go _ _ (.inl rfl) ih
structure ja(it:kL)(sv:Sv)(d:Nat)(cx:Cx)(ρ:au)(elt:Expr)(scope:Scope)(g:Comprehension)(gs:List Comprehension)(jq:au)(ms xs:List XV):Prop where
 async:g.is_async=0
 acZ:fm g.iter=false
 gens:qX gs=true
 nc:fb scope.names=true
 kind:scope.kind=.function
 so:qZ scope.names scope.names=true
 fi:B6 cx ρ scope.names jq
 fr:ni jq g.target=true
 src:it d cx ρ g.target g.iter=some ms
 items:qf sv d jq elt g gs scope ms=some xs
 len:xs.length<=1000
def tv(W:aE)(vol:List Addr)(s:Shared)(xs:List XV)(RR:Value->Addr->Result->Shared->Prop):Prop:=∀D C s' m ys n,s'.heap.Ns C m->s.heap.get? D=none->s.heap.get? C=none->D≠C->s'.heap.get? D=some (aI ys n)->Ξ W (vis (C::D::vol) s'.heap) xs ys->Step s s'->RR (.ref D) C (.ok .next) s'
theorem E_{C D:Addr}{l:List Addr}{P:Addr->Prop}(h1:P C)(h2:P D)(h:∀a∈l,P a):∀a∈C::D::l,P a:=λa m=>(List.mem_cons.mp m).elim (λz=>z▸h1) λm=>(List.mem_cons.mp m).elim (λz=>z▸h2) (h a)
theorem hV{l l':List Addr}{P:Addr->Prop}(h1:∀a∈l,P a)(h:∀a∈l',P a):∀a∈l++l',P a:=λa m=>(List.mem_append.mp m).elim (h1 a) (h a)
theorem v6{it:kL}(IT:bR W it)(ok:al W sv)(R:ψ A d){elt:Expr}{g:Comprehension}{gs:List Comprehension}{scope:Scope}{pos:Pos}{jq:au}{ms xs:List XV}{RR:Value->Addr->Result->Shared->Prop}{E:Value->Shared->Prop}(X:az W own vol cx ρ env s)(F:ja it sv d cx ρ elt scope g gs jq ms xs)(hRR:tv W vol s xs RR):wpAny (Md W) A (eval g.iter env) (λvo s1=>wpAny (Md W) A (pyIter vo) (λit s2=>wpAny (Md W) A (newList []) (λbh s3=>wpAny (Md W) A (newFunctionEnv scope env.globals (fN env scope.names []) [] env.qual none .none (some env)) (λaaA s4=>codeAny (Md W) A (.compStart (.ListComp elt (g::gs) scope pos) 0 it bh {aaA with scope:=relabel scope env}) (RR bh aaA.locals) s4) E s3) E s2) E s1) E s:=by
  have uu:∀x c,(fN env scope.names []).lookup x=some c->env.cells.lookup x=some c:=λx c=>rV scope.names [] (λx m=>(X.mF x (F.fi.1 x m)).imp λc=>Exists.rec λv z=>z.1) (λy c q=>nomatch q)
  refine IT F.src X R E _ λI Is s2 P Pm h S p0 k2 hI aeS=>wpAny_newObj_type (wpAny_newFunctionEnv (cF F.nc) (λy hy=>nomatch hy) (λh4 sG H5=>?_) F.kind) (show 0<=sizeLine from Nat.zero_le _)
  generalize hD:s2.heap.objs.size=D at sG H5⊢
  generalize hH3:s2.heap.push {cls:=.type "list",dict:=none,data:=.seq ([]:List Value).toArray}=H3 at sG H5⊢
  have hC:H3.objs.size=D+1:=by rw[<-hH3,Heap.size_push,hD]
  generalize hCe:H3.objs.size=C at sG H5 hC⊢
  have l4:D≠C:=hC▸Nat.ne_of_lt (Nat.lt_succ_self D)
  have hDn:s2.heap.get? D=none:=hD▸aX _
  have Zx:s2.heap.get? C=none:=Heap.get?_none_of_le (hC▸hD▸Nat.le_succ _)
  have vj:s2.heap.StaysIn h4:=λb o e=>H5.extBut b o (λz=>nomatch(z▸Zx).symm.trans e) (Heap.get?_push_of_some _ (hH3▸Heap.get?_push_of_some _ e))
  have hD4:h4.get? D=some (aI [] 0):=H5.extBut D _ l4 (Heap.get?_push_of_some _ (hH3▸hD▸Heap.get?_push_size _ rfl))
  have Zy:∀{b},s2.heap.get? b=none->h.get? b=none:=λ{b}q=>by cases e:h.get? b with
|none=>rfl|some o=>exact nomatch q.symm.trans (S.st p0 _ _ e)
  have hDs:=fT k2 hDn
  have hCs:=fT k2 Zx
  have hIn:∀{b},s2.heap.get? b=none->b∉Is:=λq m=>(S.live p0 _ m).elim λo e=>nomatch q.symm.trans e
  let s4:Shared:={s2 with heap:=h4,toks:=s2.toks+([]:List (Str×Value)).length}
  have k4:Step s s4:=k2.trans ⟨vj,rfl,rfl⟩
  let ce:Env:={newEnv scope C env.globals (fN env scope.names []) env.qual none .none (some env) 0 with scope:=relabel scope env}
  have mI:(vis vol s.heap).StaysIn (vis (Is++C::D::vol) s4.heap):=λb o e=>have e:=ι.mp e
ι.mpr ⟨k4.keep b o e.1,λm=>(hV (P:=λa=>a∈vol\/s.heap.get? a=none) (λa m=>.inr (hI a m)) (E_ (.inr hCs) (.inr hDs) λa m=>.inl m) b m).elim e.2 λz=>nomatch z.symm.trans e.1⟩
  have wG:∀x c,(fN env scope.names []).lookup x=some c->∃oc,s.heap.get? c=some oc:=λx c q=>X.cl x c (uu x c q)
  have X4:az W [C] (Is++C::D::vol) ⟨scope.names⟩ jq ce s4:=by
    refine⟨⟨F.kind,λx k q=>ou (scope:=scope) q,X.globals,X.builtins,⟨Ψ X.inv.top mI,hV (λa m=>(S.live p0 _ m).imp (vj a)) (E_ (sG.imp λo=>Exists.rec λ_=>Exists.rec λ_ z=>z.1) ⟨_,hD4⟩ λa m=>(X.inv.vol a m).imp (k4.keep a))⟩,⟨_,sG,λx mv a b=>?_⟩,λx mv a b=>?_⟩,aG (List.mem_append_right _ (.head _)),.head _,λx q=>(cF F.nc _ (mem_of_lookup q) rfl).elim,λx y c p q a b=>?_,λx c a b m=>(wG x _ b).elim λoc e=>(nomatch((congrArg s.heap.get? (List.mem_singleton.mp m)).trans hCs).symm.trans e),λx c q=>(wG x c q).imp (k4.keep c)⟩
    ·exact nomatch(n6 F.so x .free (F.fi.2 x mv a).2.2).symm.trans b
    · obtain⟨q1,q2,q3⟩:=F.fi.2 x mv a
      obtain⟨c,v,c1,c2,c3⟩:=X.z_ x mv q1 (.inl q2)
      obtain⟨c',hc'⟩:=zf (env:=env) scope.names [] (.inl q3)
      cases c1.symm.trans (uu x c' hc')
      exact⟨c,v,hc',c2.keeps k4.keep,c3.mono mI⟩
    · have fx:∀z,(List.lookup z scope.names=some .cell\/List.lookup z scope.names=some .free)->cx.names.lookup z=some .cell:=λz h=>h.elim (λh=>(cF F.nc _ (mem_of_lookup h) rfl).elim) λh=>F.fi.1 z (mem_of_lookup h)
      exact X.apart x y c (.inl (fx x p)) (.inl (fx y q)) (uu x c a) (uu y c b)
  have Zw:∀x c,ce.cells.lookup x=some c->c≠D:=λx c q z=>(wG x c q).elim λoc e=>nomatch((congrArg s.heap.get? z).trans hDs).symm.trans e
  have Ac:∀x c,ce.cells.lookup x=some c->c∉Is:=λx c q m=>(wG x c q).elim λoc e=>nomatch(hI c m).symm.trans e
  obtain⟨TW,em,tu⟩:=Dr (env:=ce) (cx:=⟨scope.names⟩) (gens:=g::gs) (scope:=scope) (pos:=pos) (elt:=elt) ok R (D:=D) l4 Zw gs 0 rfl F.gens
  have p4:P 0 s4:=S.after p0 (side:=[]) (ae.of ⟨vj,rfl,rfl⟩) (λ_ _ m=>nomatch m) λ_ m=>nomatch m
  show codeAny (Md W) A (.compStart (.ListComp elt (g::gs) scope pos) 0 (.ref I) (.ref D) ce) (RR (.ref D) C) s4
  refine tq rfl rfl F.async ?_ (λE Q q=>S.self p4 q)
  refine xv (vol:=C::D::vol) ok R (λit=>rfl) (λit=>Around.under_of_weight rfl) (tu g rfl F.async) em F.fr l4 S (hIn Zx) (hIn hDn) Ac (λa mi m=>E_ (P:=λb=>b∉Is) (hIn Zx) (hIn hDn) (λb m mi=>X.inv.fresh (hI b mi) m) a m mi) (.tail _ (.head _)) (.head _) (hV S.new (E_ (Zy Zx) (Zy hDn) aeS)) ms.length 0 s4 [] xs (Nat.zero_add _) p4 F.items X4 ⟨[],0,hD4,aC⟩ (Nat.le_trans (Nat.le_of_eq (Nat.zero_add _)) F.len) λs' X' aeT k'=>aeT.elim λys=>Exists.rec λn a=>X'.loc.elim λmm hm=>?_
  refine hRR D C s' mm ys n hm.1 hDs hCs l4 a.1 a.2 ⟨λb o e=>k'.keep b o (λz=>nomatch(hI b z).symm.trans e) (λm=>?_) (k4.keep b o e),k'.os.trans k4.os,k'.gens.trans k4.gens⟩
  exact(List.mem_cons.mp m).elim (λz=>nomatch((congrArg s.heap.get? z).trans hCs).symm.trans e) λm=>nomatch((congrArg s.heap.get? (List.mem_singleton.mp m)).trans hDs).symm.trans e
end
section
variable{W:aE}{A:Around}{vol own:List Addr}{s:Shared}{d:Nat}{env:Env}{cx:Cx}{ρ:au}{sv:Sv}
theorem aeU{k:ScopeKind}:B5 k=true->k=.function:=by cases k<;>first|exact λ_=>rfl|exact υ
theorem jg{it:kL}{elt:Expr}{gens:List Comprehension}{scope:Scope}{m:XV}(e:hU it sv d cx ρ elt gens scope=some m):∃g gs jq ms xs,gens=g::gs/\ja it sv d cx ρ elt scope g gs jq ms xs/\m=.list xs:=by cases gens with
 |nil=>exact ζ e|cons g gs=>exact ξ e λc e=>η c λc c'=>η c λc1 c2=>η c1 λc1 c5=>η c1 λc1 c6=>η c' λc3 c4=>O e λjq e1 e=>ξ e λh e=>O e λms e3 e=>O e λxs e4 e=>ξ e λl e=>⟨g,gs,jq,ms,xs,rfl,⟨qY c1,aP c6,c5,c2,aeU c3,c4,uf e1,h,e3,e4,ble l⟩,(Option.some.inj e).symm⟩
section
variable{it:kL}{elt:Expr}{scope:Scope}{g:Comprehension}{gs:List Comprehension}{jq:au}{ms xs:List XV}
theorem ja.closure(F:ja it sv d cx ρ elt scope g gs jq ms xs)(X:az W own vol cx ρ env s):closureFor scope env=pure (fN env scope.names []):=py λx m=>(X.mF x (F.fi.1 x m)).imp λc=>Exists.rec λv z=>z.1
theorem jU(IT:bR W it)(ok:al W sv)(R:ψ A d)(F:ja it sv d cx ρ elt scope g gs jq ms xs)(X:az W own vol cx ρ env s){pos:Pos}{use:Option (Value->Sem Unit)}{E Q:Value->Shared->Prop}(h:tv W vol s xs λbh C=>compPost (Md W) A E use Q bh C):wpAny (Md W) A (comprehension (.ListComp elt (g::gs) scope pos) scope env (firstIterPos (g::gs) pos) (newList []) false (eval g.iter env) use) Q E s:=wpAny_comprehension_free (g:=g) (gs:=gs) rfl (λx=>gy F.acZ) (F.closure X) F.kind (λx m q=>n6 F.so x.1 .local (q▸m)) (v6 (RR:=λbh C=>compPost (Md W) A E use Q bh C) IT ok R X F h)
theorem ja.md(F:ja it sv d cx ρ elt scope g gs jq ms xs):firstAsync (g::gs)=false:=by
 obtain⟨a,b,c,i⟩:=g
 exact congrArg (λi:Int=>i !=0) F.async
end
theorem tz{D C:Addr}{xs:List XV}{ys:List Value}{n:Nat}{s':Shared}{h':Heap}(I0:Inv W vol s)(hs:Heap.SameBut C s'.heap h')(hD:s.heap.get? D=none)(hC:s.heap.get? C=none)(l4:D≠C)(hg:s'.heap.get? D=some (aI ys n))(hv:Ξ W (vis (C::D::vol) s'.heap) xs ys)(k:Step s s'):ω W (vis vol h') (.list xs) (.ref D)/\Step s {s' with heap:=h'}:=⟨⟨D,ys,n,rfl,ι.mpr ⟨(hs.2 D l4).trans hg,I0.fresh hD⟩,hv.mono λb o e=>have e:=ι.mp e;ι.mpr ⟨(hs.2 b (λz=>e.2 (z▸.head _))).trans e.1,λm=>e.2 (.tail _ (.tail _ m))⟩⟩,⟨λb o e=>(hs.2 b (λz=>nomatch((congrArg s.heap.get? z).trans hC).symm.trans e)).trans (k.keep b o e),k.os,k.gens⟩⟩
theorem IL{it:kL}(IT:bR W it)(ok:al W sv)(R:ψ A d){elt:Expr}{gens:List Comprehension}{scope:Scope}{pos:Pos}{m:XV}(X:az W own vol cx ρ env s)(e:hU it sv d cx ρ elt gens scope=some m):ο W A vol (eval (.ListComp elt gens scope pos) env) m s:=λE Q k=>by
 obtain⟨⟨tt,ii,ff,aa⟩,gs,jq,ms,xs,rfl,F,rfl⟩:=jg e
 rw[eval_ListComp,F.md]
 exact jU (use:=none) (Q:=Q) IT ok R F X λD C s' mm ys n sG hD hC l4 hg hv k2=>⟨mm,sG,λh' hs=>(tz X.inv hs hD hC l4 hg hv k2).elim (k _ _)⟩
noncomputable def aaB(e:Expr):Option (Expr×List Comprehension×Scope):=e.casesOn (λ_ _ _=>none) (λ_ _ _=>none) (λ_ _ _ _=>none) (λ_ _ _=>none) (λ_ _ _ _=>none) (λ_ _ _ _=>none) (λ_ _ _=>none) (λ_ _ _=>none) (λa b c _=>some (a,b,c)) (λ_ _ _ _=>none) (λ_ _ _ _ _=>none) (λ_ _ _ _=>none) (λ_ _=>none) (λ_ _=>none) (λ_ _=>none) (λ_ _ _ _=>none) (λ_ _ _ _=>none) (λ_ _ _ _=>none) (λ_ _=>none) (λ_ _ _=>none) (λ_ _ _=>none) (λ_ _ _=>none) (λ_ _=>none) (λ_ _=>none) (λ_ _=>none) (λ_ _ _=>none) (λ_ _ _ _=>none)
theorem Go{e:Expr}{p}:aaB e=some p->∃q,e=.ListComp p.1 p.2.1 p.2.2 q:=by cases e with
 |ListComp a b c q=>exact λh=>θ (P:=λp=>∃r,Expr.ListComp a b c q=.ListComp p.1 p.2.1 p.2.2 r) h ⟨q,rfl⟩|_=>exact λh=>ζ h
theorem ug{it:kL}(IT:bR W it)(ok:al W sv)(R:ψ A d){elt:Expr}{gens:List Comprehension}{scope:Scope}{qx:Pos}{x:Str}{p pos:Pos}{m:XV}(X:az W own vol cx ρ env s)(hc:bO cx x=true)(e:hU it sv d cx ρ elt gens scope=some m):Runs W A own vol cx env (exec (.Assign [.Name x p] (.ListComp elt gens scope qx) pos) env) (.next ((x,m)::ρ)) s:=λE Q k=>by
 obtain⟨b,hb⟩:∃b,swapsWith (.ListComp elt gens scope qx) (some (.Name x p)) pos.line env=pure b:=⟨_,rfl⟩
 cases b with
 |false=>exact wpAny_Assign_Name (IL IT ok R X e E _ λv s1 h1 k1=>eg (X.step k1) hc h1 E _ λs2 X2 k2=>k _ _ ⟨rfl,X2⟩ ((ae.of k1).trans k2)) hb|true=>
  obtain⟨⟨tt,ii,ff,aa⟩,gs,jq,ms,xs,rfl,F,rfl⟩:=jg e
  rw[exec_Assign_Name_used _ _ _ _ hb]
  refine wpAny_bind (wpAny_standAt (wpAny_bind ?_))
  show wpAny (Md W) A (do let _<-comprehension (.ListComp elt (⟨tt,ii,ff,aa⟩::gs) scope qx) scope env (firstIterPos (⟨tt,ii,ff,aa⟩::gs) qx) (newList []) (firstAsync (⟨tt,ii,ff,aa⟩::gs)) (eval ii env) (some (assign (.Name x p) env))) _ E s
  rw[F.md]
  refine wpAny_bind (wpAny_mono (jU (use:=some (assign (.Name x p) env)) (Q:=λ_ s'=>Q .next s') IT ok R F X λD C s' mm ys n sG hD hC l4 hg hv k2=>?_) (λ_ s' hq=>wpAny_pure (wpAny_pure hq)) λ_ _ e=>e)
  obtain⟨oC,es,ep,Zz,r2⟩:=id sG
  have EV:C∉vol:=X.inv.fresh hC
  have v1:ω W (vis (C::vol) s'.heap) (.list xs) (.ref D):=⟨D,ys,n,rfl,ι.mpr ⟨hg,λm=>(List.mem_cons.mp m).elim l4 (X.inv.fresh hD)⟩,hv.mono (dX λa m=>(List.mem_cons.mp m).elim (λz=>z▸.head _) λm=>.tail _ (.tail _ m))⟩
  have ZA:C∉own:=λm=>EV (X.sub C m)
  refine gx (X.hide k2 hC Zz) hc v1 E _ λs3 X3 k3=>⟨mm,⟨oC,es,ep,k3.keep C _ ZA Zz,r2⟩,λh' hs=>?_⟩
  have hx:∀{b:Addr}{o:Obj},s.heap.get? b=some o->b∉[C]:=λe z=>nomatch((congrArg s.heap.get? (List.mem_singleton.mp z)).trans hC).symm.trans e
  have uv:∀b o,b∉[C]->s3.heap.get? b=some o->h'.get? b=some o:=λb o nb e=>(hs.2 b (λz=>nb (z▸.head _))).trans e
  have kk:ae own s s3:=(ae.of k2).trans k3
  exact k _ _ ⟨rfl,X3.sub' (Is:=[C]) (s':={s3 with heap:=h'}) uv X.sub (aG EV) (λz=>ZA (List.mem_singleton.mp z▸X.fF)) λy c q=>(X.cl y c q).elim λo=>hx⟩ ⟨λb o nb e=>uv b o (hx e) (kk.keep b o nb e),λb o e=>(kk.live b o e).imp λo'=>uv b o' (hx e),kk.os,kk.gens⟩
end
noncomputable def kp(e:Expr):Bool:=Nat.beq e.ctorIdx 25
noncomputable def jV:Nat->Expr->Bool
 |0,_=>false|n+1,e=>e.casesOn (λ_ _ _=>false) (λ_ _ _=>false) (λl _ _ _=>jV n l) (λ_ _ _=>false) (λ_ _ _ _=>false) (λ_ _ _ _=>false) (λ_ _ _=>false) (λ_ _ _=>false) (λ_ _ _ _=>false) (λ_ _ _ _=>false) (λ_ _ _ _ _=>false) (λ_ _ _ _=>false) (λ_ _=>false) (λ_ _=>false) (λ_ _=>false) (λ_ _ _ _=>false) (λ_ _ _ _=>false) (λ_ _ _ _=>false) (λ_ _=>false) (λ_ _ _=>false) (λ_ _ _=>false) (λv _ _=>jV n v) (λ_ _=>false) (λid _=>!Fast.sEq id ("__debug__":Str)) (λ_ _=>false) (λ_ _ _=>false) (λ_ _ _ _=>false)
noncomputable def nk:List Expr->Bool
 |[]=>false|e::r=>jV 8 e||nk r
noncomputable def cP:List Str->Bool
 |[]=>true|x::r=>!(r.any λy=>Fast.sEq x y)&&cP r
section
variable{W:aE}{A:Around}{vol own:List Addr}{s:Shared}{d:Nat}{env:Env}{cx:Cx}{ρ:au}{sv:Sv}
theorem rF{e:Expr}{ts:List Expr}{k:Nat}{tp:Pos}{l:Nat}:swapsWithSole [.Tuple ts k tp] e l env=pure false:=by cases e<;>rfl
theorem Ds{e:Expr}{ts:List Expr}{k:Nat}{tp:Pos}:kp e=false->swappedStores [.Tuple ts k tp] e env=pure none:=by cases e<;>first|exact λ_=>rfl|exact cq
theorem Dt(ok:al W sv)(R:ψ A d){e:Expr}{ts:List Expr}{k:Nat}{tp pos:Pos}{m:XV}{aV:au}(X:az W own vol cx ρ env s)(h0:kp e=false)(e1:sv.ev d cx ρ e=some m)(e2:lG cx ρ (.Tuple ts k tp) m=some aV):Runs W A own vol cx env (exec (.Assign [.Tuple ts k tp] e pos) env) (.next aV) s:=λE Q kk=>Assign_Tuple (ok.ev e1 X R E _ λv s1 h1 k1=>jM R e2 (X.step k1) h1 E _ λs2 X2 k2=>kk _ _ ⟨rfl,X2⟩ ((ae.of k1).trans k2)) rF (Ds h0)
theorem rW(n:Nat):∀(e:Expr),jV n e=true->constantsAlone n e=false:=by induction n with
 |zero=>exact λe=>υ|succ n ih=>
  intro e
  cases e with
  |Name id p=>exact λh=>qu (aP h)|Subscript v a p=>exact λh=>Bool.and_eq_false_iff.mpr (.inl (ih v h))|BinOp l o r p=>exact λh=>Bool.and_eq_false_iff.mpr (.inl (ih l h))|_=>exact υ
theorem v7{vs:List Expr}:nk vs=true->vs.all (constantsAlone 8)=false:=by induction vs with
 |nil=>exact υ|cons e r ih=>exact λh=>Bool.and_eq_false_iff.mpr ((Bool.or_eq_true_iff.mp h).imp (rW 8 e) ih)
theorem ow{f:Expr->Option Str}(hf:∀e x,f e=some x->bA e=some x){ts:List Expr}:(ts.filterMap f).length=ts.length->ts.map bA=(ts.filterMap f).map some:=by induction ts with
 |nil=>exact λ_=>rfl|cons t ts ih=>
  intro h
  rw[List.filterMap_cons]at h⊢
  cases e:f t with
  |none=>
   rw[e]at h
   exact absurd (List.length_filterMap_le f ts) (Nat.not_le.mpr (Nat.lt_of_lt_of_eq (Nat.lt_succ_self _) (show(ts.filterMap f).length=ts.length+1 from h).symm))|some x=>
   rw[e]at h
   exact congr (congrArg List.cons (hf t x e)) (ih (Nat.succ.inj h))
def me(ts:List Expr)(X:Sem (Option (List Str))):Prop:=X=pure none\/∃names,X=pure (some names)/\ts.map bA=names.map some
theorem me.ite{ts:List Expr}{c:Prop}[Decidable c]{X:Sem (Option (List Str))}(h:¬c->me ts X):me ts (if c then pure none else X):=if g:c then .inl (if_pos g)else(if_neg g).symm▸h g
theorem pz{ts vs:List Expr}{k k':Nat}{tp vp:Pos}(hn:nk vs=true):me ts (swappedStores [.Tuple ts k tp] (.Tuple vs k' vp) env):=by
 unfold swappedStores
 dsimp only
 refine .ite λ_=>.ite λ_=>.ite λh3=>.ite λ_=>?_
 rw[if_neg (v7 hn▸Bool.false_ne_true)]
 refine .inr ⟨_,rfl,ow (λe x h=>?_) ?_⟩
 ·cases e with
  |Name id p=>exact iteInduction (motive:=λo=>o=some x->some id=some x) (λ_ h=>h) (λ_ h=>ζ h) h|_=>exact ζ h
 ·exact Classical.byContradiction λz=>h3 (Bool.or_eq_true_iff.mpr (.inl (bne_iff_ne.mpr z)))
theorem aiz{x y:Str}(h:Fast.sEq x y=false):x≠y:=λz=>Bool.noConfusion (h.symm.trans (Fast.sEq_iff.mpr z))
theorem aev{h:Heap}{a b:XV}{vs:List Value}(x:Ξ W h [a,b] vs):∃u v,vs=[u,v]/\ω W h a u/\ω W h b v:=am x λu _ x1 x=>am x λv _ x2 x=>bz x ⟨u,v,rfl,x1,x2⟩
theorem uh(X:az W own vol cx ρ env s){x:Str}{m:XV}{v:Value}(hc:bO cx x=true)(hv:ω W (vis vol s.heap) m v)(E:Value->Shared->Prop)(Q:Unit->Shared->Prop)(k:∀s',az W own vol cx ((x,m)::ρ) env s'->ae own s s'->Q () s'):wpAny (Md W) A (bindName env x v) Q E s:=wpAny_bindName (eg X hc hv E Q k)
theorem Du{h:Heap}{ms:List XV}:∀{vs:List Value},Ξ W h ms vs->Ξ W h ms.reverse vs.reverse:=by induction ms with
 |nil=>exact λx=>bz x aC|cons m ms ih=>
  refine λx=>am x λv vs x1 x2=>?_
  rw[List.reverse_cons,List.reverse_cons]
  exact el (ih x2) (Δ x1 aC)
theorem zg{ts:List Expr}:∀{ns:List Str}{ms:List XV}{ρ aV:au},ts.map bA=ns.map some->mZ cx ts ms ρ=some aV->aV=(ns.zip ms).reverse++ρ/\ns.length=ms.length/\∀n∈ns,bO cx n=true:=by induction ts with
 |nil=>
  intro ns ms ρ aV hn e
  cases ns with
  |nil=>exact ξ e λh e=>nil_of h▸⟨(Option.some.inj e).symm,rfl,λn m=>nomatch m⟩|cons _ _=>exact nomatch hn
 |cons t ts ih=>
  intro ns ms ρ aV hn e
  cases ns with
  |nil=>exact nomatch hn|cons n ns=>
   obtain⟨h1,h2⟩:=List.cons.inj hn
   refine O e λx hx e=>?_
   cases h1.symm.trans hx
   cases ms with
   |nil=>exact ζ e|cons m ms=>
    refine ξ e λc e=>?_
    obtain⟨a,b,cc⟩:=ih h2 e
    exact⟨a.trans ((congrArg (·++ρ) List.reverse_cons).trans (List.append_assoc ..)).symm,congrArg Nat.succ b,λy my=>(List.mem_cons.mp my).elim (λz=>z▸c) (cc y)⟩
theorem bindAll{ns:List Str}:∀{ms:List XV}{us:List Value}{ρ:au}{s:Shared},ns.length=ms.length->(∀n∈ns,bO cx n=true)->az W own vol cx ρ env s->Ξ W (vis vol s.heap) ms us->∀(E:Value->Shared->Prop)(Q:Unit->Shared->Prop),(∀s',az W own vol cx ((ns.zip ms).reverse++ρ) env s'->ae own s s'->Q () s')->wpAny (Md W) A (assignInOrder (ns.map λn=>bindName env n) us) Q E s:=by induction ns with
 |nil=>
  intro ms us ρ s hl _ X hv E Q k
  cases us<;>exact wpAny_pure (k s X (.of (.refl _)))|cons n ns ih=>
  intro ms us ρ s hl hc X hv E Q k
  cases ms with
  |nil=>exact nomatch hl|cons m ms=>
   refine am (P:=λus=>wpAny (Md W) A (assignInOrder ((n::ns).map λn=>bindName env n) us) Q E s) hv λu us v1 v2=>?_
   exact wpAny_bind (m:=holding us (bindName env n u)) (wpAny_holding (uh X (hc n (.head _)) v1 E _ λs1 X1 k1=>ih (Nat.succ.inj hl) (λy my=>hc y (.tail _ my)) X1 (v2.mono (k1.vis X.sub)) E Q λs2 X2 k2=>k s2 ((congrArg (·++ρ) List.reverse_cons).trans (List.append_assoc ..)▸X2) (k1.trans k2)))
theorem nq{α:Type}{x:Str}{m:α}{l:List (Str×α)}(e:lk l x=some m):(x,m)∈l:=mem_of_lookup (aU e)
theorem W6{α:Type}{x:Str}{u:α}{l:List (Str×α)}:(x,u)∈l->∃v,lk l x=some v:=by induction l with
 |nil=>exact λh=>nomatch h|cons p q ih=>exact λh=>if z:p.1=x then⟨p.2,(iC ..).trans (if_pos z)⟩else(List.mem_cons.mp h).elim (λe=>absurd (congrArg Prod.fst e).symm z) λm=>(ih m).imp λv e=>mc z e
theorem W7{α:Type}{x:Str}{m:α}{l:List (Str×α)}:cP (l.map (·.1))=true->(x,m)∈l->lk l x=some m:=by induction l with
 |nil=>exact λ_ h=>nomatch h|cons p q ih=>
  refine λhd h=>η hd λh1 h2=>(List.mem_cons.mp h).elim (λz=>?_) λz=>?_
  ·exact z▸(iC ..).trans (if_pos rfl)
  ·exact mc (λe=>Bool.noConfusion ((aP h1).symm.trans (List.any_eq_true.mpr ⟨x,List.mem_map_of_mem (f:=(·.1)) z,Fast.sEq_iff.mpr e⟩))) (ih h2 z)
theorem W8{α:Type}{x:Str}{a b:List (Str×α)}:lk (a++b) x=(lk a x).or (lk b x):=by induction a with
 |nil=>rfl|cons p q ih=>
  show(bif Fast.sEq p.1 x then some p.2 else lk (q++b) x)=(bif Fast.sEq p.1 x then some p.2 else lk q x).or (lk b x)
  cases Fast.sEq p.1 x with
  |true=>rfl|false=>exact ih
theorem Gp{α:Type}{x:Str}{m:α}{l b:List (Str×α)}(hd:cP (l.map (·.1))=true)(h:lk (l.reverse++b) x=some m):lk (l++b) x=some m:=by
 rw[W8]at h⊢
 cases e:lk l.reverse x with
 |some u=>exact(W7 hd (List.mem_reverse.mp (nq e))).symm▸a8 (C:=λo=>o.or (lk b x)=some m) e.symm h|none=>cases e2:lk l x with
  |none=>exact a8 (C:=λo=>o.or (lk b x)=some m) e.symm h|some u=>
   obtain⟨v,hv⟩:=W6 (List.mem_reverse.mpr (nq e2))
   exact nomatch e.symm.trans hv
theorem zh(ok:al W sv)(R:ψ A d){ts vs:List Expr}{k k':Nat}{tp vp pos:Pos}{m:XV}{aV:au}(X:az W own vol cx ρ env s)(hn:nk vs=true)(hd:cP (ts.filterMap bA)=true)(e1:sv.ev d cx ρ (.Tuple vs k' vp)=some m)(e2:lG cx ρ (.Tuple ts k tp) m=some aV):Runs W A own vol cx env (exec (.Assign [.Tuple ts k tp] (.Tuple vs k' vp) pos) env) (.next aV) s:=λE Q kk=>by
  rcases pz (ts:=ts) (k:=k) (tp:=tp) (k':=k') (vp:=vp) (env:=env) hn with hw|⟨names,hw,YW⟩
  ·exact Assign_Tuple (ok.ev e1 X R E _ λv s1 h1 k1=>jM R e2 (X.step k1) h1 E _ λs2 X2 k2=>kk _ _ ⟨rfl,X2⟩ ((ae.of k1).trans k2)) rF hw
  · refine Assign_Tuple_swapped (ok.ev e1 X R E _ λv s1 h1 k1=>?_) rF hw
    refine O (show((hO m).bind λms=>mZ cx ts ms ρ)=some aV from e2) λms e3 e2=>?_
    obtain⟨rfl,Rb,hc⟩:=zg YW e2
    rw[Rb]
    have X1:=X.step k1
    refine ir e3 X1.inv R h1 E _ λitems s2 hv k2=>bindAll (by rw[List.length_reverse,List.length_reverse];exact Rb) (λn mn=>hc n (List.mem_reverse.mp mn)) (X1.step k2) (Du hv) E _ λs3 X3 k3=>?_
    have hz:(names.reverse.zip ms.reverse).reverse=names.zip ms:=(congrArg List.reverse (List.reverse_zipWith Rb).symm).trans (List.reverse_reverse _)
    refine kk _ _ ⟨rfl,az.weak (hz▸X3) λx mm q=>Gp ?_ q⟩ ((ae.of (k1.trans k2)).trans k3)
    have hf:ts.filterMap bA=names:=(List.filterMap_map (f:=bA) (g:=id) (l:=ts)).symm.trans ((congrArg (List.filterMap id) YW).trans (List.filterMap_map.trans List.filterMap_some))
    exact(List.map_fst_zip (Nat.le_of_eq Rb)).symm▸hf▸hd
end
noncomputable def vk(cx:Cx)(exs:au->Option fP)(target:Expr):List XV->au->Option fP
 |[],ρ=>some (.next ρ)|m::r,ρ=>(lG cx ρ target m).bind λiq=>(exs iq).bind λq=>q.casesOn (λlB=>vk cx exs target r lB) λv=>some (.ret v)
def IM(sv:Sv)(d:Nat)(cx:Cx)(ρ:au)(target iter:Expr)(body:List Stmt):Option fP:=bif fm iter then none else(sv.ev d cx ρ iter).bind λo=>(hO o).bind λms=>vk cx (λρ=>sv.exs d cx ρ body) target ms ρ
section
variable{W:aE}{A:Around}{vol own:List Addr}{s:Shared}{d:Nat}{env:Env}{cx:Cx}{ρ:au}{sv:Sv}
theorem gz(target:Expr)(it:Value)(body:List Stmt)(env:Env)(Q:PySem.Fin->Shared->Prop)(E:Value->Shared->Prop)(s:Shared)(h:wpAny (Md W) A (pyNext it) (λr s1=>match r with
   |none=>Q (.again (.block [] env)) s1|some v=>wpAny (Md W) A (letOwnedTupleGo target it v) (λ_ s2=>wpAny (Md W) A (assign target env v) (λ_ s3=>wpAny (Md W) A (execs body env) (λf s4=>match f with
    |.next|.cont=>Q (.again (.forLoop target it body [] env)) s4|.brk=>Q (.done .next) s4|.ret v=>Q (.done (.ret v)) s4) E s3) E s2) E s1) (λ_ _=>False) s):wpAny (Md W) A (forTurn target it body [] env) Q E s:=by
 refine wpAny_bind (wpAny_standAt (wpAny_bind (wpAny_onRaise (wpAny_mono h (λr s1 h1=>?_) λ_ _ x=>x.elim))))
 cases r with
 |none=>exact wpAny_pure h1|some v=>
  refine wpAny_bind (wpAny_mono h1 (λ_ s2 h2=>wpAny_bind (wpAny_mono h2 (λ_ s3 h3=>wpAny_bind (wpAny_mono h3 (λf s4 h4=>?_) λ_ _ x=>x)) λ_ _ x=>x)) λ_ _ x=>x)
  cases f<;>exact wpAny_pure h4
theorem Dv(ok:al W sv)(R:ψ A d){target:Expr}{body:List Stmt}{h:Heap}{I:Addr}{ms:List XV}{P:Nat->Shared->Prop}{Pm:Nat->Value->Shared->Prop}(S:w9 W h I [I] ms target P Pm)(sd:I∉vol)(Rc:∀a∈own,a∈vol)(hh:∀b∈vol,h.get? b=none)(ZB:I≠env.locals)(Ac:∀x c,env.cells.lookup x=some c->c≠I){RR:Result->Shared->Prop}(n:Nat):∀(i:Nat)(s:Shared)(ρ:au)(r:fP),i+n=ms.length->P i s->vk cx (λρ=>sv.exs d cx ρ body) target (ms.drop i) ρ=some r->az W own (I::vol) cx ρ env s->(∀f s',AT W own vol cx env r f s'->pN [I] own s s'->RR (.ok f) s')->codeAny (Md W) A (.forLoop target (.ref I) body [] env) RR s:=by
 have ZC:∀a∈[I],a∉own:=λa m z=>sd (List.mem_singleton.mp m▸Rc a z)
 have fM:∀a∈[I],a∈I::vol:=aG (.head _)
 have RH:env.locals∉[I]:=λm=>ZB (List.mem_singleton.mp m).symm
 have RI:∀x c,env.cells.lookup x=some c->c∉[I]:=λx c q m=>Ac x c q (List.mem_singleton.mp m)
 have ZD:∀b∈own,h.get? b=none:=λb m=>hh b (Rc b m)
 induction n with
 |zero=>
  intro i s ρ r hi p e1 X kk
  cases show i=ms.length from hi
  rw[List.drop_length]at e1
  cases e1
  refine codeAny_of_tree (show wpAny _ A ((forTurn target (.ref I) body [] env).onRaise (λx=>do noteFrame x env;theTreesLotGoes x)) _ _ s from wpAny_noted (gz _ _ _ _ _ _ _ (S.stop R p _ _ λs1 k1 o1 g1=>⟨rfl,codeAny_of_tree ?_⟩)))
  exact show wpAny _ A (do return Fin.done (<-(execs [] env).onRaise (λx=>do noteFrame x env;theTreesLotGoes x))) _ _ s1 from wpAny_bind (wpAny_noted (wpAny_execs_nil (wpAny_pure (kk .next s1 ⟨rfl,X.sub' (Is:=[I]) k1 Rc (aG sd) RH RI⟩ ⟨λb o n _ e=>k1 b o n e,λb o n e=>⟨o,k1 b o n e⟩,o1,g1⟩))))|succ n ih=>
  intro i s ρ r hi p e1 X kk
  have uR:i<ms.length:=hi▸Nat.lt_add_of_pos_right (Nat.succ_pos n)
  rw[List.drop_eq_getElem_cons uR]at e1
  refine O e1 λiq e2 e1=>O e1 λr1 e3 e1=>codeAny_of_tree (show wpAny _ A ((forTurn target (.ref I) body [] env).onRaise (λx=>do noteFrame x env;theTreesLotGoes x)) _ _ s from wpAny_noted (gz _ _ _ _ _ _ _ (S.next R p (List.getElem?_eq_getElem uR) _ _ λv s1 p1 k1 hv=>?_)))
  have Am:h.StaysIn (vis (I::vol) s1.heap):=λb o e=>ι.mpr ⟨S.Q' p1 b o e,λm=>(List.mem_cons.mp m).elim (λz=>nomatch((congrArg h.get? z).trans (S.new I (.head _))).symm.trans e) λm=>nomatch(hh b m).symm.trans e⟩
  refine S.owned p1 λs2 p2 k2=>jM R e2 ((X.side k1 fM RH RI).side k2 fM RH RI) ((hv (I::vol) Am X.inv.vol).mono (k2.vis fM)) _ _ λs3 X3 k3=>ok.exs e3 X3 R _ _ λf s4 hr k4=>?_
  have H7:∀x∈[I],x∈I::own:=aG (.head _)
  have YY:∀x∈own,x∈I::own:=λx m=>.tail _ m
  have H8:ae (I::own) s s4:=(((k1.sup H7).trans (k2.sup H7)).trans (k3.sup YY)).trans (k4.sup YY)
  cases r1 with
  |next lB=>
   obtain⟨rfl,X4⟩:=hr
   exact⟨rfl,ih (i+1) s4 lB r ((Nat.add_right_comm i 1 n).trans hi) (S.after (S.after p2 k3 ZC ZD) k4 ZC ZD) e1 X4 λf s' a b=>kk f s' a (b.pre H8)⟩|ret m=>
   cases e1
   obtain⟨v',rfl,hv',I4⟩:=hr
   exact kk _ s4 ⟨v',rfl,hv'.mono nD,⟨Ψ I4.top nD,λa m=>I4.vol a (.tail _ m)⟩⟩ ⟨λb o n m e=>H8.keep b o (λz=>(List.mem_cons.mp z).elim (λz=>n (z▸.head _)) m) e,λb o n e=>H8.live b o e,H8.os,H8.gens⟩
theorem aeV(ok:al W sv)(R:ψ A d){target iter:Expr}{body:List Stmt}{pos:Pos}{r:fP}(X:az W own vol cx ρ env s)(e:IM sv d cx ρ target iter body=some r):Runs W A own vol cx env (exec (.For target iter body [] pos) env) r s:=by
 refine λE Q k=>cj e λhs e=>O e λo e1 e=>O e λms e2 e=>?_
 have he:exec (.For target iter body [] pos) env=(do
  standAt pos let x<-foldedSetIterable iter env (<-eval iter env)standAt iter.pos
  runOwn (.forLoop target (<-holding [x] (pyIter x)) body [] env) env):=rfl
 rw[he]
 refine wpAny_bind (wpAny_standAt (wpAny_bind (ok.ev e1 X R E _ λvo s1 h1 k1=>wpAny_bind (wpAny_of_eq (gy hs) (wpAny_bind (wpAny_standAt (wpAny_bind (wpAny_holding (l_ e2 (X.step k1).inv h1 E _ λI s2 P S0 p0 k2 hI=>?_)))))))))
 have X1:=X.step k1
 have S:=S0 target
 have sd:I∉vol:=X1.inv.fresh hI
 have hIs:s.heap.get? I=none:=fT k1 hI
 have hx:∀{b:Addr}{o:Obj},s.heap.get? b=some o->b≠I:=λe z=>nomatch((congrArg s.heap.get? z).trans hIs).symm.trans e
 refine(S.live p0 I (.head _)).elim λoI hoI=>wpAny_runOwn (kU A R.handled▸Dv ok R S sd X.sub (λb m=>hideAll_none _ m) (λz=>sd (z▸X.sub _ X.fF)) (λx c q=>(X.cl x c q).elim λo=>hx) ms.length 0 s2 ρ r (Nat.zero_add _) p0 e (X1.hide k2 hI hoI) λf s' hr k3=>?_)
 have kk:=k1.trans k2
 exact k f s' hr ⟨λb o n e=>k3.keep b o (λz=>hx e (List.mem_singleton.mp z)) n (kk.keep b o e),λb o e=>k3.live b o (λz=>hx e (List.mem_singleton.mp z)) (kk.keep b o e),k3.os.trans kk.os,k3.gens.trans kk.gens⟩
end
noncomputable def g6:Bx->Nat
 |[]=>0|p::q=>p.casesOn (λb=>b.length+g6 q) (λ_=>g6 q) λ_=>1+g6 q
noncomputable def dM:Bx->List Nat
 |[]=>[]|p::q=>p.casesOn (λ_=>dM q) (λi=>i::dM q) λ_=>dM q
theorem vm{S:ay}(x:Bx):(x.den S).length+(dM x).length=g6 x+aj S (dM x):=by induction x with
 |nil=>rfl|cons p q ih=>cases p with
  |lit b=>exact(congrArg (·+(dM q).length) List.length_append).trans ((Nat.add_assoc ..).trans ((congrArg (b.length+·) ih).trans (Nat.add_assoc ..).symm))|lst i=>exact(congrArg (·+(dM q).length) List.length_append).trans ((Nat.add_assoc ..).trans ((congrArg (1+·) ih).trans (Nat.add_assoc ..).symm))|ini i=>
   have h:(S.ini i++Bx.den S q).length=(S.ini i).length+(Bx.den S q).length:=List.length_append
   show(S.ini i++Bx.den S q).length+((dM q).length+1)=g6 q+((S.ini i).length+1+aj S (dM q))
   omega
def A7(m:XV):Bool:=(gZ m).elim false λp=>Nat.ble p.1 1000000&&Nat.ble p.2.length 1000
noncomputable def B7(a:XV):Bool:=a.casesOn false (λ_=>false) (λ_=>false) (λ_ _=>false) (λ_=>false) (λ_ _=>false) (λ_=>true) (λ_=>true) (λ_=>false) (λ_=>false) (λ_=>false) (λ_=>false) (λ_ _=>false) (λ_=>false) (λ_=>false) (λ_=>false) (λ_=>false) (λ_=>false) (λ_=>false) (λ_=>false) (λ_=>false) false
noncomputable def B8(k:uQ):Option Addr:=k.casesOn none (λ_=>none) (λ_ _=>none) λf _=>some f
def sN(T:iZ)(call:Nat->Addr->List XV->Option XV)(d:Nat)(o:XV)(x:Str):Option XV:=d.casesOn none λd=>((gN o).bind λp=>((lF T p.1 x).bind B8).bind λf=>call d f [o]).or ((kl o).bind λβ=>(kj x).bind λq=>bif !q.2&&Nat.ble β.d d then gL (β.of q.1)else none)
noncomputable def aaC(n:Nat):Option XV:=bif Nat.ble n 1000 then some (.int (n:Int))else none
def aaD(T:iZ)(call:Nat->Addr->List XV->Option XV)(d:Nat)(o:XV):Option XV:=(((dK o).bind aF).bind λl=>bif Nat.ble l.length 100000 then some (.int (l.length:Nat))else none).or (((mA o).bind λx=>bif Nat.ble x.bound bI then bif ak (dM x)then some (.int (g6 x:Nat))else bif Nat.ble (dM x).length (g6 x)then some (.dj (g6 x-(dM x).length) (dM x))else none else none).or (((qN o).bind λl=>aaC l.length).or (((Ab o).bind λl=>aaC l.length).or ((sN T call d o (Str.ofString "__len__")).bind λm=>bif A7 m then some m else none))))
section
variable{W:aE}{A:Around}{vol own:List Addr}{s:Shared}{d:Nat}{env:Env}{cx:Cx}{ρ:au}{sv:Sv}
inductive B9(W:aE)(vol:List Addr)(s:Shared)(d:Nat)(x:Str)(m:XV):Value->Prop|mk(a C f:Addr)(ox:Obj)(od:Option Obj)(at_:InstAt s.heap a ox C od)(a1:findIn W.K (.ref C) x=some (some (.ref f)))(a2:typeIn W.K (.ref f)=some (.type "function"))(run:∀{A s'},Step s s'->ψ A d->ο W A vol (call (.ref f) [.ref a] []) m s'):B9 W vol s d x m (.ref a)
theorem zi{k:uQ}{f}(e:B8 k=some f):∃t,k=.μ f t:=by cases k with
 |μ g t=>exact θ (P:=λf=>∃u,uQ.μ g t=.μ f u) e ⟨t,rfl⟩|_=>exact ζ e
theorem xw{T:iZ}(TO:oB W T)(ok:al W sv){d:Nat}{o m:XV}{x:Str}(e:sN T (λd f a=>sv.call d f a []) d o x=some m)(I:Inv W vol s){vo:Value}(ho:ω W (vis vol s.heap) o vo):B9 W vol s d x m vo:=by cases d with
|zero=>exact ζ e|succ d=>
  refine af e (λe=>O e λp e1 e=>O e λf q e=>O q λk q mk=>?_) λe=>O e λβ e1 e=>O e λq e2 e=>ξ e λc e=>η c λc1 c2=>?_
  · obtain⟨ho',rfl⟩:=e_ e1 ho
    obtain⟨t,rfl⟩:=zi mk
    have AF:=(TO.1 _ _ _ q).2
    exact nh ho' λa dx od τ IA D F V=>⟨a,p.1,f,_,_,IA,AF.1,AF.2.1,λ{A s'}k R=>(ok.call e (I.step k) (R.le (Nat.le_succ _)) (Δ (V.step k) aC) aL).call⟩
  · obtain⟨t,p⟩:=q
    cases p with
|true=>exact υ c1|false=>
    refine rC (ib e1 ho) λa C dx od τ N=>?_
    obtain⟨f,q1,q⟩:=TO.2 _ _ N.cls _ _ _ e2
    have AF:=(TO.1 _ _ _ q).2
    have hd:=(N.does t f q1).1
    cases hm:β.of t with
|ok m'=>exact⟨a,C,f,_,_,N.at_,AF.1,AF.2.1,λ{A s'}k R=>θ (a8 (C:=λo=>gL o=some m) hm.symm e) λE Q q=>wpAny_call (a8 (C:=λo=>gB W s.heap f a β.d o) hm.symm hd A s' _ (R.le (Nat.le_trans (ble c2) (Nat.le_succ _))) k.keep (I.step k).nil λv s3 z1 z2=>q v s3 z1.up z2)⟩|exc=>exact ζ (a8 (C:=λo=>gL o=some m) hm.symm e)|stuck=>exact ζ (a8 (C:=λo=>gL o=some m) hm.symm e)
theorem v8{S:ay}(o:S.Ok)(l:List Nat):aj S l<=4000*l.length:=by induction l with
 |nil=>exact Nat.le_refl _|cons i q ih=>exact Nat.le_trans (Nat.add_le_add (o.ini i) ih) (Nat.le_of_eq (Nat.add_comm ..))
theorem big{n k:Nat}(h:n<=k)(g:(k:Int)<2^63):¬((n:Int)>=2^63):=Int.not_le.mpr (wC h g)
theorem zj{h:Heap}{m:XV}{p}{n t t'}(e:gZ m=some p)(x:ω W h m (.int n t)):ω W h m (.int n t'):=by cases m with
 |dj k l=>exact x.elim λu y=>(Value.int.inj y).1▸⟨t',rfl⟩|int i=>exact x.elim λu y=>(Value.int.inj y).1▸⟨t',rfl⟩|_=>exact ζ e
theorem ui{h:Heap}{m:XV}{v:Value}(hm:A7 m=true)(hv:ω W h m v):∃(n:Nat)(t:Tok),v=.int n t/\n<=5000000/\∀t',ω W h m (.int n t'):=by cases e:gZ m with
 |none=>exact υ (a8 (C:=λo:Option (Nat×List Nat)=>(o.elim false λp=>Nat.ble p.1 1000000&&Nat.ble p.2.length 1000)=true) e.symm hm)|some p=>
  refine η (a8 (C:=λo:Option (Nat×List Nat)=>(o.elim false λp=>Nat.ble p.1 1000000&&Nat.ble p.2.length 1000)=true) e.symm hm) λc1 c2=>?_
  have key:∀v,ω W h m v->∃t,v=.int ((p.1+aj W.S p.2:Nat):Int) t:=λv x=>gf e x λt=>⟨t,rfl⟩
  obtain⟨t,rfl⟩:=key v hv
  exact⟨_,t,rfl,Nat.add_le_add (ble c1) (Nat.le_trans (v8 W.uN p.2) (Nat.mul_le_mul_left 4000 (ble c2))),λt'=>zj e hv⟩
theorem len_own{T:iZ}(TO:oB W T)(ok:al W sv){o m:XV}(e:sN T (λd f a=>sv.call d f a []) d o (Str.ofString "__len__")=some m)(hm:A7 m=true)(I:Inv W vol s)(R:ψ A (d+1)){vo:Value}(ho:ω W (vis vol s.heap) o vo):ο W A vol (call (.builtin "len") [vo] []) m s:=λE Q k=>by
 obtain⟨a,C,f,ox,od,IA,a1,a2,hc⟩:=xw TO ok e I ho
 refine Calls.call_function_entry kind_len plain_len entry_len (args_len1 _) (wpAny_bind (m:=oneArg "len" _) (wpAny_pure (wpAny_bind (m:=callSpecial? (.ref a) (Str.ofString "__len__")) (special_fn I.k IA a1 a2 (hc (.refl _) R.in1 E _ λv s1 h1 k1=>?_)))))
 obtain⟨n,t,rfl,hn,hv⟩:=ui hm h1
 refine wpAny_bind (wpAny_holding (wpAny_pure (wpAny_bind (wpAny_letGo ?_))))
 exact wpAny_ite (c:=(n:Int)<0) ((if_neg (Int.not_lt.mpr (Int.natCast_nonneg n))).symm▸wpAny_ite (c:=(n:Int)>=2^63) ((if_neg (big hn (by decide))).symm▸wpAny_bind (wpAny_mkInt (wpAny_pure ⟨_,rfl,k _ _ (hv _) (k1.trans .tok)⟩))))
theorem Gq{T:iZ}(TO:oB W T)(ok:al W sv){o m:XV}(e:aaD T (λd f a=>sv.call d f a []) d o=some m)(I:Inv W vol s)(R:ψ A (d+1)){vo:Value}(ho:ω W (vis vol s.heap) o vo):ο W A vol (call (.builtin "len") [vo] []) m s:=by
  refine af e (λe=>O e λl e1 e=>?_) λe=>af e (λe=>O e λx e1 e=>ξ e λc e=>?_) λe=>af e (λe=>O e λl e1 e=>?_) λe=>af e (λe=>O e λl e1 e=>?_) λe=>O e λm' e1 e=>?_
  ·exact lD (P:=λvo=>ο W A vol (call (.builtin "len") [vo] []) m s) e1 ho λt=>Φ e λc E Q k=>PyProof.Rows.len_str (x:=aD l) (big (ble c) (by decide)) (k _ _ lC .tok)
  · refine eM e1 ho λt=>?_
    have hb:=vm (S:=W.S) x
    have hB:(bu (x.den W.S)).size<=1099511627776:=Nat.le_trans (Bx.len W.uN x) (Nat.le_trans (ble c) (by decide))
    refine a9 e (λh e=>?_) λ_ e=>Φ e λc2 E Q k=>PySem.W.len_bytes hB (k _ _ ⟨_,congrArg (λn:Nat=>Value.int n _) ?_⟩ .tok)
    · cases e
      exact λE Q k=>PySem.W.len_bytes hB (k _ _ ⟨_,congrArg (λn:Nat=>Value.int n _) (by rw[nil_of h]at hb;exact hb)⟩ .tok)
    ·exact((Nat.eq_sub_of_add_eq hb).trans ((congrArg (·-_) (Nat.add_comm ..)).trans (Nat.add_sub_assoc (ble c2) _))).trans (Nat.add_comm ..)
  ·exact bq (cX e1 ho) λa vs n h1 h2=>Φ e λc E Q k=>PyProof.Rows.len_list (items:=vs.toArray) (aN (ι.mp h1).1) (Int.not_le.mp (big (show vs.length<=1000 from h2.len▸ble c) (by decide))) (k _ _ ⟨_,congrArg (λn:Nat=>Value.int n _) h2.len⟩ .tok)
  ·exact cO (lq e1 ho) λa vs h1 h2=>Φ e λc E Q k=>PySem.P.len_tuple (items:=vs.toArray) (n:=0) (ι.mp h1).1 (big (show vs.length<=1000 from h2.len▸ble c) (by decide)) (k _ _ ⟨_,congrArg (λn:Nat=>Value.int n _) h2.len⟩ .tok)
  · refine ξ e λc e=>?_
    cases e
    exact len_own TO ok e1 c I R ho
end
noncomputable def jW:List (Nat×List Nat):=[(0,[48]),(1,[49]),(2,[50]),(3,[51]),(4,[52]),(16,[49,54]),(17,[49,55]),(128,[49,50,56]),(144,[49,52,52]),(300,[51,48,48]),(2147483647,[50,49,52,55,52,56,51,54,52,55]),(2147483648,[50,49,52,55,52,56,51,54,52,56])]
def aaE(T:iZ)(call:Nat->Addr->List XV->Option XV)(d:Nat)(o:XV):Option XV:=((dK o).map .str).or (((mB o).bind λn=>(iL jW n).map λl=>.str [.lit l]).or ((sN T call d o (Str.ofString "__str__")).bind λm=>bif B7 m then some m else none))
section
variable{W:aE}{A:Around}{vol own:List Addr}{s:Shared}{d:Nat}{env:Env}{cx:Cx}{ρ:au}{sv:Sv}
theorem cI{α:Type}{n:Nat}{l:α}{t:List (Nat×α)}:iL t n=some l->(n,l)∈t:=by induction t with
 |nil=>exact λe=>ζ e|cons p r ih=>
  intro e
  have e:(bif Nat.beq p.1 n then some p.2 else iL r n)=some l:=e
  refine a9 e (λh e=>?_) λ_ e=>.tail _ (ih e)
  cases e
  cases Nat.eq_of_beq_eq_true h
  exact .head _
theorem im{n:Nat}{l:List Nat}(e:iL jW n=some l):(Str.ofString (toString (n:Int)))=aD l/\n<=2147483648:=of_decide_eq_true (List.all_eq_true.mp (by decide+kernel:jW.all (λp=>decide (Str.ofString (toString (p.1:Int))=aD p.2/\p.1<=2147483648))=true) _ (cI e))
open PySem.Builtin PySem.Builtin.Str in theorem Gs{T:iZ}(TO:oB W T)(ok:al W sv){o m:XV}(e:sN T (λd f a=>sv.call d f a []) d o (Str.ofString "__str__")=some m)(hm:B7 m=true)(I:Inv W vol s)(R:ψ A (d+1)){vo:Value}(ho:ω W (vis vol s.heap) o vo):ο W A vol (call (.type "str") [vo] []) m s:=λE Q k=>by
  obtain⟨a,C,f,ox,od,IA,a1,a2,hc⟩:=xw TO ok e I ho
  have R3:ψ A.in1.in1 d:=R.in2
  have hu:A.in1.in1.units<cLine:=R3.lt
  refine callType_codes (T:="str") (Bi:=Builtin.«object.__init__») (Q₁:=λr lI=>∃y u,r=.str y u/\Q r lI) PySem.F.called_str (PySem.F.typeCall_str_1 _) PySem.F.entry_object_init ?_ ?_
  · refine codeAny_of_tree ?_
    show wpAny _ A.in1.in1 (do checkBuiltinCall "str.__new__" ⟨[.type "str",.ref a],[]⟩;again (.builtin "str.__new__" ⟨[.type "str",.ref a],[]⟩)) _ _ s
    refine wpAny_bind (wpAny_of_eq (PySem.F.newCall_str_1 _) (wpAny_pure ⟨plainId_quiet (by decide+kernel) _,codeAny_builtin PySem.F.entry_str_new ?_⟩))
    rw[Around.under_plainId (by decide+kernel) _]
    rw[str_new_tree]
    refine wpAny_bind (wpAny_pure ?_)
    refine wpAny_bind (wpAny_of_eq isSubtype_str_str ?_)
    have key:∀(E:Value->Shared->Prop),wpAny (Md W) A.in1.in1 (PySem.Builtin.Str.strOf (.ref a)) (λr lI=>∃y u,r=.str y u/\Q r lI) E s:=by
      intro E
      unfold PySem.Builtin.Str.strOf
      rw[show isExactStr (.ref a)=false from rfl]
      refine wpAny_bind (m:=cRoomFor _ _) (wpAny_cRoomFor hu ?_)
      refine wpAny_bind (m:=callSpecial? (.ref a) (Str.ofString "__str__")) (special_fn I.k IA a1 a2 (hc (.refl _) R3 E _ λv s1 h1 k1=>?_))
      have hs:∃y u,v=.str y u:=by cases m with
|str _=>exact h1.elim λt y=>⟨_,t,y⟩|dD _=>exact h1.elim λy=>Exists.rec λt z=>⟨y,t,z.1⟩|_=>exact υ hm
      obtain⟨y,u,rfl⟩:=hs
      exact wpAny_pure ⟨_,_,rfl,k _ _ h1 k1⟩
    exact wpAny_bind (wpAny_mono (key _) (λr lI hr=>wpAny_pure hr) λ_ _ y=>y)
  · rintro obj lI⟨y,u,rfl,hq⟩
    exact⟨typeIs_str _ _ _,PySem.F.args_object_init_2 _ _,object_init_meets PySem.F.called_str.init.lookup PySem.F.called_str.made (by decide) W.prog W.w A.in1 _ lI ⟨typeIs_str _ _ _,rfl,hq⟩⟩
theorem v9{n:Nat}(h:n<=2147483648):(n:Int).natAbs.log2<1920:=show n.log2<1920 from if h0:n=0 then h0▸(by decide)else Nat.lt_trans ((Nat.log2_lt h0).mpr (Nat.lt_of_le_of_lt h (by decide:2147483648<2^64))) (by decide)
theorem Gu{T:iZ}(TO:oB W T)(ok:al W sv){o m:XV}(e:aaE T (λd f a=>sv.call d f a []) d o=some m)(I:Inv W vol s)(R:ψ A (d+1)){vo:Value}(ho:ω W (vis vol s.heap) o vo):ο W A vol (call (.type "str") [vo] []) m s:=by
  refine af e (λe=>?_) λe=>af e (λe=>O e λn e1 e=>?_) λe=>O e λm' e1 e=>ξ e λc e=>?_
  · obtain⟨x,e1,rfl⟩:=Option.map_eq_some_iff.mp e
    exact d9 e1 ho λt E Q k=>PySem.P.str_of_str (k _ _ (jr rfl) (.refl _))
  · obtain⟨l,e2,rfl⟩:=Option.map_eq_some_iff.mp e
    obtain⟨h1,h2⟩:=im e2
    exact dL e1 ho λt E Q k=>PySem.P.str_of_int (v9 h2) (k _ _ (jr ((congrArg aD (List.append_nil _)).trans h1.symm)) .tok)
  · cases e
    exact Gs TO ok e1 c I R ho
end
noncomputable def Fa:List XV->Option (List Tx)
 |[]=>some []|m::r=>pG (dK m) (Fa r)
noncomputable def wH(cH:Tx):List Tx->Tx
 |[]=>[]|x::r=>bif ak r then x else x++cH++wH cH r
noncomputable def Fb(n:Nat):List Tx->Nat
 |[]=>0|x::r=>x.bound+n+Fb n r
noncomputable def fU(l:List Nat):Bool:=l.all λc=>Nat.blt c 128
section
variable{W:aE}{A:Around}{vol own:List Addr}{s:Shared}{d:Nat}{env:Env}{cx:Cx}{ρ:au}{sv:Sv}
def b9(W:aE)(o:XV)(x:Str)(ms:List XV)(m:XV):Prop:=∀{A:Around}{vol:List Addr}{s:Shared}{vo:Value}{d:Nat},Inv W vol s->ψ A d->ω W (vis vol s.heap) o vo->∃id,(∀(pl:Sem Bool)(E:Value->Shared->Prop)(Q:Value×List Value->Shared->Prop),Q (.builtin id,[vo]) s->wpAny (Md W) A (getMethod vo x pl) Q E s)/\∀s' vs,Step s s'->Ξ W (vis vol s'.heap) ms vs->ο W A vol (call (.builtin id) (vo::vs) []) m s'
theorem W9{h:Heap}{ms:List XV}:∀{ts:List Tx}{vs:List Value},Fa ms=some ts->Ξ W h ms vs->∃l:List (Str×Tok),vs=strValues l/\l.map (·.1)=ts.map λx=>aD (x.den W.S):=by induction ms with
 |nil=>exact λe x=>Option.some.inj e▸⟨[],x,rfl⟩|cons m r ih=>
  refine λe x=>π e λa q e1 e2 e=>am x λv vs x1 x2=>?_
  cases e
  exact d9 (P:=λv=>∃l:List (Str×Tok),v::vs=strValues l/\l.map (·.1)=(a::q).map λx=>aD (x.den W.S)) e1 x1 λt=>(ih e2 x2).imp' ((aD (a.den W.S),t)::·) λl y=>⟨congrArg (_::·) y.1,congrArg (_::·) y.2⟩
theorem Gv{S:ay}{cH:Tx}{ts:List Tx}:Str.join (aD (cH.den S)) (ts.map λx=>aD (x.den S))=aD ((wH cH ts).den S):=by induction ts with
 |nil=>rfl|cons x r ih=>cases r with
  |nil=>rfl|cons y r=>exact(congrArg (aD (x.den S)++aD (cH.den S)++·) ih).trans ((congrArg (·++_) (dp ..)).trans ((dp ..).trans (congrArg aD ((Tx.bG ..).trans (congrArg (·++_) (Tx.bG ..))).symm)))
theorem Gw{S:ay}(o:S.Ok){n:Nat}{ts:List Tx}:∀a,(ts.map λx=>aD (x.den S)).foldl (λ(k:Nat)(x:Str)=>k+x.length+n) a<=a+Fb n ts:=by induction ts with
 |nil=>exact λa=>Nat.le_refl a|cons x r ih=>exact λa=>Nat.le_trans (ih _) (Nat.le_trans (Nat.add_le_add_right (Nat.add_le_add_right (Nat.add_le_add_left (Tx.len o x) a) n) _) (Nat.le_of_eq ((congrArg (·+_) (Nat.add_assoc ..)).trans (Nat.add_assoc ..))))
theorem small{n:Nat}(h:n<=bI):n<=sizeLine:=Nat.le_trans h (sizeLine_eq▸by decide)
theorem ac0{cH:Tx}{ms:List XV}{ts:List Tx}{l:List Nat}(hs:aF cH=some l)(ha:Fa ms=some ts)(hn:Nat.ble (Fb l.length ts) bI=true):b9 W (.str cH) (Str.ofString "join") [.list ms] (.str (wH cH ts)):=by
 refine λ{A vol s vo d}I R ho=>cm ho λt=>⟨_,λpl E Q q=>GM.join q,λs' vs k hv=>am hv λv vs h1 hv=>bz hv (bq h1 λa us nn h2 h3 E Q q=>?_)⟩
 obtain⟨l',rfl,l1⟩:=W9 ha h3
 refine SC.join (aN (ι.mp h2).1) l1 ?_ λt' tk=>q _ _ (jr (Gv.symm.trans (StrLaws.glued_eq_join ..).symm)) .tok
 have hl:(aD (cH.den W.S)).length=l.length:=congrArg List.length (aJ hs)
 refine congrArg not (decide_eq_false (Nat.not_lt.mpr ?_))
 rw[List.foldl_toArray,hl]
 exact Nat.le_trans (Gw W.uN 0) (small ((Nat.zero_add _).symm▸ble hn))
end
noncomputable def vn(l:List Nat):List Nat:=l.map lo1
noncomputable def Fc:List Nat:=[48,49,50,51,52,53,54,55,56,57,97,98,99,100,101,102]
noncomputable def Fd:List (Nat×Nat):=[(48,0),(49,1),(50,2),(51,3),(52,4),(53,5),(54,6),(55,7),(56,8),(57,9),(97,10),(98,11),(99,12),(100,13),(101,14),(102,15)]
section
variable{W:aE}{A:Around}{vol own:List Addr}{s:Shared}{d:Nat}{env:Env}{cx:Cx}{ρ:au}{sv:Sv}
theorem j7{l:List Nat}(h:fU l=true)(c:Nat)(m:c∈l):c<128:=(iff_of_eq Nat.blt_eq).mp (List.all_eq_true.mp h c m)
theorem W_{x:Tx}{l:List Nat}(hl:aF x=some l)(ha:fU l=true)(hn:Nat.ble l.length bI=true):b9 W (.str x) (Str.ofString "lower") [] (.str [.lit (vn l)]):=by
 refine λ{A vol s vo d}I R ho=>cm ho λt=>⟨_,λpl E Q q=>GM.lower q,λs' vs k hv=>bz hv λE Q q=>?_⟩
 rw[aJ hl]
 have e:Txt.lower (aD l)=aD (vn l):=(lower_ascii (x:=aD l) (λc m=>j7 ha c m)).trans (congrArg Str.mk (List.map_toArray ..))
 exact SC.lower (e▸decide_eq_false (Nat.not_lt.mpr (Nat.le_trans (Nat.le_of_eq (List.length_map lo1)) (small (ble hn))))) (q _ _ (jr ((congrArg aD (List.append_nil _)).trans e.symm)) .tok)
theorem Xa{c i:Nat}(e:iL Fd c=some i):Builtin.Str.occurrences (aD Fc) (aD [c]) 0 16 1=[i]:=of_decide_eq_true (List.all_eq_true.mp (by decide+kernel:Fd.all (λp=>decide (Builtin.Str.occurrences (aD Fc) (aD [p.1]) 0 16 1=[p.2]))=true) _ (cI e))
theorem Xb{x y:Tx}{l:List Nat}{c i:Nat}(hl:aF x=some l)(h1:dk l Fc=true)(hy:aF y=some [c])(e:iL Fd c=some i):b9 W (.str x) (Str.ofString "index") [.str y] (.int (i:Nat)):=by
 refine λ{A vol s vo d}I R ho=>cm ho λt=>⟨_,λpl E Q q=>GM.index q,λs' vs k hv=>am hv λv vs v1 hv=>bz hv (cm v1 λu E Q q=>?_)⟩
 rw[aJ hl,aJ hy,dY h1]
 exact SC.index (i:=i) (rest:=[]) (Xa e) (q _ _ lC .tok)
open PySem.Builtin.Str PySem.Builtin in theorem v_{x y:Str}{t u:Tok}(hy:(y.length==0)=false)(hsz:x.length<=100000)(E Q:Value->Shared->Prop)(q:∀l:List (Str×Tok),l.map (·.1)=Txt.split x y->∀tk,Q (.ref s.heap.objs.size) {s with toks:=tk,heap:=s.heap.push (aI (strValues l) 0)}):wpAny (Md W) A (call (.builtin "str.split") [.str x t,.str y u]) Q E s:=by cases c1:(decide (x.length<y.length)||decide (strKind x<strKind y))with
 |true=>exact call_meets F.slot_str_split (typeIs_str _ _ _) F.entry_str_split (F.args_str_split_2 _ _) (meets_str_split_cannot_occur x y t u c1) (q [(x,t)] (if_pos c1).symm s.toks)|false=>
  have n1:=ne_true_of_eq_false c1
  cases c2:(occurrences x y 0 x.length (x.length+1)).isEmpty with
  |true=>exact call_meets F.slot_str_split (typeIs_str _ _ _) F.entry_str_split (F.args_str_split_2 _ _) (meets_str_split_not_found x y t u c1 hy c2) (q [(x,t)] ((if_neg n1).trans (if_pos c2)).symm s.toks)|false=>
   have hp:(partsBetween x (occurrences x y 0 x.length (x.length+1)) y.length).length<=sizeLine:=Nat.le_trans (Nat.le_of_eq (List.length_map ..)) (Nat.le_trans (List.length_zip▸Nat.min_le_left ..) (Nat.le_trans (Nat.succ_le_succ (Nat.le_trans (Nat.le_of_eq (List.length_map ..)) (Nat.le_trans (StrLaws.occ_length_le x y 0 x.length (x.length+1)) (Nat.succ_le_succ hsz)))) (sizeLine_eq▸by decide)))
   refine call_meets F.slot_str_split (typeIs_str _ _ _) F.entry_str_split (F.args_str_split_2 _ _) (meets_str_split_sep x y t u c1 hy c2 (Nat.le_trans hsz (sizeLine_eq▸by decide)) hp) ?_
   show wants Q E _ {s with toks:=_,heap:=s.heap.push {cls:=.type "list",data:=.seq (strsFrom s.toks (partsBetween x (occurrences x y 0 x.length (x.length+1)) y.length)).toArray}}
   rw[strsFrom_eq]
   exact q (numbered s.toks _) ((numbered_texts _ _).trans ((if_neg n1).trans (if_neg (ne_true_of_eq_false c2))).symm) _
theorem wa{x:List Nat}{z:Str}(h:(∃a r,x=a++40::r/\40∉a))(hz:(Txt.split (aD x) (aD [40]))[0]?=some z):z=aD (x.takeWhile (·!=40)):=by
  obtain⟨a,r,rfl,ha⟩:=h
  have tw:(a++40::r).takeWhile (·!=40)=a:=(List.takeWhile_append_of_pos λc m=>bne_iff_ne.mpr λz:c=40=>ha (z▸m)).trans (List.append_nil a)
  have vq:∀i,StrLaws.At (aD (a++40::r)) (aD [40]) (aD (a++40::r)).length i↔(a++40::r)[i]?=some 40:=λi=>StrLaws.subAt_one (aD (a++40::r)) 40 i
  have hat:(a++40::r)[a.length]?=some 40:=(List.getElem?_append_right (Nat.le_refl _)).trans (Nat.sub_self a.length▸rfl)
  rcases split_head _ _ (by decide+kernel) z hz with⟨_,hn⟩|⟨i,rfl,hi,hn⟩
  ·exact absurd ((vq _).mpr hat) (hn _)
  · have h1:¬a.length<i:=λhh=>hn _ hh ((vq _).mpr hat)
    have h2:¬i<a.length:=λhh=>ha (List.mem_of_getElem? ((List.getElem?_append_left hh).symm.trans ((vq i).mp hi)))
    cases Nat.le_antisymm (Nat.not_lt.mp h1) (Nat.not_lt.mp h2)
    exact tw.symm▸congrArg Str.mk (Array.toList_inj.mp (by simp[List.extract_eq_take_drop,aD]))
theorem Dw(i:Nat):∃a r,Tx.den W.S [.sym i]=a++40::r/\40∉a:=(W.uN.head i).imp λa=>Exists.imp λr y=>⟨(List.append_nil _).trans y.1,y.2.1⟩
theorem Dx{x:Tx}{l:List Nat}(e:aF x=some l)(m:cr 40 l=true):∃a r,x.den W.S=a++40::r/\40∉a:=aJ (S:=W.S) e▸(List.eq_append_cons_of_mem (of_decide_eq_true ((jI 40 l).symm.trans m))).imp λa=>Exists.imp λr y=>y
theorem wb(x:List Nat):∃z,(Txt.split (aD x) (aD [40]))[0]?=some z:=by
 unfold Txt.split
 refine iteInduction (motive:=λl:List Str=>∃z,l[0]?=some z) (λ_=>⟨_,rfl⟩) λ_=>iteInduction (motive:=λl:List Str=>∃z,l[0]?=some z) (λ_=>⟨_,rfl⟩) λh2=>?_
 cases h:Builtin.Str.occurrences (aD x) (aD [40]) 0 (aD x).length ((aD x).length+1)with
 |nil=>exact absurd (congrArg List.isEmpty h) h2|cons a b=>exact⟨_,rfl⟩
theorem B_{x y:Tx}(hy:aF y=some [40])(hx:x.bound<=100000)(hh:∃a r,x.den W.S=a++40::r/\40∉a):b9 W (.str x) (Str.ofString "split") [.str y] (.heads x):=by
 refine λ{A vol s vo d}I R ho=>cm ho λt=>⟨_,λpl E Q q=>GM.split q,λs' vs k hv=>am hv λv vs v1 hv=>bz hv (cm v1 λu E Q q=>?_)⟩
 rw[aJ hy]
 refine v_ (x:=aD (x.den W.S)) (by decide) (Nat.le_trans (Tx.len W.uN x) hx) E Q λl hl tk=>?_
 obtain⟨z,hz⟩:=wb (x.den W.S)
 have e:=wa hh hz
 rw[<-hl]at hz
 cases l with
 |nil=>exact nomatch hz|cons p l=>exact q _ _ ⟨s'.heap.objs.size,strValues l,0,p.2,rfl,(Option.some.inj hz).trans e▸dA (I.step k) (o:=aI (strValues (p::l)) 0) rfl⟩ (Step.push s' _)
end
namespace BJ
open Builtin
theorem slot:Slot "bytes" "join" "bytes.join":=.of (owner:="bytes") (n:="join") (by rw[typeLookup_type,builtinLookup_eq_fast];kernel_rfl) (by decide+kernel) (by decide+kernel) (by decide+kernel) (by first|exact .inl (by decide+kernel)|exact .inr (by decide+kernel)) (by rw[isSubtype_type];kernel_rfl)
theorem rG:typeOf (.builtin "bytes.join")=pure (.type "method_descriptor"):=by show builtinType _=_;rw[builtinType_eq_fast];kernel_rfl
theorem entry:entryFor table "bytes.join"=some Builtin.«bytes.join»:=entryFor_of_fast (by kernel_rfl)
theorem args(a b:Value):argsOk "bytes.join" ⟨[a,b],[]⟩:=by unfold argsOk;kernel_rfl
theorem noRef{s:Shared}{b:Array UInt8}{t:Tok}:∀a,Value.bytes b t=.ref a->∃o,s.heap.get? a=some o/\o.dict=none:=λ_ e=>nomatch e
theorem method{M:Model}{A:Around}{E:Value->Shared->Prop}{s:Shared}{b:Array UInt8}{t:Tok}{pl:Sem Bool}{Q:Value×List Value->Shared->Prop}(h:Q (.builtin "bytes.join",[.bytes b t]) s):wpAny M A (getMethod (.bytes b t) "join" pl) Q E s:=KBd.method_of _ (typeIs_bytes _ _ _) slot rG noRef h
noncomputable def EO(l:List (List UInt8×Tok)):List Value:=l.map λp=>.bytes (bu p.1) p.2
theorem Gx{id:String}{b:Array UInt8}{t:Tok}:Bytes.takeBuffer? id (.bytes b t) 0=pure (some (b,none)):=by
 unfold Bytes.takeBuffer?
 rw[show((0:Int)==Bytes.fullReadOnly)=false by decide+kernel,KBy.special_eq KBy.look_buffer,KBy.own_buffer,show Bytes.buffer? id (.bytes b t) false=pure (some b)from KBy.buffer_eq]
 rfl
theorem quiet{M:Model}{A:Around}{E:Value->Shared->Prop}{s:Shared}{id:String}{b:Array UInt8}{t:Tok}{Q:Option (Array UInt8×Option Value)->Shared->Prop}(h:Q (some (b,none)) s):wpAny M A (Bytes.takeBufferQuiet? id (.bytes b t) 0) Q E s:=wpAny_bind (wpAny_attempt (wpAny_of_eq Gx (wpAny_pure h)))
theorem joinLetGo{M:Model}{A:Around}{E:Value->Shared->Prop}{keep:List Value}{l:List (List UInt8×Tok)}:∀{s:Shared}{Q:Unit->Shared->Prop},Q () s->wpAny M A (Bytes.joinLetGo (l.map λp=>(Value.bytes (bu p.1) p.2,(none:Option Value))) keep) Q E s:=by induction l with
 |nil=>exact λh=>wpAny_pure h|cons p r ih=>exact λh=>wpAny_bind (m:=PySem.letGo _ _) (wpAny_letGo (ih h))
noncomputable def out(cH:List UInt8):List (List UInt8)->List UInt8
 |[]=>[]|x::r=>bif ak r then x else x++cH++out cH r
theorem nK{M:Model}{A:Around}{E:Value->Shared->Prop}{s:Shared}{a:Addr}{vs:List Value}{n:Nat}{Q:Option (Array Value)->Shared->Prop}(h:s.heap.get? a=some (aI vs n))(k:Q (some vs.toArray) s):wpAny M A (seqItems? (.ref a)) Q E s:=wpAny_bind (wpAny_load h (wpAny_pure k))
theorem Dy{M:Model}{A:Around}{E:Value->Shared->Prop}{s:Shared}{β:Type}{n:Nat}{b:β}{f:Nat->β->Sem (ForInStep β)}{Q:β->Shared->Prop}(h:wpAny M A (forIn (List.range' 0 n 1) b f) Q E s):wpAny M A (forIn [:n] b f) Q E s:=KPc.range_list ..▸h
abbrev LSt:=Array (Array UInt8)×List (Value×Option Value)
noncomputable def lJ(p:List (List UInt8×Tok)):LSt:=(⟨p.map λp=>bu p.1⟩,p.map λp=>(Value.bytes (bu p.1) p.2,none))
def Inv(s:Shared)(l:List (List UInt8×Tok))(rest:List Nat)(st:LSt)(s':Shared):Prop:=s'=s/\∃p r,l=p++r/\rest=List.range' p.length r.length 1/\st=lJ p
theorem Dz(cH:List UInt8)(r:List (List UInt8)):∀(x:List UInt8),out cH (x::r)=x++r.flatMap (λy=>cH++y):=by induction r with
 |nil=>exact λx=>(List.append_nil x).symm|cons y r ih=>exact λx=>(congrArg (x++cH++·) (ih y)).trans ((List.append_assoc ..).trans (congrArg (x++·) (List.append_assoc ..).symm))
theorem zk(cH:List UInt8)(r:List (List UInt8)):∀(k:Nat)(bh:List UInt8),((r.map bu).zipIdx (k+1)).foldl (λout(p,i)=>(if i>0 then out++bu cH else out)++p) (bu bh)=bu (bh++r.flatMap (λy=>cH++y)):=by induction r with
 |nil=>exact λk bh=>congrArg bu (List.append_nil bh).symm|cons y r ih=>
  intro k bh
  have e:(if k+1>0 then bu bh++bu cH else bu bh)++bu y=bu (bh++(cH++y)):=(congrArg (·++bu y) ((if_pos (Nat.succ_pos k)).trans (gq ..))).trans ((gq ..).trans (congrArg bu (List.append_assoc ..)))
  exact(congrArg (List.foldl (λout(p,i)=>(if i>0 then out++bu cH else out)++p) · ((r.map bu).zipIdx (k+2))) e).trans ((ih (k+1) _).trans (congrArg bu (List.append_assoc ..)))
theorem zl(cH:List UInt8)(r:List (List UInt8)):Bytes.joined (bu cH) (r.map bu)=bu (out cH r):=by cases r with
 |nil=>rfl|cons x r=>exact(congrArg (List.foldl (λout(p,i)=>(if i>0 then out++bu cH else out)++p) · ((r.map bu).zipIdx 1)) (Array.empty_append:(#[]:Array UInt8)++bu x=bu x)).trans ((zk cH r 0 x).trans (congrArg bu (Dz cH r x).symm))
noncomputable def tot(n:Nat):List (List UInt8)->Nat
 |[]=>0|x::r=>x.length+n+tot n r
theorem Gy(cH:List UInt8)(r:List (List UInt8)):(out cH r).length<=tot cH.length r:=by induction r with
 |nil=>exact Nat.le_refl _|cons x r ih=>cases r with
  |nil=>exact Nat.le_add_right ..|cons y r=>exact Nat.le_trans (Nat.le_of_eq (List.length_append.trans (congrArg (·+_) List.length_append))) (Nat.add_le_add_left ih _)
theorem zm(n:Nat)(r:List (List UInt8)):∀k,(r.map bu).foldl (λ(a:Nat)(b:Array UInt8)=>a+b.size) k+n*r.length=k+tot n r:=by induction r with
 |nil=>exact λk=>rfl|cons x r ih=>
  intro k
  have e:(r.map bu).foldl (λ(a:Nat)(b:Array UInt8)=>a+b.size) (k+x.length)+n*r.length=k+x.length+tot n r:=ih (k+x.length)
  show(r.map bu).foldl (λ(a:Nat)(b:Array UInt8)=>a+b.size) (k+x.length)+(n*r.length+n)=k+(x.length+n+tot n r)
  omega
theorem getD_at{p r:List (List UInt8×Tok)}{q:List UInt8×Tok}:(EO (p++q::r)).toArray.getD p.length Value.none=.bytes (bu q.1) q.2:=by
 rw[Array.getD_eq_getD_getElem?,List.getElem?_toArray]
 have e:(EO (p++q::r))[p.length]?=some (.bytes (bu q.1) q.2):=(List.getElem?_map ..).trans (congrArg (Option.map _) ((List.getElem?_append_right (Nat.le_refl _)).trans (congrArg ((q::r)[·]?) (Nat.sub_self _))))
 rw[e]
 rfl
theorem zn{p:List (List UInt8×Tok)}{q:List UInt8×Tok}:((lJ p).1.push (bu q.1),(lJ p).2++[(Value.bytes (bu q.1) q.2,none)])=lJ (p++[q]):=congr (congrArg Prod.mk ((List.push_toArray ..).trans (congrArg Array.mk (List.map_append (l₂:=[q])).symm))) (List.map_append (l₂:=[q])).symm
theorem Xc{p:List (List UInt8×Tok)}:((lJ p).2.any (·.1.onHeap))=false:=by induction p with
 |nil=>rfl|cons q p ih=>exact ih
theorem mK{M:Model}{A:Around}{E:Value->Shared->Prop}{s:Shared}{α:Type}{t t':Sem α}{Q:α->Shared->Prop}(h:t=t')(k:wpAny M A t' Q E s):wpAny M A t Q E s:=h▸k
theorem DA{β:Type}{items:Array Value}{f:Value->β}{g:Array Value->β}(h:¬items.size=1):Bytes.joinM.match_1 (λ_=>β) items f g=g items:=by
 unfold Bytes.joinM.match_1
 exact dif_neg h
theorem meets(cH:List UInt8)(t:Tok)(a:Addr)(n:Nat)(l:List (List UInt8×Tok)):Meets («bytes.join» ⟨[.bytes (bu cH) t,.ref a],[]⟩) (λ_ R s=>s.heap.get? a=some (aI (EO l) n)/\tot cH.length (l.map (·.1))<=16777216/\∀t' tk,R (.ok (.ret (.bytes (bu (out cH (l.map (·.1)))) t'))) {s with toks:=tk}):=by
  refine .of_wp λprog w A R s hS=>?_
  obtain⟨h1,h2,h3⟩:=hS
  have hsz:(EO l).toArray.size=l.length:=List.length_map ..
  refine wpAny_bind (m:=selfAndOne _ _) (wpAny_pure (wpAny_bind (wpAny_bind (wpAny_typeOf (T:="list") ⟨_,h1,rfl⟩ (wpAny_pure (wpAny_bind (nK h1 (wpAny_ite (c:=(Bytes.Kind.bytes==Bytes.Kind.bytes)=true) (KPc.ite_yes rfl ?_)))))))))
  by_cases aaF:∃p,l=[p]
  · obtain⟨p,rfl⟩:=aaF
    exact wpAny_bind (wpAny_typeOf (typeIs_bytes s (bu p.1) p.2) (wpAny_bind (wpAny_rule (wpAny_pure ⟨_,rfl,h3 p.2 s.toks⟩))))
  refine mK (DA (λh=>aaF (List.length_eq_one_iff.mp (hsz.symm.trans h)))) ?_
  refine wpAny_bind (Dy (wpAny_forIn_list _ (Inv s l) _ ?_ ?_ _ _ ⟨rfl,[],l,rfl,congrArg (λk=>List.range' 0 k 1) hsz,rfl⟩))
  · rintro x rest st s'⟨rfl,p,r,e,h5,rfl⟩
    cases r with
|nil=>exact nomatch h5|cons q r=>
    obtain⟨rfl,rfl⟩:=List.cons.inj h5
    have hg:(EO l).toArray.getD p.length Value.none=.bytes (bu q.1) q.2:=e▸getD_at
    refine wpAny_bind (nK h1 (wpAny_ite (c:=(Bytes.Kind.bytes==Bytes.Kind.bytearray||(lJ p).2.any (·.1.onHeap))=true) (KPc.ite_no (Xc (p:=p)▸Bool.false_ne_true) (wpAny_bind (wpAny_holding (hg.symm▸quiet (wpAny_bind (nK h1 (wpAny_ite (c:=((EO l).toArray.size !=(EO l).toArray.size)=true) (KPc.ite_no (bne_self_eq_false (EO l).toArray.size▸Bool.false_ne_true) (wpAny_pure ?_)))))))))))
    exact⟨rfl,p++[q],r,e.trans (List.append_assoc p [q] r).symm,congrArg (λk=>List.range' k r.length 1) (List.length_append (bs:=[q])).symm,zn⟩
  · rintro st s'⟨rfl,p,r,e,h5,rfl⟩
    cases r with
|cons q r=>exact nomatch h5|nil=>
    cases(e.trans (List.append_nil p))
    refine wpAny_bind (m:=Bytes.payload _) (wpAny_pure ?_)
    have hl:(lJ l).1.toList=(l.map (·.1)).map bu:=List.map_map.symm
    have hf:(lJ l).1.foldl (λ(a:Nat)(b:Array UInt8)=>a+b.size) ((bu cH).size*((lJ l).1.size-1))<=16777216:=by
      rw[<-Array.foldl_toList,hl]
      have:=zm cH.length (l.map (·.1)) ((bu cH).size*((lJ l).1.size-1))
      have h8:(lJ l).1.size=(l.map (·.1)).length:=(List.length_map ..).trans (List.length_map ..).symm
      have h9:(bu cH).size*((lJ l).1.size-1)<=cH.length*(l.map (·.1)).length:=Nat.mul_le_mul_left _ (h8▸Nat.sub_le ..)
      omega
    refine wpAny_ite (KPc.ite_no (KBy.tooLong_not hf▸Bool.false_ne_true) (wpAny_bind (m:=Bytes.Kind.new _ _) ?_))
    rw[hl,zl]
    exact wpAny_mkBytes (wpAny_bind (wpAny_holding (wpAny_point (wpAny_bind (joinLetGo (wpAny_pure ⟨_,rfl,h3 _ _⟩)))))) (Nat.le_trans (Gy cH _) (Nat.le_trans h2 (Nat.le_of_eq sizeLine_eq.symm)))
end BJ
noncomputable def allB:List XV->Option (List Bx)
 |[]=>some []|m::r=>pG (mA m) (allB r)
noncomputable def wI(cH:Bx):List Bx->Bx
 |[]=>[]|x::r=>bif ak r then x else x++cH++wI cH r
noncomputable def Fe(n:Nat):List Bx->Nat
 |[]=>0|x::r=>x.bound+n+Fe n r
section
variable{W:aE}{A:Around}{vol own:List Addr}{s:Shared}{d:Nat}{env:Env}{cx:Cx}{ρ:au}{sv:Sv}
theorem Xd{h:Heap}{ms:List XV}:∀{ts:List Bx}{vs:List Value},allB ms=some ts->Ξ W h ms vs->∃l:List (List UInt8×Tok),vs=BJ.EO l/\l.map (·.1)=ts.map (Bx.den W.S):=by induction ms with
 |nil=>exact λe x=>Option.some.inj e▸⟨[],x,rfl⟩|cons m r ih=>
  refine λe x=>π e λa q e1 e2 e=>am x λv vs x1 x2=>?_
  cases e
  exact eM (P:=λv=>∃l:List (List UInt8×Tok),v::vs=BJ.EO l/\l.map (·.1)=(a::q).map (Bx.den W.S)) e1 x1 λt=>(ih e2 x2).imp' ((a.den W.S,t)::·) λl y=>⟨congrArg (_::·) y.1,congrArg (_::·) y.2⟩
theorem DB{S:ay}{cH:Bx}{ts:List Bx}:BJ.out (cH.den S) (ts.map (Bx.den S))=(wI cH ts).den S:=by induction ts with
 |nil=>rfl|cons x r ih=>cases r with
  |nil=>rfl|cons y r=>exact(congrArg (x.den S++cH.den S++·) ih).trans ((Bx.bG ..).trans (congrArg (·++_) (Bx.bG ..))).symm
theorem Gz{S:ay}(o:S.Ok){n:Nat}{ts:List Bx}:BJ.tot n (ts.map (Bx.den S))<=Fe n ts:=by induction ts with
 |nil=>exact Nat.le_refl _|cons x r ih=>exact Nat.add_le_add (Nat.add_le_add_right (Bx.len o x) n) ih
theorem Xe{cH:Bx}{ms:List XV}{ts:List Bx}{l:List UInt8}(hs:iu cH=some l)(ha:allB ms=some ts)(hn:Nat.ble (Fe l.length ts) bI=true):b9 W (.bytes cH) (Str.ofString "join") [.list ms] (.bytes (wI cH ts)):=by
 refine λ{A vol s vo d}I R ho=>cb ho λt=>⟨_,λpl E Q q=>BJ.method q,λs' vs k hv=>am hv λv vs h1 hv=>bz hv (bq h1 λa us nn h2 h3 E Q q=>?_)⟩
 obtain⟨l',rfl,l1⟩:=Xd ha h3
 refine call_meets BJ.slot (typeIs_bytes _ _ _) BJ.entry (BJ.args _ _) (BJ.meets (cH.den W.S) t a nn l') ⟨(ι.mp h2).1,?_,λt' tk=>q _ _ (qr (congrArg bu (DB.symm.trans (congrArg (BJ.out _) l1.symm)))) .tok⟩
 rw[l1,cM hs]
 exact Nat.le_trans (Gz W.uN) (Nat.le_trans (ble hn) (by decide))
end
noncomputable def strOf(c:Const):Option Str:=match c with
 |.str x=>some x|_=>none
def tA(e:Expr):Option Str:=e.casesOn (λ_ _ _=>none) (λ_ _ _=>none) (λ_ _ _ _=>none) (λ_ _ _=>none) (λ_ _ _ _=>none) (λ_ _ _ _=>none) (λ_ _ _=>none) (λ_ _ _=>none) (λ_ _ _ _=>none) (λ_ _ _ _=>none) (λ_ _ _ _ _=>none) (λ_ _ _ _=>none) (λ_ _=>none) (λ_ _=>none) (λ_ _=>none) (λ_ _ _ _=>none) (λ_ _ _ _=>none) (λ_ _ _ _=>none) (λ_ _=>none) (λc _ _=>strOf c) (λ_ _ _=>none) (λ_ _ _=>none) (λ_ _=>none) (λ_ _=>none) (λ_ _=>none) (λ_ _ _=>none) (λ_ _ _ _=>none)
noncomputable def rH(f:Expr->Option XV):List (Option Expr)->List Expr->Option (List (Str×XV))
 |[],vs=>bif ak vs then some []else none|k::ks,vs=>(k.bind tA).bind λx=>vs.casesOn none λv vs=>two (f v) (rH f ks vs) λm r=>some ((x,m)::r)
def B'(f:Expr->Option XV)(ks:List (Option Expr))(vs:List Expr):Option XV:=(rH f ks vs).bind λps=>bif cP (ps.map (·.1))&&(Nat.ble ps.length 15&&Nat.ble 1 ps.length)then some (.dict ps)else none
noncomputable def asD(a:XV):Option (List (Str×XV)):=a.casesOn none (λ_=>none) (λ_=>none) (λ_ _=>none) (λ_=>none) (λ_ _=>none) (λ_=>none) (λ_=>none) (λ_=>none) (λ_=>none) (λ_=>none) some (λ_ _=>none) (λ_=>none) (λ_=>none) (λ_=>none) (λ_=>none) (λ_=>none) (λ_=>none) (λ_=>none) (λ_=>none) none
section
variable{W:aE}{A:Around}{vol own:List Addr}{s:Shared}{d:Nat}{env:Env}{cx:Cx}{ρ:au}{sv:Sv}
theorem uj{e:Expr}{x:Str}:tA e=some x->∃k p,e=.Constant (.str x) k p:=by cases e with
 |Constant c k p=>cases c with
  |str y=>exact λh=>θ (P:=λx=>∃k' p',Expr.Constant (.str y) k p=.Constant (.str x) k' p') h ⟨k,p,rfl⟩|_=>exact λh=>ζ h
 |_=>exact λh=>ζ h
noncomputable def jX(env:Env)(pos:Pos):List (Option Expr)->List Expr->List (Sem Value×Sem Value)
 |[],_=>[]|k::ks,vs=>k.casesOn [] λk=>vs.casesOn [] λv vs=>(eval k env,do let x<-eval v env;standAt pos;pure x)::jX env pos ks vs
theorem qg{x:Str}{t:Tok}:(strKind W.prog W.w).is x (.str x t)=true:=beq_self_eq_true x
theorem DC(ok:al W sv)(R:ψ A d){pos:Pos}{ks:List (Option Expr)}:∀{vs:List Expr}{ps:List (Str×XV)}{s:Shared},rH (sv.ev d cx ρ) ks vs=some ps->az W own vol cx ρ env s->((evalEachOpt ks env).zip ((evalEach vs env).map λv=>do let x<-v;standAt pos;pure x)=(jX env pos ks vs).map (λp=>(some p.1,p.2))/\(jX env pos ks vs).length=ps.length)/\∀(E:Value->Shared->Prop)(Q:List (Value×Value)->Shared->Prop),(∀us uS s',Carries (strKind W.prog W.w) us uS->aY W (vis vol s'.heap) ps uS->Step s s'->us.length=ps.length->Q us s')->wpAny (Md W) A (evalPairs (jX env pos ks vs)) Q E s:=by induction ks with
 |nil=>
  refine λ{vs ps s}e X=>ξ e λh e=>?_
  cases e
  exact⟨⟨rfl,rfl⟩,λE Q k=>evalPairs_nil (k [] [] s trivial aL (.refl _) rfl)⟩|cons ke ks ih=>
  refine λ{vs ps s}e X=>O e λx e1 e9=>O e1 λkx e0 e8=>?_
  cases show ke=some kx from e0
  obtain⟨k,p,rfl⟩:=uj e8
  cases vs with
  |nil=>exact ζ e9|cons v vs=>
   refine π e9 λm r e2 e3 e4=>?_
   cases e4
   refine⟨⟨congrArg (_::·) (ih e3 X).1.1,congrArg Nat.succ (ih e3 X).1.2⟩,λE Q k=>evalPairs_cons (wpAny_Constant_str (wpAny_bind (ok.ev e2 (X.step .tok) R E _ λvv s2 h2 k2=>wpAny_bind (wpAny_standAt (wpAny_pure ((ih e3 ((X.step .tok).step k2)).2 E _ λus uS s3 c3 v3 k3 l3=>?_))))))⟩
   exact k _ ((x,vv)::uS) s3 ⟨qg,rfl,c3⟩ (cy (h2.step k3) v3) ((Step.tok.trans k2).trans k3) (congrArg Nat.succ l3)
theorem ez{l:List Str}:cP l=true->l.Nodup:=by induction l with
 |nil=>exact λ_=>List.nodup_nil|cons x r ih=>exact λh=>η h λh1 h2=>List.nodup_cons.mpr ⟨λm=>List.any_eq_false.mp (aP h1) x m (Fast.sEq_iff.mpr rfl),ih h2⟩
theorem rX(uS:List (Str×Value)):∀(bh:List (Str×Value)),((bh++uS).map (·.1)).Nodup->merged bh uS=bh++uS:=by induction uS with
 |nil=>exact λbh _=>(List.append_nil bh).symm|cons p r ih=>
  intro bh h
  have hx:bh.any (λkv=>kv.1=p.1)=false:=List.any_eq_false.mpr λq hq e=>(List.nodup_append.mp (List.map_append▸h)).2.2 q.1 (List.mem_map_of_mem hq) p.1 (.head _) (of_decide_eq_true e)
  have h2:PySem.stored bh p.1 p.2=bh++[p]:=if_neg (hx▸Bool.false_ne_true)
  exact(congrArg (merged · r) h2).trans ((ih (bh++[p]) ((List.append_assoc bh [p] r).symm▸h)).trans (List.append_assoc bh [p] r))
theorem zo(I:Inv W vol s){D:Addr}(h:s.heap.get? D=none):(D==sysModules)=false:=beq_eq_false_iff_ne.mpr λz=>W.sys.elim λo e=>nomatch((congrArg s.heap.get? z).symm.trans h).symm.trans (I.keeps _ _ e)
theorem ac1(ok:al W sv)(R:ψ A d){ks:List (Option Expr)}{vs:List Expr}{pos:Pos}{m:XV}(X:az W own vol cx ρ env s)(e:B' (sv.ev d cx ρ) ks vs=some m):ο W A vol (eval (.Dict ks vs pos) env) m s:=by
 refine O e λps e1 e=>Φ e λc E Q k=>η c λc1 c=>η c λc2 c3=>?_
 have hn:s.heap.get? s.heap.objs.size=none:=aX _
 let s0:Shared:={s with heap:=s.heap.push {cls:=.type "dict",data:=.dict #[]}}
 have k0:Step s s0:=⟨bU _ _,rfl,rfl⟩
 have ho:s0.heap.get? s.heap.objs.size=some {cls:=.type "dict",data:=.dict #[]}:=Heap.get?_push_size _ rfl
 have PO:=DC (pos:=pos) ok R e1 (X.hide k0 hn ho)
 refine wpAny_Dict_pairs (knd:=strKind W.prog W.w) PO.1.1 (λz=>Nat.not_lt.mpr (ble c3) (PO.1.2▸z▸Nat.zero_lt_one)) (PO.1.2▸ble c2) (PO.2 E _ λus uS s1 c1' v1 k1 l1=>⟨uS,c1',(Heap.DictOf.new s.heap).keep k1.keep,λh' hd hs=>?_⟩)
 rw[rX uS [] (show(uS.map (·.1)).Nodup from gw v1▸ez c1)]at hd
 obtain⟨o,h4,h5⟩:=Heap.dictOf_iff.mp hd
 refine k _ _ ⟨_,o,uS,rfl,ι.mpr ⟨h4,X.inv.fresh hn⟩,zo X.inv hn,h5,v1.mono λb o e=>?_⟩ ⟨λb o e=>(hs.2 b λz=>nomatch((congrArg s.heap.get? z).trans hn).symm.trans e).trans (k1.keep b o (k0.keep b o e)),k1.os,k1.gens⟩
 have e:=ι.mp e
 exact ι.mpr ⟨(hs.2 b (λz=>e.2 (z▸.head _))).trans e.1,λm=>e.2 (.tail _ m)⟩
theorem nL{h:Heap}{ds:List (Str×XV)}{v:Value}:ω W h (.dict ds) v↔∃a o τ,v=.ref a/\h.get? a=some o/\(a==sysModules)=false/\o.IsDictOf (strKind W.prog W.w) τ/\aY W h ds τ:=Iff.rfl
theorem IN{h:Heap}{a:XV}{v:Value}{y}(e:asD a=some y)(x:ω W h a v):ω W h (.dict y) v/\a=.dict y:=by cases a with
 |dict j=>exact θ (P:=λy=>ω W h (.dict y) v/\XV.dict j=.dict y) e ⟨x,rfl⟩|_=>exact ζ e
theorem n7{h:Heap}{x:Str}{ds:List (Str×XV)}:∀{τ:List (Str×Value)},aY W h ds τ->qw W h (lk ds x) (valueAt τ x):=by induction ds with
 |nil=>exact λF=>(show _=[]from F)▸rfl|cons p q ih=>
  intro τ F
  obtain⟨v,es,rfl,f1,f2⟩:=F
  show qw W h (bif Fast.sEq p.1 x then some p.2 else lk q x) (Option.map Prod.snd (match decide (p.1=x)with|true=>some (p.1,v)|false=>es.find? λkv=>kv.1=x))
  cases hs:Fast.sEq p.1 x with
  |true=>exact(decide_eq_true (Fast.sEq_iff.mp hs):decide (p.1=x)=true).symm▸⟨v,rfl,f1⟩|false=>exact(decide_eq_false (λz=>Bool.noConfusion (hs.symm.trans (Fast.sEq_iff.mpr z))):decide (p.1=x)=false).symm▸ih f2
theorem n8{x:Tx}{l:List Nat}(h:aF x=some l){v:Value}{hh:Heap}(hv:ω W hh (.str x) v):(strKind W.prog W.w).is (aD l) v=true:=cm hv λt=>aJ (S:=W.S) h▸qg
theorem rY{ds:List (Str×XV)}{x:Tx}{l:List Nat}{m:XV}(h:aF x=some l)(e:lk ds (aD l)=some m){vo vi:Value}(ho:ω W (vis vol s.heap) (.dict ds) vo)(hi:ω W (vis vol s.heap) (.str x) vi):ο W A vol (getItem vo vi) m s:=λE Q k=>by
 obtain⟨a,o,τ,rfl,h1,h2,h3,h4⟩:=ho
 obtain⟨v,v1,v2⟩:=a8 (C:=λo=>qw W (vis vol s.heap) o (valueAt τ (aD l))) e.symm (n7 h4)
 exact wpAny_getItem_of (n8 h hi) (Heap.dictOf_iff.mpr ⟨o,(ι.mp h1).1,h3⟩:s.heap.DictOf (strKind W.prog W.w) a τ).mapOf v1 (k _ _ v2 .tok)
theorem aeW{ds:List (Str×XV)}{x:Tx}{l:List Nat}{dm:XV}(h:aF x=some l):b9 W (.dict ds) (Str.ofString "get") [.str x,dm] ((lk ds (aD l)).getD dm):=by
 intro A vol s vo d I R ho
 obtain⟨a,o,τ,rfl,h1,h2,h3,h4⟩:=ho
 have hd:s.heap.DictOf (strKind W.prog W.w) a τ:=Heap.dictOf_iff.mpr ⟨o,(ι.mp h1).1,h3⟩
 refine⟨_,λpl E Q q=>getMethod_builtin hd.typeIs PySem.F.plainAttrs_dict PySem.F.slot_dict_get PySem.F.type_dict_get hd.mapOf.noDict q,λs' vs k hv=>am hv λv vs v1 hv=>am hv λv' vs v2 hv=>bz hv λE Q q=>?_⟩
 have hd':=hd.keep k.keep
 refine call_meetsIn PySem.F.slot_dict_get hd'.typeIs PySem.F.entry_dict_get (PySem.F.args_dict_get_3 _ _ _) (meets_dict_get_default (strKind W.prog W.w) a (n8 h v1) h2 v') ⟨_,hd'.mapOf,q _ _ ?_ .tok⟩
 have h4':=n7 (x:=aD l) (h4.step k)
 cases e:lk ds (aD l)with
 |none=>exact a8 (C:=λo:Option Value=>ω W (vis vol s'.heap) dm (o.getD v')) (show valueAt τ (aD l)=none from a8 (C:=λo=>qw W (vis vol s'.heap) o (valueAt τ (aD l))) e.symm h4') v2|some m=>
  obtain⟨u,u1,u2⟩:=a8 (C:=λo=>qw W (vis vol s'.heap) o (valueAt τ (aD l))) e.symm h4'
  exact a8 (C:=λo:Option Value=>ω W (vis vol s'.heap) m (o.getD v')) u1 u2
end
noncomputable def A8:List XV->Option (List Nat)
 |[]=>some []|m::r=>two (mB m) (A8 r) λn q=>bif Nat.blt n 256 then some (n::q)else none
def xz(o:XV):Option XV:=((qN o).bind A8).bind λns=>bif Nat.ble ns.length 1000 then some (.bytes [.lit (ns.map UInt8.ofNat)])else none
def IP(o:XV):Option XV:=(Aa o).map λb=>.int (bif b then 1 else 0)
def Ca(o:XV):Option XV:=(gN o).map λp=>.addr p.1
section
variable{W:aE}{A:Around}{vol own:List Addr}{s:Shared}{d:Nat}{env:Env}{cx:Cx}{ρ:au}{sv:Sv}
theorem DE{h:Heap}{l:List XV}:∀{ns:List Nat}{vs:List Value},A8 l=some ns->Ξ W h l vs->IntsAre vs (ns.map Int.ofNat)/\∀n∈ns,n<256:=by induction l with
 |nil=>exact λe V=>bz V (Option.some.inj e▸⟨.nil,λn m=>nomatch m⟩)|cons x r ih=>
  refine λ{ns vs}e V=>π e λn q e1 e2 e=>ξ e λc e=>am V λv vs h1 h2=>?_
  cases e
  exact dL (P:=λv=>IntsAre (v::vs) ((n::q).map Int.ofNat)/\∀i∈n::q,i<256) e1 h1 λt=>⟨.cons _ t (ih e2 h2).1,λm hm=>(List.mem_cons.mp hm).elim (λz=>z▸(iff_of_eq Nat.blt_eq).mp c) ((ih e2 h2).2 m)⟩
theorem wc{o m:XV}{vo:Value}(e:xz o=some m)(I:Inv W vol s)(R:ψ A d)(ho:ω W (vis vol s.heap) o vo):ο W A vol (call (.type "bytes") [vo] []) m s:=by
 refine O e λns e0 e=>O e0 λl e1 e0=>bq (cX e1 ho) λa vs n h1 h2=>Φ e λc E Q k=>?_
 obtain⟨q1,q2⟩:=DE e0 h2
 refine call_bytes_ints (aN (ι.mp h1).1) q1 (λn hn=>?_) (Nat.le_trans (Nat.le_of_eq (q1.length.trans (List.length_map ..))) (Nat.le_trans (ble c) (sizeLine_eq▸by decide))) R.handled λh' t tk hk=>k _ _ (qr ((congrArg bu (List.append_nil _)).trans (congrArg bu (List.map_map (g:=λn:Int=>n.toNat.toUInt8) (f:=Int.ofNat) (l:=ns)).symm))) ⟨hk,rfl,rfl⟩
 obtain⟨x,hx,rfl⟩:=List.mem_map.mp hn
 exact⟨Int.natCast_nonneg x,Int.ofNat_lt.mpr (q2 x hx)⟩
theorem zp{o m:XV}{vo:Value}(e:Ca o=some m)(I:Inv W vol s)(ho:ω W (vis vol s.heap) o vo):ο W A vol (call (.type "type") [vo] []) m s:=χ (P:=λm=>ο W A vol (call (.type "type") [vo] []) m s) e λp e=>nh (e_ e ho).1 λa dx od τ IA D F V E Q k=>kto_own IA (k _ _ rfl (.refl _))
theorem DF{o m:XV}{vo:Value}(e:IP o=some m)(I:Inv W vol s)(ho:ω W (vis vol s.heap) o vo):ο W A vol (call (.type "int") [vo] []) m s:=χ (P:=λm=>ο W A vol (call (.type "int") [vo] []) m s) e λb e=>pI e ho▸by cases b with
 |true=>exact λE Q k=>call_int_bool (k _ _ lC .tok)|false=>exact λE Q k=>call_int_bool (k _ _ lC .tok)
end
def IQ(cs:List Nat):Ls:=⟨cr 122 cs,cr 111 cs,cr 110 cs,cr 100 cs,cr 117 cs⟩
def aaG(cs:List Nat):Option Ls:=bif cs.isPerm (cn (IQ cs))then some (IQ cs)else none
def eQ(a:XV):Option Ls:=(asP a).or (((dK a).bind aF).bind aaG)
def lsL(l:Ls):List XV:=(cn l).map λc=>.str [.lit [c]]
section
variable{W:aE}{A:Around}{vol own:List Addr}{s:Shared}{d:Nat}{env:Env}{cx:Cx}{ρ:au}{sv:Sv}
theorem GA{cs:List Nat}{l:Ls}(e:aaG cs=some l):cs.Perm (cn l):=Φ (P:=λl=>cs.Perm (cn l)) e λc=>List.isPerm_iff.mp c
theorem gi{h:Heap}{o:XV}{l:Ls}{v:Value}(e:eQ o=some l)(ho:ω W h o v):∃y t,v=.str y t/\iQ y l:=af e (λe=>Iv e ho λy t p=>⟨y,t,rfl,p⟩) λe=>O e λcs e1 e2=>lD (P:=λv=>∃y t,v=.str y t/\iQ y l) e1 ho λt=>⟨aD cs,t,rfl,GA e2⟩
theorem qh{a b:List Nat}(h:(!Spec.ltCps b a)=true):a<=b:=List.not_lt.mp (decide_eq_false_iff_not.mp ((ltCps_eq b a).symm.trans (aP h)))
theorem wd{l:List Str}:sortedS l=true->l.Pairwise λa b=>a.cps.toList<=b.cps.toList:=by induction l with
 |nil=>exact λ_=>.nil|cons x r ih=>cases r with
  |nil=>exact λ_=>List.pairwise_singleton _ _|cons y r=>exact λh=>η (show(!Spec.ltCps y.cps.toList x.cps.toList&&risingS y r)=true from h) λh1 h2=>List.pairwise_cons.mpr ⟨λz m=>(List.mem_cons.mp m).elim (λe=>e▸qh h1) λm=>List.le_trans (qh h1) ((List.pairwise_cons.mp (ih h2)).1 z m),ih h2⟩
noncomputable def uy(c:Nat):Str:=⟨#[c]⟩
theorem tC(l:Ls):(((cn l).map uy).Pairwise λa b=>a.cps.toList<=b.cps.toList)/\(cn l).length<=5:=(by decide+kernel:∀z o n d u:Bool,(((cn ⟨z,o,n,d,u⟩).map uy).Pairwise λa b=>a.cps.toList<=b.cps.toList)/\(cn ⟨z,o,n,d,u⟩).length<=5) l.z l.o l.n l.d l.u
theorem kW{y:Str}{l:Ls}(p:iQ y l):y.cps.size<=5:=Nat.le_trans (Nat.le_of_eq (Array.length_toList.symm.trans p.length_eq)) (tC l).2
theorem zq{y:Str}{l:Ls}(p:iQ y l){ss:List Str}(hp:ss.Perm (y.cps.toList.map uy))(hs:sortedS ss=true):ss=(cn l).map uy:=List.Perm.eq_of_pairwise (le:=λa b:Str=>a.cps.toList<=b.cps.toList) (λa b _ _ h1 h2=>congrArg Str.mk (Array.toList_inj.mp (List.le_antisymm h1 h2))) (wd hs) (tC l).1 (hp.trans (p.map _))
theorem signs{vs:List Value}:∀{cs:List Nat},vs.length=cs.length->(∀(i:Nat)(v:Value),vs[i]?=some v->∃c u,cs[i]?=some c/\v=Value.str ⟨#[c]⟩ u)->StrsAre vs (cs.map uy):=by induction vs with
 |nil=>
  intro cs hl
  cases cs with
  |nil=>exact λ_=>.nil|cons _ _=>exact nomatch hl
 |cons v vs ih=>
  intro cs hl
  cases cs with
  |nil=>exact nomatch hl|cons c cs=>exact λhh=>(hh 0 v rfl).elim λc'=>Exists.rec λu e=>Option.some.inj e.1▸e.2▸.cons _ u (ih (Nat.succ.inj hl) λi w hw=>hh (i+1) w hw)
theorem we{y:Str}{bh:Array Value}(h:ItemsOf (SignAt y) bh y.cps.size):StrsAre bh.toList (y.cps.toList.map uy):=signs (Array.length_toList.trans (h.1.trans Array.length_toList.symm)) λi v hv=>(h.2 i v (Array.getElem?_toList.symm.trans hv)).imp λc=>Exists.imp λu e=>⟨Array.getElem?_toList.trans e.1,e.2⟩
theorem uk{h:Heap}{cs:List Nat}:∀{vs:List Value},StrsAre vs (cs.map uy)->Ξ W h (cs.map λc=>XV.str [.lit [c]]) vs:=by induction cs with
 |nil=>
  intro vs x
  cases x
  exact aC|cons c cs ih=>
  intro vs x
  cases x with|cons _ t r=>exact Δ (xg.mpr ⟨t,rfl⟩) (ih r)
theorem ul(h:Heap)(o:Obj)(vs:List Value)(out:Array Value):h.StaysIn (sortedHeap (h.push o) h.objs.size vs out):=λb ob eb=>(sortedHeap_old (Nat.ne_of_lt (Heap.lt_size eb)) (size_push' h o▸Nat.lt_succ_of_lt (Heap.lt_size eb))).trans (Heap.get?_push_of_some _ eb)
theorem wf{o:XV}{l:Ls}{vo:Value}(e:eQ o=some l)(I:Inv W vol s)(R:ψ A d)(ho:ω W (vis vol s.heap) o vo):ο W A vol (call (.builtin "sorted") [vo] []) (.list (lsL l)) s:=by
 obtain⟨y,t,rfl,p⟩:=gi e ho
 refine λE Q k=>Calls.call_function_entry kind_sorted plain_sorted entry_sorted (args_sorted1 _) ?_
 unfold Builtin.«sorted»
 have five:∀{n:Nat},n=y.cps.size->∀{m:Nat},5<=m->n<=m:=λe _ h=>Nat.le_trans (e▸kW p) h
 refine wpAny_bind (m:=checkCount "sorted" 1 1 _) (wpAny_pure (wpAny_bind (wpAny_collect_str (show A.in1.handled=none from R.handled) y t (λs1 bh hk hg hd ho1 hi=>?_) (five rfl (sizeLine_eq▸by decide)))))
 have len:bh.toList.length=y.cps.size:=Array.length_toList.trans hi.1
 have hS:=we hi
 refine wpAny_bind (wpAny_newList (hsz:=five len (sizeLine_eq▸ble rfl)) ?_)
 have hoL:(s1.heap.push (seqObj "list" bh.toList.toArray 0)).get? s1.heap.objs.size=some (seqObj "list" bh.toList.toArray 0):=Heap.get?_push_size _ rfl
 refine wpAny_bind (wpAny_holding (wpAny_call_entry slot_list_sort ⟨_,hoL,rfl⟩ entry_list_sort (list_sort_treeK strKind_oneLt hoL hS.keysOf (λaiB aiC rest e=>keyKind_strs (e▸hS)) (Nat.lt_of_le_of_lt (five len (Nat.le_refl 5)) (by decide)) λRd a1 a2=>⟨_,rfl,?_⟩) (args_list_sort _)))
 obtain⟨ss',q1,q2,q3⟩:=sorted_out_str hS a1 a2
 cases zq p q2 q3
 generalize(arrOf Rd).map (·.2)=out at q1
 obtain⟨ee,he⟩:=sortedHeap_at (h:=s1.heap.push (seqObj "list" bh.toList.toArray 0)) (vs:=bh.toList) (out:=out) hoL
 have keep:=Ψ hk (ul s1.heap (seqObj "list" bh.toList.toArray 0) bh.toList out)
 exact wpAny_pure ⟨_,rfl,k _ _ (sT.mpr ⟨s1.heap.objs.size,out.toList,ee,rfl,ι.mpr ⟨he,(I.step ⟨hk,ho1,hg⟩).fresh (aX _)⟩,uk q1⟩) ⟨keep,ho1,hg⟩⟩
end
noncomputable def pO(a b:Ls):Bool:=!((b.z&&a.z)||(b.o&&a.o)||(b.n&&a.n)||(b.d&&a.d)||(b.u&&a.u))
noncomputable def iN(c:Bool)(a b:Ls):Ls:=⟨bif b.z then c else a.z,bif b.o then c else a.o,bif b.n then c else a.n,bif b.d then c else a.d,bif b.u then c else a.u⟩
def nr(x y:XV):Option XV:=two (eQ x) (eQ y) λa b=>bif pO a b then some (.dD (iN true a b))else none
def Ff(x:XV):Bool:=(asP x).elim false λ_=>true
noncomputable def wJ(op:Operator):Bool:=Nat.beq op.ctorIdx 0
theorem nM{op:Operator}:wJ op=true->op=.Add:=by cases op<;>first|exact λ_=>rfl|exact υ
def IR(R:List ((Nat×Nat×Nat)×Int))(op:Operator)(a b:XV):Option XV:=(bif wJ op then(two (qN a) (qN b) λx y=>bif Nat.ble (x.length+y.length) 1000 then some (.list (x++y))else none).or (bif Ff a||Ff b then nr a b else none)else none).or (aaf R op a b)
def A9(R:List ((Nat×Nat×Nat)×Int))(op:Operator)(a b:XV):Option XV:=(bif wJ op&&(Ff a||Ff b)then nr a b else none).or (aau R op a b)
def ac2(st:Stmt):Option (Str×Expr):=st.casesOn (λ_ _ _ _ _ _ _ _ _ _=>none) (λ_ _ _ _ _ _ _ _ _ _=>none) (λ_ _ _ _ _ _ _ _ _ _ _=>none) (λ_ _=>none) (λ_ _=>none) (λ_ _ _=>none) (λ_ _ _ _ _ _ _=>none) (λt op e _=>bif wJ op then(bA t).map λx=>(x,e)else none) (λ_ _ _ _ _=>none) (λ_ _ _ _ _=>none) (λ_ _ _ _ _=>none) (λ_ _ _ _=>none) (λ_ _ _ _=>none) (λ_ _ _=>none) (λ_ _ _=>none) (λ_ _ _=>none) (λ_ _ _=>none) (λ_ _ _ _ _=>none) (λ_ _ _ _ _=>none) (λ_ _ _=>none) (λ_ _=>none) (λ_ _ _ _=>none) (λ_ _=>none) (λ_ _=>none) (λ_ _=>none) (λ_=>none) (λ_=>none) (λ_=>none)
def IS(b:List Stmt):Option (Str×Expr):=b.casesOn none λst r=>bif ak r then ac2 st else none
theorem DG{b:List Stmt}{q:Str×Expr}(e:IS b=some q):∃p p2,b=[.AugAssign (.Name q.1 p) .Add q.2 p2]:=by cases b with
 |nil=>exact ζ e|cons st r=>
  refine ξ e λc e=>?_
  cases nil_of c
  cases st with
  |AugAssign t op x p=>exact ξ e λc e=>χ (P:=λq:Str×Expr=>∃p' p2,[Stmt.AugAssign t op x p]=[.AugAssign (.Name q.1 p') .Add q.2 p2]) e λy h=>(cz h).elim λp' z=>⟨p',p,z▸nM c▸rfl⟩|_=>exact ζ e
section
variable{W:aE}{A:Around}{vol own:List Addr}{s:Shared}{d:Nat}{env:Env}{cx:Cx}{ρ:au}{sv:Sv}
theorem Cb(a b:Ls):pO a b=true->((cn (iN true a b)).isPerm (cn a++cn b)=true)/\iN false a b=a:=(by decide+kernel:∀z o n d u z' o' n' d' u':Bool,pO ⟨z,o,n,d,u⟩ ⟨z',o',n',d',u'⟩=true->((cn (iN true ⟨z,o,n,d,u⟩ ⟨z',o',n',d',u'⟩)).isPerm (cn ⟨z,o,n,d,u⟩++cn ⟨z',o',n',d',u'⟩)=true)/\iN false ⟨z,o,n,d,u⟩ ⟨z',o',n',d',u'⟩=⟨z,o,n,d,u⟩) a.z a.o a.n a.d a.u b.z b.o b.n b.d b.u
theorem um{y z:Str}{a b:Ls}(p:iQ y a)(q:iQ z b)(h:pO a b=true):iQ (y++z) (iN true a b):=(List.Perm.of_eq (Array.toList_append (xs:=y.cps) (ys:=z.cps))).trans ((p.append q).trans (List.isPerm_iff.mp (Cb a b h).1).symm)
theorem nN{x y m:XV}{va vb:Value}{h:Heap}(e:nr x y=some m)(ha:ω W h x va)(hb:ω W h y vb):ο W A vol (binaryOp .Add va vb) m s/\ο W A vol (inplaceOp .Add va vb) m s:=by
 refine π e λa b q1 q2 e=>Φ e λc=>?_
 obtain⟨y1,t,rfl,p1⟩:=gi q1 ha
 obtain⟨y2,u,rfl,p2⟩:=gi q2 hb
 have v:∀t' h,ω W h (.dD (iN true a b)) (.str (y1++y2) t'):=λt' h=>⟨_,t',rfl,um p1 p2 c⟩
 have l:y1.length+y2.length<=sizeLine:=Nat.le_trans (Nat.add_le_add (kW p1) (kW p2)) (sizeLine_eq▸by decide)
 exact⟨λE Q k=>PyProof.Rows.add_str (λt' tk=>k _ _ (v _ _) .tok) l,λE Q k=>PyProof.Rows.iadd_str (λt' tk=>k _ _ (v _ _) .tok) l⟩
theorem DH(I:Inv W vol s){op:Operator}{a b m:XV}{va vb:Value}(e:IR W.S.res op a b=some m)(ha:ω W (vis vol s.heap) a va)(hb:ω W (vis vol s.heap) b vb):ο W A vol (binaryOp op va vb) m s:=by
 refine af e (λe=>ξ e λc e=>nM c▸af e (λe=>?_) λe=>ξ e λc e=>(nN e ha hb).1) λe=>F3 e ha hb
 refine π e λx y e1 e2 e=>bq (cX e1 ha) λa1 vs n h1 h2=>bq (cX e2 hb) λa2 ws n2 h3 h4=>Φ e λc E Q k=>?_
 exact PySem.P.add_list (items:=vs.toArray) (items2:=ws.toArray) (ι.mp h1).1 (ι.mp h3).1 (k _ _ (sT.mpr ⟨_,vs++ws,0,rfl,(congrArg (λl=>(vis vol (s.heap.push (seqObj "list" l 0))).get? s.heap.objs.size) (List.append_toArray vs ws)).trans (dA I (o:=aI (vs++ws) 0) rfl),(el h2 h4).mono (ba (bU _ _))⟩) (Step.push s _)) (Nat.le_trans (Nat.le_of_eq (congr (congrArg HAdd.hAdd h2.len) h4.len)) (Nat.le_trans (ble c) (sizeLine_eq▸by decide)))
theorem DI{op:Operator}{a b m:XV}{va vb:Value}{h:Heap}(e:A9 W.S.res op a b=some m)(ha:ω W h a va)(hb:ω W h b vb):ο W A vol (inplaceOp op va vb) m s:=af e (λe=>ξ e λc e=>η c λc _=>nM c▸(nN e ha hb).2) λe=>Gh e ha hb
theorem ac3(ok:al W sv)(R:ψ A d){e:Expr}{x:Str}{op:Operator}{p pos:Pos}{o v m:XV}(X:az W own vol cx ρ env s)(h0:lk cx.names x=some .local)(e0:lk ρ x=some o)(e1:sv.ev d cx ρ e=some v)(e2:A9 W.S.res op o v=some m):Runs W A own vol cx env (exec (.AugAssign (.Name x p) op e pos) env) (.next ((x,m)::ρ)) s:=aav ok R X h0 e0 e1 (DI e2)
theorem Xf(ok:al W sv)(R:ψ A d){t e:Expr}{x:Str}{p p2 pos:Pos}{o v:XV}{a b:Ls}{c:Bool}(X:az W own vol cx ρ env s)(h0:lk cx.names x=some .local)(e0:lk ρ x=some o)(e1:sv.ev d cx ρ e=some v)(ha:eQ o=some a)(hb:eQ v=some b)(ho:pO a b=true)(e2:sv.tr d cx ρ t=some c):Runs W A own vol cx env (exec (.If t [.AugAssign (.Name x p) .Add e p2] [] pos) env) (.next ((x,.dD (iN c a b))::ρ)) s:=λE Q k=>by
 refine(exec_If ..).symm▸wpAny_bind (wpAny_standAt (wpAny_bind (ok.tr e2 X R E _ λs1 k1=>?_)))
 cases c with
 |true=>
  have e3:nr o v=some (.dD (iN true a b)):=by rw[nr,ha,hb];exact congrArg (λc=>bif c then some _ else none) ho
  exact iK (aav ok R (X.step k1) h0 e0 e1 λha hb=>(nN e3 ha hb).2) (λ_=>RE) E Q λf s' a b=>k f s' a ((ae.of k1).trans b)|false=>exact wpAny_execs_nil (env:=env) (k _ _ ⟨rfl,(X.step k1).re e0 λhv=>(Cb a b ho).2.symm▸gi ha hv⟩ (.of k1))
theorem GB(ok:al W sv)(R:ψ A d){t:Expr}{body:List Stmt}{pos:Pos}(X:az W own vol cx ρ env s)(e:sv.tr d cx ρ t=some false):Runs W A own vol cx env (exec (.While t body [] pos) env) (.next ρ) s:=λE Q k=>wpAny_While (codeAny_whileLoop (λ_ s'=>s'=s) (λn s' hs=>by subst hs;exact ok.tr e X R _ _ λs1 k1=>wpAny_execs_nil (k _ _ ⟨rfl,X.step k1⟩ (.of k1))) 0 rfl)
end
noncomputable def Fg:List XV->Option (Nat×List Nat)
 |[]=>some (0,[])|x::r=>two (gZ x) (Fg r) λp q=>some (p.1+q.1,p.2++q.2)
noncomputable def A_(p:Nat×List Nat):XV:=p.2.casesOn (.int (.ofNat p.1)) λa l=>.dj p.1 (a::l)
abbrev IsT:=List (Nat×List (Nat×Bool))
def aaH(T:IsT)(C D:Nat):Option Bool:=(iL T C).bind λl=>iL l D
structure wK(W:aE)(C:Addr):Prop where
 g:plainGet W.K C "__class__"=true
 d:hasDictIn W.K C=true
 a:findIn W.K (.ref C) "__class__"=some (some (.builtin "object.__class__"))n:specialIn W.K (.builtin "object.__class__") "__get__"=some (some (.builtin "getset_descriptor.__get__"))t:takesIn W.K (.builtin "object.__class__")=some true
 m:mroIn W.K C (.type "object")=some true
structure RJ(W:aE)(T:IsT)(iS wrap:Addr):Prop where
 cls:∀C l,iL T C=some l->wK W C/\kitOne W.K (.ref C) (.type "str")=some false
 one:∀C D b,aaH T C D=some b->kitOne W.K (.ref C) (.ref D)=some b
 vr:∀C wr,W.jD C=some wr->wK W C/\kitOne W.K (.ref C) (.ref iS)=some true
 Xg:∀C wr,W.jD C=some wr->kitOne W.K (.ref C) (.ref wrap)=some wr
 ac4:∀D l,iL T D=some l->kitOne W.K (.type "str") (.ref D)=some false
def vw(c:XV):Bool:=(Aj c).elim false λk=>Nat.beq k.ctorIdx 0
def xA(T:IsT)(iS wrap:Nat)(o c:XV):Option Bool:=((gN o).bind λp=>bif vw c then(iL T p.1).map λ_=>false else(gb c).bind λD=>aaH T p.1 D).or ((two (kl o) (gb c) λβ D=>bif Nat.beq D iS then some true else bif Nat.beq D wrap then some β.wr else none).or ((dK o).bind λ_=>bif vw c then some true else(gb c).bind λD=>(iL T D).map λ_=>false))
section
variable{W:aE}{A:Around}{vol own:List Addr}{s:Shared}{d:Nat}{env:Env}{cx:Cx}{ρ:au}{sv:Sv}
theorem qi{h:Heap}{c:XV}{v:Value}(e:vw c=true)(x:ω W h c v):v=.type "str":=by cases c with
 |ty k=>cases k<;>first|exact x|exact υ e
 |_=>exact υ e
theorem GC{h:Heap}{l:List XV}:∀{p:Nat×List Nat}{vs:List Value},Fg l=some p->Ξ W h l vs->∃ns:List Int,IntsAre vs ns/\ns.sum=((p.1+aj W.S p.2:Nat):Int):=by induction l with
 |nil=>exact λ{p vs}e V=>bz V (θ (P:=λp:Nat×List Nat=>∃ns:List Int,IntsAre [] ns/\ns.sum=((p.1+aj W.S p.2:Nat):Int)) e ⟨[],.nil,rfl⟩)|cons x r ih=>
  refine λ{p vs}e V=>π e λa q e1 e2 e=>am V λv vs h1 h2=>?_
  cases e
  exact gf (P:=λv=>∃ns:List Int,IntsAre (v::vs) ns/\ns.sum=((a.1+q.1+aj W.S (a.2++q.2):Nat):Int)) e1 h1 λt=>(ih e2 h2).imp' (_::·) λns y=>⟨.cons _ t y.1,List.sum_cons.trans ((congrArg (_+·) y.2).trans ((Int.natCast_add ..).symm.trans (congrArg Nat.cast ((Nat.add_add_add_comm ..).trans (congrArg (a.1+q.1+·) (lS ..).symm)))))⟩
theorem DJ{h:Heap}{p:Nat×List Nat}{t:Tok}:ω W h (A_ p) (.int ((p.1+aj W.S p.2:Nat):Int) t):=by
 obtain⟨n,l⟩:=p
 cases l with
 |nil=>exact⟨t,rfl⟩|cons _ _=>exact⟨t,rfl⟩
theorem GD{l:List XV}{p:Nat×List Nat}{vo:Value}(e:Fg l=some p)(I:Inv W vol s)(R:ψ A d)(ho:ω W (vis vol s.heap) (.list l) vo):ο W A vol (call (.builtin "sum") [vo] []) (A_ p) s:=by
 refine bq ho λa vs n h1 h2 E Q k=>?_
 obtain⟨ns,hi,hs⟩:=GC e h2
 obtain⟨xs,hx⟩:=hi.allInts.items
 have hn:numsOf vs.toArray.toList=ns:=hi.numsOf
 have hl:s.heap.IsList a vs.toArray:=aN (ι.mp h1).1
 rw[hx]at hl hn
 refine sum_intListG R.handled hl λh' tk t' hk=>?_
 have e:preSum (numAt xs) xs.size=((p.1+aj W.S p.2:Nat):Int):=(preSum_eq ..).trans ((congrArg List.sum ((List.take_of_length_le (Nat.le_of_eq (List.length_map ..))).trans ((nums_intItems xs).symm.trans hn))).trans hs)
 exact k _ _ (e▸DJ) ⟨hk,rfl,rfl⟩
theorem wg{T:IsT}{iS wrap:Addr}(IO:RJ W T iS wrap){o c:XV}{b:Bool}{vo vc:Value}(e:xA T iS wrap o c=some b)(I:Inv W vol s)(ho:ω W (vis vol s.heap) o vo)(hc:ω W (vis vol s.heap) c vc):ο W A vol (call (.builtin "isinstance") [vo,vc] []) (.bool b) s:=by
  have own:∀{C x:Addr}{ox od:Obj}{b:Bool},wK W C->InstAt s.heap x ox C (some od)->kitOne W.K (.ref C) vc=some b->ο W A vol (call (.builtin "isinstance") [.ref x,vc] []) (.bool b) s:=λc i q E Q k=>kia_one (kitx_own c.g c.d c.a c.n c.t c.m) I.k i q (λz=>nomatch z) λtk=>k _ _ rfl .tok
  have txt:∀{y t}{b:Bool},kitOne W.K (.type "str") vc=some b->ο W A vol (call (.builtin "isinstance") [.str y t,vc] []) (.bool b) s:=λq E Q k=>kia_one kitx_str I.k trivial q (λz=>nomatch z) λtk=>k _ _ rfl .tok
  refine af e (λe=>O e λp e1 e=>nh (e_ e1 ho).1 λa dx od τ IA _ _ _=>a9 e (λcc f=>?_) λ_ f=>O f λD e2 f=>?_) λe=>af e (λe=>π e λβ D e1 e2 e=>rC (ib e1 ho) λa C dx od τ N=>a9 e (λq f=>?_) λ_ f=>Φ f λq=>?_) λe=>O e λy e1 e=>d9 e1 ho λt=>a9 e (λcc f=>?_) λ_ f=>O f λD e2 f=>?_
  · cases qi cc hc
    exact χ (P:=λb=>ο W A vol (call (.builtin "isinstance") [.ref a,.type "str"] []) (.bool b) s) f λl e=>own (IO.cls _ _ e).1 IA (IO.cls _ _ e).2
  · cases fR e2 hc
    exact O f λl q _=>own (IO.cls _ _ q).1 IA (IO.one _ _ _ f)
  · cases fR e2 hc
    cases Nat.eq_of_beq_eq_true q
    exact Option.some.inj f▸own (IO.vr _ _ N.cls).1 N.at_ (IO.vr _ _ N.cls).2
  · cases qi cc hc
    exact Option.some.inj f▸txt (if_pos (by decide))
  · cases fR e2 hc
    exact χ (P:=λb=>ο W A vol (call (.builtin "isinstance") [.str (aD (Tx.den W.S y)) t,.ref D] []) (.bool b) s) f λl e=>txt (IO.ac4 _ _ e)
  · cases fR e2 hc
    cases Nat.eq_of_beq_eq_true q
    exact own (IO.vr _ _ N.cls).1 N.at_ (IO.Xg _ _ N.cls)
end
noncomputable def pev{α:Type}(S:Setting)(t:Sem α):Tok->Option (α×Tok):=t.rec (motive:=λ_=>Tok->Option (α×Tok)) (λa t=>some (a,t)) (λ_ _=>none) (λ_ _=>none) (λ_ _=>none) (λ_ _ ih=>ih ()) (λ_ _ ih=>ih ()) (λ_ _ _ _ _=>none) (λ_ _ _ _ _ _=>none) (λ_ _ _ _=>none) (λ_ _ _ _=>none) (λ_ _ ih=>ih ()) (λ_ _ _ _=>none) (λ_ ih t=>ih t (t+1)) (λ_ ih=>ih S) (λ_ _ _ _ _=>none) (λ_ _ _ _ _=>none) (λ_ _ _ _ _ _ _=>none) (λ_ _ _ _=>none) (λ_ _ _ _=>none) (λ_ _ _ _=>none) (λ_ _ _ _ _ _=>none) (λ_ _ _ _ _ _=>none) (λ_ _ _=>none) (λ_ _ _ _=>none) (λ_ _ _=>none) (λ_ _ _ _ _ _ _=>none)
theorem vx{α:Type}{M:Model}{A:Around}{E:Value->Shared->Prop}{Q:α->Shared->Prop}(t:Sem α):∀{s:Shared}{a:α}{tk:Tok},pev ⟨M.prog,M.w.params⟩ t s.toks=some (a,tk)->Q a {s with toks:=tk}->wpAny M A t Q E s:=by induction t with
 |pure a=>exact λ{s a' tk}e q=>by cases e;exact wpAny_pure q|rule _ k ih=>exact λ{s a tk}e q Γ p uO=>ih () e q Γ p uO|«at»p k ih=>exact λ{s a tk}e q Γ p uO=>ih () (s:=s) e q Γ _ uO|point _ k ih=>exact λ{s a tk}e q Γ p uO=>ih () e q Γ p uO|fresh k ih=>exact λ{s a tk}e q Γ p uO=>ih s.toks (s:={s with toks:=s.toks+1}) e q Γ p uO|ask k ih=>exact λ{s a tk}e q Γ p uO=>ih _ e q Γ p uO|_=>exact λe=>ζ e
noncomputable def sj:Nat->Nat->List UInt8
 |0,_=>[]|k+1,n=>UInt8.ofNat (n%256)::sj k (n/256)
noncomputable def kr:List Nat:=[17,128,144,300,2147483647,2147483648,32]
theorem aq{α:Type}{P:α->Prop}{a:α}{l:List α}(h:P a)(r:∀x∈l,P x):∀x∈a::l,P x:=List.forall_mem_cons.mpr ⟨h,r⟩
theorem Xh(P:Setting)(t u v tk:Tok):∀n∈kr,pev P (Builtin.«int.to_bytes» ⟨[.int (Int.ofNat n) t,.int (Int.ofNat 32) u,.str (aD (Str.ofString "little").cps.toList) v],[]⟩) tk=some (.done (.ret (.bytes (bu (sj 32 n)) tk)),tk+1):=aq (by kernel_rfl) (aq (by kernel_rfl) (aq (by kernel_rfl) (aq (by kernel_rfl) (aq (by kernel_rfl) (aq (by kernel_rfl) (aq (by kernel_rfl) λ_ m=>nomatch m))))))
noncomputable def nu:List UInt8->List UInt8
 |[]=>[]|c::r=>(nu r).casesOn (bif Nat.beq c.toNat 0 then[]else[c]) λa q=>c::a::q
noncomputable def q5(l:List UInt8):List Nat->Option Nat
 |[]=>none|n::r=>bif yc l (sj 32 n)then some n else q5 l r
theorem kX{l:List UInt8}{n:Nat}{r:List Nat}:q5 l r=some n->n∈r/\l=sj 32 n:=by induction r with
 |nil=>exact ζ|cons m r ih=>exact λe=>a9 e (λh e=>Option.some.inj e▸⟨.head _,l8 h⟩) λ_ e=>⟨.tail _ (ih e).1,(ih e).2⟩
theorem dw{c:Nat}{l:List Nat}(h:cr c l=true):c∈l:=of_decide_eq_true ((jI c l).symm.trans h)
namespace RS
theorem slot:Slot "bytes" "rstrip" "bytes.rstrip":=.of (owner:="bytes") (n:="rstrip") (by rw[typeLookup_type,builtinLookup_eq_fast];kernel_rfl) (by decide+kernel) (by decide+kernel) (by decide+kernel) (by first|exact .inl (by decide+kernel)|exact .inr (by decide+kernel)) (by rw[isSubtype_type];kernel_rfl)
theorem rG:typeOf (.builtin "bytes.rstrip")=pure (.type "method_descriptor"):=by show builtinType _=_;rw[builtinType_eq_fast];kernel_rfl
theorem entry:entryFor table "bytes.rstrip"=some Builtin.«bytes.rstrip»:=entryFor_of_fast (by kernel_rfl)
theorem args(a b:Value):argsOk "bytes.rstrip" ⟨[a,b],[]⟩:=by unfold argsOk;kernel_rfl
theorem pv(P:Setting)(t u tk:Tok):∀n∈kr,pev P (Builtin.«bytes.rstrip» ⟨[.bytes (bu (sj 32 n)) t,.bytes (bu [0]) u],[]⟩) tk=some (.done (.ret (.bytes (bu (nu (sj 32 n))) tk)),tk+1):=aq (by kernel_rfl) (aq (by kernel_rfl) (aq (by kernel_rfl) (aq (by kernel_rfl) (aq (by kernel_rfl) (aq (by kernel_rfl) (aq (by kernel_rfl) λ_ m=>nomatch m))))))
theorem method{M:Model}{A:Around}{E:Value->Shared->Prop}{s:Shared}{b:Array UInt8}{t:Tok}{pl:Sem Bool}{Q:Value×List Value->Shared->Prop}(h:Q (.builtin "bytes.rstrip",[.bytes b t]) s):wpAny M A (getMethod (.bytes b t) (Str.ofString "rstrip") pl) Q E s:=by with_reducible exact KBd.method_of (.bytes b t) (typeIs_bytes _ _ _) slot rG KBd.noRef h
end RS
section
variable{W:aE}{A:Around}{vol own:List Addr}{s:Shared}{d:Nat}{env:Env}{cx:Cx}{ρ:au}{sv:Sv}
theorem DK{n:Nat}{y:Tx}{l:List Nat}(hn:cr n kr=true)(hl:aF y=some l)(hy:dk l (Str.ofString "little").cps.toList=true):b9 W (.int (.ofNat n)) (Str.ofString "to_bytes") [.int (.ofNat 32),.str y] (.bytes [.lit (sj 32 n)]):=by
 refine λ{A vol s vo d}I R ho=>i6 ho λt=>⟨_,λpl E Q q=>KTBy.method q,λs' vs k hv=>am hv λv vs v1 hv=>am hv λv' vs v3 hv=>bz hv (i6 v1 λu=>cm v3 λz E Q q=>?_)⟩
 rw[aJ hl,dY hy]
 exact wpAny_call_entry KTBy.slot (typeIs_int _ _ _) KTBy.entry (vx (M:=Md W) _ (Xh ⟨W.prog,W.w.params⟩ t u z s'.toks n (dw hn)) ⟨_,rfl,q _ _ (qr (congrArg bu (List.append_nil _))) .tok⟩) (KTBy.args _ _ _)
theorem GF{x y:Bx}{l l2:List UInt8}{n:Nat}(hx:iu x=some l)(hn:q5 l kr=some n)(hl:iu y=some l2)(hy:yc l2 [0]=true):b9 W (.bytes x) (Str.ofString "rstrip") [.bytes y] (.bytes [.lit (nu l)]):=by
 refine λ{A vol s vo d}I R ho=>cb ho λt=>⟨_,λpl E Q q=>RS.method q,λs' vs k hv=>am hv λv vs v1 hv=>bz hv (cb v1 λu E Q q=>?_)⟩
 rw[cM hx,cM hl,l8 hy,(kX hn).2]
 exact wpAny_call_entry RS.slot (typeIs_bytes _ _ _) RS.entry (vx (M:=Md W) _ (RS.pv ⟨W.prog,W.w.params⟩ t u s'.toks n (kX hn).1) ⟨_,rfl,q _ _ (qr ((congrArg bu (List.append_nil _)).trans (congrArg (λl=>bu (nu l)) (kX hn).2))) .tok⟩) (RS.args _ _)
end
def RK:List (List UInt8):=[[48,50]++oA [52,49] 32,[48,51]++oA [52,52] 32,oA [52,51] 32]
noncomputable def anyB(l:List UInt8):List (List UInt8)->Bool
 |[]=>false|x::r=>yc l x||anyB l r
theorem DL{l:List UInt8}{r:List (List UInt8)}:anyB l r=true->l∈r:=by induction r with
 |nil=>exact υ|cons x r ih=>exact λh=>((iff_of_eq (Bool.or_eq_true ..)).mp h).elim (λh=>l8 h▸.head _) λh=>.tail _ (ih h)
noncomputable def kt(l:List UInt8):List Nat:=l.map (·.toNat)
structure ac5(l:List UInt8):Prop where
 ne:∃c cs,l=c::cs
 run:∀id,Builtin._codecs.runDecoder id Builtin._codecs.utf8Decoder none true (bu l) 0 []=pure ((aD (kt l)).cps,l.length)len:(aD (kt l)).length<=16777216
theorem Xi:∀l∈RK,ac5 l:=aq ⟨⟨_,_,rfl⟩,λid=>by kernel_rfl,by decide+kernel⟩ (aq ⟨⟨_,_,rfl⟩,λid=>by kernel_rfl,by decide+kernel⟩ (aq ⟨⟨_,_,rfl⟩,λid=>by kernel_rfl,by decide+kernel⟩ λ_ m=>nomatch m))
section
variable{W:aE}{A:Around}{vol own:List Addr}{s:Shared}{d:Nat}{env:Env}{cx:Cx}{ρ:au}{sv:Sv}
theorem GG{x:Bx}{l:List UInt8}(hx:iu x=some l)(hm:anyB l RK=true):b9 W (.bytes x) (Str.ofString "decode") [] (.str [.lit (kt l)]):=by
 refine λ{A vol s vo d}I R ho=>cb ho λt=>⟨_,λpl E Q q=>KBd.method q,λs' vs k hv=>bz hv λE Q q=>?_⟩
 obtain⟨⟨c,cs,hl⟩,hd,hsz⟩:=Xi l (DL hm)
 rw[cM hx]
 have hq:∀t' k',Q (.str (aD (kt l)) t') {s' with toks:=k'}:=λt' k'=>q _ _ (jr (congrArg aD (List.append_nil _))) .tok
 generalize aD (kt l)=y at hd hsz hq
 subst hl
 exact KBd.decode hd hsz hq
end
section
open Builtin Builtin.Str
namespace PC
inductive uT(L:Nat):List Nat->List Value->Str->Nat->Prop|nil:uT L [] [] Str.empty 0|lit(c e:Nat)(r0 l r:List Nat)(p:List Value)(x:Str)(N:Nat)(hs:(c::r0).span (·!=37)=(e::l,r))(h2:l.length+1<L)(h3:r.length<=r0.length):uT L r p x N->uT L (c::r0) p (aD (e::l)++x) (l.length+1+N)|int(n:Int)(u:Tok)(r:List Nat)(p:List Value)(x:Str)(N:Nat)(h0:0<=n)(h1:n<10^10):uT L r p x N->uT L (37::100::r) (.int n u::p) (Str.ofString (toString n)++x) (10+N)|str(y:Str)(u:Tok)(r:List Nat)(p:List Value)(x:Str)(N:Nat)(h0:y.length<=1000000):uT L r p x N->uT L (37::115::r) (.str y u::p) (y++x) (1000000+N)
inductive Fh(s:Shared)(L:Nat)(T:Str)(l:List Nat):List Value×Writer×List Nat->Shared->Prop|mk(k:Tok)(p:List Value)(wr:Writer)(r:List Nat)(x y:Str)(N M:Nat)(g:KPc.Good wr x N)(f:uT L r p y M)(hb:N+M<=16777216)(ht:x++y=T)(hl:r.length<=l.length):Fh s L T l (p,wr,r) {s with toks:=k}
inductive sO(s:Shared)(T:Str):List Value×Writer×List Nat->Shared->Prop|mk(k:Tok)(wr:Writer)(r:List Nat)(N:Nat)(g:KPc.Good wr T N)(hN:N<=16777216):sO s T ([],wr,r) {s with toks:=k}
variable{prog:Program}{w:World}{A:Around}{E:Value->Shared->Prop}{s:Shared}{Q:Value->Shared->Prop}
theorem zr{n:Int}(h0:0<=n)(h1:n<10^10):n.natAbs.log2<1920:=if h:n.natAbs=0 then h▸by decide else Nat.lt_trans ((Nat.log2_lt h).mpr (Nat.lt_trans (Int.ofNat_lt.mp (Int.lt_of_le_of_lt (Int.le_of_eq (Int.natAbs_of_nonneg h0)) (Int.lt_of_lt_of_le h1 (by decide)))) (by decide:10^10<2^64))) (by decide)
theorem kY(x y z:Str):x++y++z=x++(y++z):=congrArg Str.mk (Array.append_assoc ..)
theorem GH{c:Percent}{n:Int}{wr:Writer}{x:Str}{N:Nat}(g:KPc.Good wr x N)(h1:c.alt=false)(h2:c.type=100)(h3:c.prec=none)(hn:0<=n)(hm:n<10^10):KPc.Good (wr.add ⟨(percentInt c (decide (n<0)) (Str.ofString (toString ((n.natAbs:Nat):Int))).cps.toList).toArray⟩ none) (x++Str.ofString (toString n)) (N+10):=by
 rw[KPc.int_text c h1 (.inl h2) h3 hn,Int.natAbs_of_nonneg hn]
 exact KPc.good_mono (KPc.good_add (x:=Str.ofString (toString n)) g (KPc.obj_none rfl)) (Nat.add_le_add_left (toString_length_le hn (by decide) hm) _)
theorem uT.nil_of{L:Nat}{r:List Nat}{p:List Value}{x:Str}{N:Nat}(f:uT L r p x N):r=[]->p=[]/\x=Str.empty:=by induction f with
 |nil=>exact λ_=>⟨rfl,rfl⟩|_=>exact λe=>nomatch e
theorem tD{L:Nat}{T:Str}{l:List Nat}{b:List Value×Writer×List Nat}{s':Shared}(h:Fh s L T l b s'):b.2.2=[]->sO s T b s':=h.rec λk p wr r x y N M g f hb ht hl e=>(f.nil_of e).1▸.mk k wr r N (((congrArg (x++·) (f.nil_of e).2).symm.trans ht)▸(Array.append_empty (xs:=x.cps)▸g:KPc.Good wr ⟨x.cps++#[]⟩ N)) (Nat.le_trans (Nat.le_add_right ..) hb)
theorem ac6{M:Model}{F T:Str}{tF:Tok}{body:Nat->List Value×Writer×List Nat->Sem (ForInStep (List Value×Writer×List Nat))}{l0:List Nat}{b0:List Value×Writer×List Nat}(hL0:Fh s F.length T l0 b0 s)(h0:∀x p wr Q s',¬tooLong wr.total=true->Q (.done (p,wr,[])) s'->wpAny M A (body x (p,wr,[])) Q E s')(h1:∀x c e r0 l r p wr Q s',¬tooLong wr.total=true->(c::r0).span (·!=37)=(e::l,r)->Q (.yield (p,wr.add ⟨(e::l).toArray⟩ (if(e::l).length==F.length then some (.str F tF)else none),r)) s'->wpAny M A (body x (p,wr,c::r0)) Q E s')(h2:∀x n u r p wr Q s',¬tooLong wr.total=true->n.natAbs.log2<1920->(∀k,Q (.yield (p,wr.add ⟨(percentInt {type:=100} (decide (n<0)) (Str.ofString (toString ((n.natAbs:Nat):Int))).cps.toList).toArray⟩ (if r.isEmpty then none else none),r)) {s' with toks:=k})->wpAny M A (body x (.int n u::p,wr,37::100::r)) Q E s')(h3:∀x y u r p wr Q s',¬tooLong wr.total=true->Q (.yield (p,wr.add ⟨y.cps.toList.toArray⟩ (if r.isEmpty then some (.str y u)else none),r)) s'->wpAny M A (body x (.str y u::p,wr,37::115::r)) Q E s'):wpAny M A (forIn l0 b0 body) (sO s T) E s:=by
 refine wpAny_forIn_list body (Fh s F.length T) (sO s T) (λx rest b s' hL=>?_) (λb s' hL=>hL.rec (λk p wr r x y N M g f hb ht hl=>tD (.mk k p wr r x y N M g f hb ht hl) (List.eq_nil_of_length_eq_zero (Nat.le_zero.mp hl)))) _ _ hL0
 cases hL with|mk k p wr r z y N M g f hb ht hl=>
  have hN:=KPc.short_good g (Nat.le_trans (Nat.le_add_right ..) hb)
  cases f with
  |nil=>exact h0 _ _ _ _ _ hN (tD (L:=F.length) (.mk k _ wr _ z _ N _ g .nil hb ht hl) rfl)|lit c e r0 l r p x2 N2 hs uR hle f=>exact h1 _ _ _ _ _ _ _ _ _ _ hN hs (.mk k _ _ _ _ _ _ _ (KPc.good_add g (KPc.obj_none (if_neg λz=>Nat.ne_of_lt uR (eq_of_beq z)))) f (Nat.le_trans (Nat.le_of_eq (Nat.add_assoc N _ N2)) hb) ((kY ..).trans ht) (Nat.le_trans hle (Nat.le_of_succ_le_succ hl)))|int n u r p x2 N2 a0 a1 f=>exact h2 _ _ _ _ _ _ _ _ hN (zr a0 a1) λk=>(ite_self (c:=r.isEmpty=true) (none:Option Value)).symm▸.mk k _ _ _ _ _ _ _ (GH g rfl rfl rfl a0 a1) f (Nat.le_trans (Nat.le_of_eq (Nat.add_assoc ..)) hb) ((kY ..).trans ht) (Nat.le_of_succ_le (Nat.le_of_succ_le_succ hl))|str y u r p x2 N2 a0 f=>exact h3 _ _ _ _ _ _ _ _ hN (.mk k _ _ _ _ _ _ _ (KPc.good_mono (KPc.good_add (x:=y) g λv e=>if c:r.isEmpty=true then⟨u,(Option.some.inj ((if_pos c).symm.trans e)).symm⟩else nomatch(if_neg c).symm.trans e) (Nat.add_le_add_left a0 _)) f (Nat.le_trans (Nat.le_of_eq (Nat.add_assoc ..)) hb) ((kY ..).trans ht) (Nat.le_of_succ_le (Nat.le_of_succ_le_succ hl)))
theorem ac7{M:Model}{α β γ ε:Type}{x:Sem α}{y:Sem β}{z:Sem γ}{k:α->β->γ->Sem ε}{a:α}{b:β}{Q:ε->Shared->Prop}(hx:∀Q:α->Shared->Prop,Q a s->wpAny M A x Q E s)(hy:∀Q:β->Shared->Prop,Q b s->wpAny M A y Q E s)(hz:∀Q:γ->Shared->Prop,(∀c,Q c s)->wpAny M A z Q E s)(h:∀c,wpAny M A (k a b c) Q E s):wpAny M A (x>>=λa=>y>>=λb=>z>>=λc=>k a b c) Q E s:=wpAny_bind (hx _ (wpAny_bind (hy _ (wpAny_bind (hz _ h)))))
theorem rI{F:Str}{T:Str}(tF:Tok){args:Value}{tup:Bool}{o:Option Str}{p:List Value}{M:Nat}(hf:uT F.length F.cps.toList p T M)(hM:M<=16777216){Qf:Fin->Shared->Prop}(hq:∀t' k,Qf (.done (.ret (.str T t'))) {s with toks:=k})(hi:∀Q:Bool->Shared->Prop,Q tup s->wpAny (model prog w) A (isInstance args (.type "tuple")) Q E s)(hs:∀Q:Option Str->Shared->Prop,Q o s->wpAny (model prog w) A (asStr? args) Q E s)(hm:∀Q:Bool->Shared->Prop,(∀b,Q b s)->wpAny (model prog w) A (fillsMappingSlot args) Q E s)(hp:(tup=true->∀Q:Option (Array Value)->Shared->Prop,Q (some p.toArray) s->wpAny (model prog w) A (seqItems? args) Q E s)/\(tup=false->p=[args])):wpAny (model prog w) A (percentFormat (.str F tF) F args) Qf E s:=by
  refine ac7 hi hs hm λc=>?_
  suffices hl:wpAny (model prog w) A (forIn [:F.length] (p,({}:Writer),F.cps.toList) _) (sO s T) E s by
    refine wpAny_ite (Iq (λh=>wpAny_bind (hp.1 h _ (wpAny_bind (wpAny_pure ?_)))) λh=>wpAny_bind (wpAny_pure ?_))
    ·exact wpAny_bind (wpAny_mono hl (λb' s' hE=>hE.rec λk wr r N g hN=>wpAny_ite (KPc.ite_no Bool.false_ne_true (KPc.finish_ok g hN rfl hq))) λ_ _ x=>x)
    ·exact wpAny_bind (wpAny_mono (hp.2 (eq_false_of_ne_true h)▸hl) (λb' s' hE=>hE.rec λk wr r N g hN=>wpAny_ite (KPc.ite_no Bool.false_ne_true (KPc.finish_ok g hN rfl hq))) λ_ _ x=>x)
  refine BJ.mK (KPc.range_list ..) (ac6 (tF:=tF) (.mk s.toks p {} F.cps.toList Str.empty T 0 M KPc.good0 hf ((Nat.zero_add M).symm▸hM) (KPc.empty_app T) (Nat.le_of_eq List.length_range'.symm)) (λx p wr Q s' h q=>?_) (λx c e r0 l r p wr Q s' h hs q=>?_) (λx n u r p wr Q s' h a q=>?_) (λx y u r p wr Q s' h q=>?_))
  ·exact wpAny_ite (KPc.ite_no h (wpAny_ite (KPc.ite_yes rfl (wpAny_pure q))))
  ·exact wpAny_ite (KPc.ite_no h (BJ.mK (by rw[hs];kernel_rfl) (wpAny_pure q)))
  · refine wpAny_ite (KPc.ite_no h (BJ.mK (t':=holding [.int n u] _>>=_) rfl (wpAny_bind (wpAny_holding ?_))))
    repeat kpc_if
    refine wpAny_bind (wpAny_of_eq (a:=n) rfl ?_)
    repeat kpc_if
    refine wpAny_bind (wpAny_mkInt (wpAny_bind (call_gives PySem.F.slot_int_repr (typeIs_int _ _ _) PySem.F.entry_int_repr (PySem.F.args_int_repr_1 _) (gives_int_repr _ _ (show((n.natAbs:Nat):Int).natAbs.log2<1920 from a)) ⟨int_text_fits a,?_⟩)))
    exact BJ.mK (t':=pure (percentInt {type:=100} (decide (n<0)) (Str.ofString (toString ((n.natAbs:Nat):Int))).cps.toList,none,true)) (by kernel_rfl) (wpAny_pure (BJ.mK (t':=pure _) rfl (wpAny_pure (q _))))
  ·exact wpAny_ite (KPc.ite_no h (vx (M:=model prog w) _ (by kernel_rfl) q))
end PC
end
def GI(a:XV):Option (Bool×List XV):=((mB a).map λn=>(false,[.int (.ofNat n)])).or (((dK a).map λx=>(false,[.str x])).or ((Ab a).map λl=>(true,l)))
noncomputable def m6(L:Nat):Nat->List Nat->List XV->Option (List Nat×Nat)
 |0,_,_=>none|k+1,r,p=>r.casesOn (bif ak p then some ([],0)else none) λc r0=>bif Nat.beq c 37 then r0.casesOn none λe r2=>p.casesOn none λv p2=>bif Nat.beq e 100 then two ((mB v).bind (iL jW)) (m6 L k r2 p2) λx q=>some (x++q.1,10+q.2)else bif Nat.beq e 115 then two ((dK v).bind aF) (m6 L k r2 p2) λx q=>bif Nat.ble x.length 1000000 then some (x++q.1,1000000+q.2)else none else none else((c::r0).span (·!=37)).1.casesOn none λe l=>bif Nat.blt (l.length+1) L&&Nat.ble ((c::r0).span (·!=37)).2.length r0.length then(m6 L k ((c::r0).span (·!=37)).2 p).map λq=>(e::l++q.1,l.length+1+q.2)else none
def aaI(F:Tx)(a:XV):Option XV:=two (aF F) (GI a) λf p=>(m6 f.length 20 f p.2).bind λq=>bif Nat.ble q.2 16777216 then some (.str [.lit q.1])else none
section
variable{W:aE}{A:Around}{vol own:List Addr}{s:Shared}{d:Nat}{env:Env}{cx:Cx}{ρ:au}{sv:Sv}
theorem nO{h:Heap}{L:Nat}(k:Nat):∀{r:List Nat}{p:List XV}{vs:List Value}{q:List Nat×Nat},m6 L k r p=some q->Ξ W h p vs->PC.uT L r vs (aD q.1) q.2:=by induction k with
|zero=>exact λe=>ζ e|succ k ih=>
    intro r p vs q e V
    cases r with
|nil=>
      refine ξ e λc e=>?_
      cases nil_of c
      cases e
      exact bz V .nil|cons c r0=>
      refine a9 e (λhc e=>?_) λ_ e=>?_
      · cases Nat.eq_of_beq_eq_true hc
        cases r0 with
|nil=>exact ζ e|cons c2 r2=>cases p with
|nil=>exact ζ e|cons v p2=>
            refine am V λu vs V1 V2=>a9 e (λh1 e=>?_) λ_ e=>ξ e λh2 e=>?_
            · cases Nat.eq_of_beq_eq_true h1
              refine π e λx q0 e1 e2 e=>O e1 λn e1 e3=>dL e1 V1 λt=>?_
              cases e
              exact dp x q0.1▸(im e3).1▸.int _ _ _ _ _ _ (Int.natCast_nonneg n) (Int.lt_of_le_of_lt (Int.ofNat_le.mpr (im e3).2) (by decide)) (ih e2 V2)
            · cases Nat.eq_of_beq_eq_true h2
              refine π e λx q0 e1 e2 e=>ξ e λc2 e=>lD (P:=λu=>PC.uT L (37::115::r2) (u::vs) (aD q.1) q.2) e1 V1 λt=>?_
              cases e
              exact dp x q0.1▸.str _ _ _ _ _ _ (ble c2) (ih e2 V2)
      ·cases hs:(c::r0).span (·!=37)with|mk a b=>
        have e:(a.casesOn none λe l=>bif Nat.blt (l.length+1) L&&Nat.ble b.length r0.length then(m6 L k b p).map λq=>(e::l++q.1,l.length+1+q.2)else none:Option (List Nat×Nat))=some q:=a8 (C:=λz:List Nat×List Nat=>(z.1.casesOn none λe l=>bif Nat.blt (l.length+1) L&&Nat.ble z.2.length r0.length then(m6 L k z.2 p).map λq=>(e::l++q.1,l.length+1+q.2)else none:Option (List Nat×Nat))=some q) hs.symm e
        cases a with
|nil=>exact ζ e|cons c2 l=>exact ξ e λhl e=>χ (P:=λq:List Nat×Nat=>PC.uT L (c::r0) vs (aD q.1) q.2) e λq e=>dp (c2::l) q.1▸η hl λh1 h2=>.lit c c2 r0 l b vs _ _ hs ((iff_of_eq Nat.blt_eq).mp h1) (ble h2) (ih e V)
theorem Xj{F:Tx}{a m:XV}{va vb:Value}(e:aaI F a=some m)(ha:ω W (vis vol s.heap) (.str F) va)(hb:ω W (vis vol s.heap) a vb):ο W A vol (binaryOp .Mod va vb) m s:=by
  refine π e λf p e1 e2 e=>O e λq e3 e=>Φ e λhM=>cm ha λt=>?_
  rw[aJ e1]
  refine λE Q k=>?_
  have pA:∀t' k',Value.str (aD q.1) t'≠.notImplemented/\Q (.str (aD q.1) t') {s with toks:=k'}:=λt' k'=>⟨nofun,k _ _ (jr (congrArg aD (List.append_nil _))) .tok⟩
  refine af e2 (λe2=>O (Option.map_eq_bind.symm.trans e2) λn e4 e2=>?_) λe2=>af e2 (λe2=>O (Option.map_eq_bind.symm.trans e2) λx e4 e2=>?_) λe2=>O (Option.map_eq_bind.symm.trans e2) λl e4 e2=>?_
  · cases e2
    refine dL e4 hb λu=>?_
    exact AutoFloatOps.binaryOp_left_meets (T:="str") (U:="int") (op:=.Mod) (by decide) (typeIs_str s _ t) (λs'=>typeIs_int s' _ u) PySem.F.fills_str_mod PySem.F.fills_int_mod PySem.F.sub_int_str PySem.F.slot_str_mod PySem.F.slot_int_rmod PySem.F.entry_str_mod (PySem.F.args_str_mod_2 _ _) (KPc.meets_of (T:=aD q.1) λprog w A' s' Qf E' h=>KPc.entry_is ..▸PC.rI (F:=aD f) (tup:=false) (o:=none) t (nO 20 e3 (Δ (W:=W) (h:=vis vol s.heap) lC aC)) (ble hM) h (λQ h=>wpAny_isInstance (typeIs_int _ _ _) PySem.F.sub_int_tuple h) (λQ h=>wpAny_of_eq (a:=none) rfl h) (λQ h=>wpAny_of_eq (KPc.fills _ _) (h _)) ⟨nofun,λ_=>rfl⟩) pA
  · cases e2
    refine d9 e4 hb λu=>?_
    exact binaryOp_meets (T:="str") (op:=.Mod) (typeIs_str s _ t) (typeIs_str s _ u) PySem.F.fills_str_mod PySem.F.slot_str_mod PySem.F.entry_str_mod (PySem.F.args_str_mod_2 _ _) (KPc.meets_of (T:=aD q.1) λprog w A' s' Qf E' h=>KPc.entry_is_s ..▸PC.rI (F:=aD f) (tup:=false) (o:=some _) t (nO 20 e3 (Δ (W:=W) (h:=vis vol s.heap) (jr rfl) aC)) (ble hM) h (λQ h=>wpAny_isInstance (typeIs_str _ _ _) PySem.F.sub_str_tuple h) (λQ h=>wpAny_of_eq (a:=some _) rfl h) (λQ h=>KPc.wp_fills_str h) ⟨nofun,λ_=>rfl⟩) pA
  · cases e2
    refine cO (lq e4 hb) λa vs h1 h2=>?_
    have eP:=(ι.mp h1).1
    have hT:s.TypeIs (.ref a) "tuple":=⟨_,eP,rfl⟩
    exact KPt.bin_left (T:="str") (U:="tuple") (op:=.Mod) (by decide) (typeIs_str s _ t) hT PySem.F.fills_str_mod KPt.fills_tuple PySem.F.slot_str_mod (wpAny_call_entry PySem.F.slot_str_mod (typeIs_str s _ t) PySem.F.entry_str_mod (KPt.entry_is_r ..▸PC.rI (F:=aD f) (tup:=true) (o:=none) t (nO 20 e3 h2) (ble hM) (λt' k'=>⟨_,rfl,pA t' k'⟩) (λQ h=>wpAny_isInstance hT KPt.sub_tt h) (λQ h=>KPt.asStr_ref eP rfl h) (λQ h=>KPt.fills_ref hT h) ⟨λ_ Q h=>wpAny_seqItems eP rfl h,nofun⟩) (PySem.F.args_str_mod_2 _ _))
end
section
open Builtin Builtin.ObjectAttr Builtin.Getset_descriptor
structure jY(W:aE)(C:Addr)(n:Str):Prop where
 reads:readsIn W.K C (.type "type")=true
 found:findCls W.K (.ref C) (.type "type") "__name__"=some (.get (.builtin "getset_descriptor.__get__") (.builtin "type.__name__") (.ref C) (.type "type"))ty:typeIn W.K (.ref C)=some (.type "type")kept:∃o u,W.K.lookup C=some o/\o.slots[2]?=some (some (.str n u))
theorem GJ(d tp:Value)(C:Addr):descrGetArgs ⟨[d,.ref C,tp],[]⟩=pure (d,some (.ref C),given tp):=by kernel_rfl
section
variable{W:aE}{A:Around}{vol own:List Addr}{s:Shared}{d:Nat}{env:Env}{cx:Cx}{ρ:au}{sv:Sv}
theorem DM{C:Addr}{n:Str}{tp:Value}{R:Result->Shared->Prop}(N:jY W C n)(X:W.K.In s.heap)(h:∀u,R (.ok (.ret (.str n u))) s):codeAny (Md W) A (.call (.builtin "getset_descriptor.__get__") ⟨[.builtin "type.__name__",.ref C,tp],[]⟩) R s:=by
 obtain⟨hh,g,dr,t,os⟩:=s
 obtain⟨o,u,ho,hs⟩:=N.kept
 have L0:Looks (Md W) hh (typeOf (.ref C)) (.type "type"):=looks_typeIn X N.ty
 have L1:Looks (Md W) hh (isSubtype (.type "type") (.type "type")) true:=Looks.of_pure (by rw[isSubtype_type];kernel_rfl)
 have aeX:=X _ _ ho
 refine codeAny_call_builtin KF.slot_gs.plain KF.entry_gs (KF.slot_gs.check _ _ _ _ _ _ _ _ ktyn_type (KF.args_gs _ _ _) ?_)
 unfold Builtin.«getset_descriptor.__get__»descrGet
 rw[GJ]
 refine wpAny_bind (wpAny_pure ?_)
 unfold descrGetter descrCheckInstance descrNameAndClass isInstance
 simp only[ktyn_owner]
 repeat lk
 refine⟨Code.quiet_builtin _ (by decide+kernel),codeAny_builtin ktyn_entry ?_⟩
 unfold Builtin.«type.__name__»
 dsimp only
 unfold keptObject slotAt
 refine wpAny_bind (wpAny_bind (wpAny_loadPart aeX ?_))
 rw[hs]
 exact wpAny_pure (wpAny_pure (h u))
theorem uo{C:Addr}{n:Str}(N:jY W C n)(I:Inv W vol s):ο W A vol (getAttr (.ref C) (Str.ofString "__name__") true) (.str [.lit n.cps.toList]) s:=λE Q k=>by
 refine cls_bind I.k N.reads N.found (wpAny_call (DM N (I.step (s':={s with toks:=s.toks+1}) .tok).k λu=>?_))
 exact handed_on rfl (k _ _ (xg.mpr ⟨u,by simp only[Tx.den,TP.den,List.append_nil];rfl⟩) .tok)
end
namespace HA
theorem kind:builtinKind "hasattr"=none:=by decide+kernel
theorem plain:plainId "hasattr"=true:=by decide+kernel
theorem entry:entryFor table "hasattr"=some Builtin.«hasattr»:=entryFor_of_fast (by kernel_rfl)
theorem args(a b:Value):argsOk "hasattr" ⟨[a,b],[]⟩:=by unfold argsOk;kernel_rfl
noncomputable def nm:Str:=Str.ofString "derive"
section
variable{prog:Program}{w:World}{A:Around}{E:Value->Shared->Prop}{s:Shared}{x:Str}{t u:Tok}
theorem nP:typeLookup (.type "str") nm=pure none:=am_miss_of_fast (by decide+kernel)
theorem Xk{Q:Value->Shared->Prop}(hA:A.handled=none)(h:∀h' tk e,Heap.NewAttrErr s.heap h' e (.str x t) nm->E (.ref e) {s with heap:=h',toks:=tk}):wpAny (model prog w) A (getAttrBy (.str x t) (.str nm u) false) Q E s:=by
 obtain⟨hp,g,d,tk,os⟩:=s
 have hT:∀s':Shared,s'.TypeIs (.str x t) "str":=λ_=>rfl
 have f1:=sub_AttributeError
 have f3:=PySem.F.slot_str_getattribute.lookup
 have f4:=PySem.F.slot_str_getattribute.bind (.str x t)
 have f5:=am_str_getattr_none
 unfold getAttrBy
 repeat(any_goals(first|assumption|((with_reducible show wpAny _ _ (call (Value.builtin "object.__getattribute__") _ _) _ _ _);refine call_meets PySem.F.slot_str_getattribute (hT _) PySem.F.entry_object_getattribute (PySem.F.args_object_getattribute_2 _ _) (meets_getattribute_miss_str x t nm _ nP (by rw[sizeLine_eq];decide)) ⟨hA,λh' Rf e hx=>?_⟩)|wp_step))
 obtain⟨t',u',he⟩:=hx.there
 show wpAny _ _ (getattributeRaised _ _ _ _ _ _ _) _ _ _
 unfold getattributeRaised
 repeat(any_goals(first|assumption|wp_step))
 exact h _ _ _ hx
theorem has_str{Q:Value->Shared->Prop}(hA:A.handled=none)(h:∀s',Step s s'->Q (.bool false) s'):wpAny (model prog w) A (call (.builtin "hasattr") [.str x t,.str nm u]) Q E s:=by
 obtain⟨hp,g,d,tk,os⟩:=s
 have hT:∀s':Shared,s'.TypeIs (.str x t) "str":=λ_=>rfl
 have f1:=sub_AttributeError
 have f2:=nP
 refine Calls.call_function_entry kind plain entry (args _ _) ?_
 unfold Builtin.«hasattr»
 refine wpAny_bind (wpAny_of_eq (a:=[.str x t,.str nm u]) rfl ?_)
 k_delta"attrName"
 refine wpAny_bind (wpAny_pure ?_)
 refine wpAny_ite (KPc.ite_no (λz=>by cases beq_iff_eq.mp z) ?_)
 refine wpAny_bind (wpAny_of_eq (a:=.type "str") rfl ?_)
 refine wpAny_bind (wpAny_of_eq (a:=some nm) rfl ?_)
 refine wpAny_bind (wpAny_of_eq nP ?_)
 k_delta"optionalOnAModule"
 refine wpAny_bind (wpAny_pure ?_)
 refine wpAny_ite (KPc.ite_no (by decide) ?_)
 unfold getAttrBy?
 refine wpAny_bind (wpAny_bind (wpAny_attempt (Xk hA λh' Rf e hx=>?_)))
 obtain⟨t',u',he⟩:=hx.there
 refine wpAny_bind (wpAny_isInstance ⟨_,he,rfl⟩ f1 (wpAny_pure ?_))
 exact wpAny_pure ⟨_,rfl,h _ ⟨λb o e=>hx.keeps b o e,rfl,rfl⟩⟩
theorem Xl{K:Frag}{y C:Addr}{ox:Obj}{od:Option Obj}{cd:ClassData}{Q:Value->Shared->Prop}(X:K.In s.heap)(I:InstAt s.heap y ox C od)(hga:findIn K (.ref C) "__getattribute__"=some (some (.builtin "object.__getattribute__")))(hk:findIn K (.ref C) "__getattr__"=some none)(hcd:clsIn K C=some cd)(hn:cd.name.cps.foldl (λk c=>k+(Str.utf8Of c).length) 0<=100)(hm:(Str.ofString cd.name.toString).length<=1000)(hf:findObj K C od nm=some .missing)(hA:A.handled=none)(h:∀h' tk e,Heap.NewAttrErr s.heap h' e (.ref y) nm->E (.ref e) {s with heap:=h',toks:=tk}):wpAny (model prog w) A (getAttrBy (.ref y) (.str nm u) false) Q E s:=by
 obtain⟨hh,g,d,t,os⟩:=s
 have L0:=I.type (M:=model prog w)
 have L1:=looks_findIn (M:=model prog w) X hga
 have L2:=looks_find (M:=model prog w) X I hf
 have L3:=looks_findIn (M:=model prog w) X hk
 unfold getAttrBy
 refine wpAny_holding (wpAny_bind (L0.at (wpAny_bind (L1.at ?_))))
 show wpAny _ _ (getAttrEveryday _ _ _) _ _ _
 refine wpAny_bind (wpAny_onRaise (wpAny_runValue (codeAny_builtin PySem.F.plainObj_entry_getattr_hooked ?_)))
 refine wpAny_bind (wpAny_pure (wpAny_bind (L0.at (wpAny_bind (L2.at (wpAny_bind (L3.at ?_)))))))
 have La:Looks (model prog w) hh (shownTypeOf (.ref y)) (.ref C):=by
  unfold shownTypeOf
  refine L0.andThen ?_
  rw[if_neg (λz=>by cases beq_iff_eq.mp z)]
  exact .now
 have Lb:Looks (model prog w) hh (typeNameCut 100 (.ref C)) cd.name.toString:=by
  unfold typeNameCut
  refine(looks_clsIn X hcd).andThen ?_
  rw[if_pos hn]
  exact .now
 have L4:Looks (model prog w) hh (typeNameOfCut 100 (.ref y)) cd.name.toString:=La.andThen Lb
 unfold missingOrHook noSuchAttribute
 refine wpAny_bind (L4.at ?_)
 have hsz:(Str.ofString (toString "'"++toString cd.name.toString++toString "' object has no attribute '")++nm++Str.ofString "'").length<=sizeLine:=by
  have e1:nm.length=6:=by decide+kernel
  have e2:(toString "'":String).length=1:=by decide+kernel
  have e3:(toString "' object has no attribute '":String).length=27:=by decide+kernel
  rw[strLen_append,strLen_append,PySem.ofString_length,String.length_append,String.length_append,PySem.ofString_length,e1,e2,e3,sizeLine_eq]
  have e4:(toString cd.name.toString)=cd.name.toString:=rfl
  rw[PySem.ofString_length]at hm
  rw[e4]
  have e5:"'".length=1:=by decide+kernel
  omega
 revert hsz
 generalize(Str.ofString (toString "'"++toString cd.name.toString++toString "' object has no attribute '")++nm++Str.ofString "'")=msg
 intro hsz
 have hA':(A.under (Code.builtin "proto.getattr_hooked" ⟨[.ref y,.str nm u],[]⟩)).handled=none:=hA
 generalize A.under (Code.builtin "proto.getattr_hooked" ⟨[.ref y,.str nm u],[]⟩)=A2 at hA'⊢
 exact wpAny_raiseAttrError hA' (λh' Rf e hx=>wpAny_pure (h _ _ _ hx)) hsz
theorem has_obj{K:Frag}{y C:Addr}{ox:Obj}{od:Option Obj}{cd:ClassData}{Q:Value->Shared->Prop}(X:K.In s.heap)(I:InstAt s.heap y ox C od)(hga:findIn K (.ref C) "__getattribute__"=some (some (.builtin "object.__getattribute__")))(hk:findIn K (.ref C) "__getattr__"=some none)(hcd:clsIn K C=some cd)(hn:cd.name.cps.foldl (λk c=>k+(Str.utf8Of c).length) 0<=100)(hm:(Str.ofString cd.name.toString).length<=1000)(hf:findObj K C od nm=some .missing)(hmo:subIn K (.ref C) (.type "module")=some false)(hA:A.handled=none)(h:∀s',Step s s'->Q (.bool false) s'):wpAny (model prog w) A (call (.builtin "hasattr") [.ref y,.str nm u]) Q E s:=by
 obtain⟨hh,g,d,tk,os⟩:=s
 have f1:=sub_AttributeError
 have L0:=I.type (M:=model prog w)
 have L1:Looks (model prog w) hh (isInstance (.ref y) (.type "module")) false:=L0.andThen (looks_subIn X hmo)
 refine Calls.call_function_entry kind plain entry (args _ _) ?_
 unfold Builtin.«hasattr»
 refine wpAny_bind (wpAny_of_eq (a:=[.ref y,.str nm u]) rfl ?_)
 k_delta"attrName"
 refine wpAny_bind (wpAny_pure ?_)
 refine wpAny_ite (KPc.ite_no (λz=>by cases beq_iff_eq.mp z) ?_)
 refine wpAny_bind (L0.at ?_)
 k_delta"optionalOnAModule"
 refine wpAny_bind (wpAny_bind (wpAny_of_eq (a:=some nm) rfl (wpAny_bind (L1.at ?_))))
 refine wpAny_pure ?_
 refine wpAny_ite (KPc.ite_no (by decide) ?_)
 unfold getAttrBy?
 have key:wpAny (model prog w) A.in1 (getAttrBy (.ref y) (.str nm u) false) (λ_ _=>False) (λe s'=>∃a h' Rf,e=.ref a/\Heap.NewAttrErr hh h' a (.ref y) nm/\s'=⟨h',g,d,Rf,os⟩) ⟨hh,g,d,tk,os⟩:=Xl X I hga hk hcd hn hm hf hA λh' Rf e hx=>⟨e,h',Rf,rfl,hx,rfl⟩
 refine wpAny_bind (wpAny_bind (wpAny_attempt (wpAny_mono key (λ_ _ z=>z.elim) λe s' z=>?_)))
 obtain⟨a,h',Rf,rfl,hx,rfl⟩:=z
 obtain⟨t',u',he⟩:=hx.there
 refine wpAny_bind (wpAny_isInstance ⟨_,he,rfl⟩ f1 (wpAny_pure ?_))
 exact wpAny_pure ⟨_,rfl,h _ ⟨λb o e=>hx.keeps b o e,rfl,rfl⟩⟩
end
end HA
structure rK(W:aE)(C:Addr):Prop where
 name:∃cd,clsIn W.K C=some cd/\cd.name.cps.foldl (λk c=>k+(Str.utf8Of c).length) 0<=100/\(Str.ofString cd.name.toString).length<=1000
 miss:findIn W.K (.ref C) HA.nm=some none
 mod:subIn W.K (.ref C) (.type "module")=some false
section
variable{W:aE}{A:Around}{vol own:List Addr}{s:Shared}{d:Nat}{env:Env}{cx:Cx}{ρ:au}{sv:Sv}
def IU(c:XV):Bool:=((dK c).bind aF).elim false λl=>dk l HA.nm.cps.toList
def aaJ(hs:List Nat)(o c:XV):Bool:=IU c&&(((gN o).elim false λp=>cr p.1 hs&&aZ (lk p.2 HA.nm))||(dK o).elim false λ_=>true)
theorem ac8{c:XV}{vc:Value}{h:Heap}(e:IU c=true)(hc:ω W h c vc):∃u,vc=.str HA.nm u:=by cases hl:(dK c).bind aF with
 |none=>exact υ (a8 (C:=λo:Option (List Nat)=>(o.elim false λl=>dk l HA.nm.cps.toList)=true) hl.symm e)|some l=>exact lD (P:=λvc=>∃u,vc=.str HA.nm u) hl hc λu=>⟨u,congrArg (λl=>Value.str (aD l) u) (dY (a8 (C:=λo:Option (List Nat)=>(o.elim false λl=>dk l HA.nm.cps.toList)=true) hl.symm e))⟩
theorem DN{K:Frag}{C:Addr}{od:Obj}{nm:Str}(c:∃cd,clsIn K C=some cd/\cd.hasDict=true)(f:findIn K (.ref C) nm=some none)(n:copiedNames.contains nm=false)(l:lookIn nm od=some none):findObj K C (some od) nm=some .missing:=by
 obtain⟨cd,c1,c2⟩:=c
 have o:PySem.W.ownOf cd (some od) nm=some none:=(if_pos c2).trans l
 delta findObj;simp only[c1,f,o,n,Option.bind_some,Bool.false_and,Bool.false_eq_true,if_false]
theorem GK{hs:List Nat}(HO:∀C∈hs,iB W C/\rK W C){o c:XV}{vo vc:Value}(e:aaJ hs o c=true)(I:Inv W vol s)(R:ψ A d)(ho:ω W (vis vol s.heap) o vo)(hc:ω W (vis vol s.heap) c vc):ο W A vol (call (.builtin "hasattr") [vo,vc] []) (.bool false) s:=by
 refine η e λe1 e=>(ac8 e1 hc).elim λu z=>z▸((iff_of_eq (Bool.or_eq_true ..)).mp e).elim (λe=>?_) λe=>?_
 ·cases ha:gN o with
  |none=>exact υ (a8 (C:=λo:Option (Addr×List (Str×XV))=>(o.elim false λp=>cr p.1 hs&&aZ (lk p.2 HA.nm))=true) ha.symm e)|some p=>
   refine η (a8 (C:=λo:Option (Addr×List (Str×XV))=>(o.elim false λp=>cr p.1 hs&&aZ (lk p.2 HA.nm))=true) ha.symm e) λe2 e3=>nh (e_ ha ho).1 λa dx od τ IA D F _ E Q k=>?_
   obtain⟨CF,HF⟩:=HO _ (dw e2)
   obtain⟨cd,n1,n2,n3⟩:=HF.name
   obtain⟨cd',c1,c2⟩:=CF.cd
   cases Option.some.inj (n1.symm.trans c1)
   exact HA.has_obj I.k IA CF.ga CF.gt n1 n2 n3 (DN ⟨cd,n1,c2⟩ HF.miss (by decide+kernel) ((lookIn_dict D _).trans (congrArg some (gu F (mX e3))))) HF.mod R.handled λs' st=>k _ _ rfl st
 ·cases ha:dK o with
  |none=>exact υ (a8 (C:=λo:Option Tx=>(o.elim false λ_=>true)=true) ha.symm e)|some p=>exact d9 ha ho λt E Q k=>HA.has_str R.handled λs' st=>k _ _ rfl st
end
end
noncomputable def ac9(l:List Nat):List XV:=l.map λc=>.str [.lit [c]]
noncomputable def aeY(l:List UInt8):List XV:=l.map λc=>.int (.ofNat c.toNat)
noncomputable def upTo(n:Nat):List XV:=(List.range n).map λi=>.int (.ofNat i)
noncomputable def IV(a:XV):Option Nat:=a.casesOn none (λ_=>none) (λ_=>none) (λ_ _=>none) (λ_=>none) (λ_ _=>none) (λ_=>none) (λ_=>none) (λ_=>none) (λ_=>none) (λ_=>none) (λ_=>none) (λ_ _=>none) (λ_=>none) (λ_=>none) (λ_=>none) (λ_=>none) (λ_=>none) (λ_=>none) (λ_=>none) some none
def xB(a:XV):Option (List XV):=(hO a).or ((((dK a).bind aF).bind λl=>bif fU l then some (ac9 l)else none).or ((((mA a).bind iu).map aeY).or ((IV a).bind λn=>bif Nat.ble n 1000 then some (upTo n)else none)))
section
variable{W:aE}{A:Around}{vol own:List Addr}{s:Shared}{d:Nat}{env:Env}{cx:Cx}{ρ:au}{sv:Sv}
theorem GN{h:Heap}{a:XV}{v:Value}{i}(e:IV a=some i)(x:ω W h a v):ω W h (.Q7 i) v:=by cases a with
 |Q7 n=>exact θ e x|_=>exact ζ e
theorem nQ{h:Heap}{I:Addr}{ms:List XV}{Pt:Nat->Value->Prop}{St:Nat->Heap->Prop}{n:String}(hn:h.get? I=none)(Wk:∀A:Around,A.handled=none->Walks W.prog W.w A I [I] [I] ms.length Pt St)(hv:∀i m v,ms[i]?=some m->Pt i v->∀h',ω W h' m v)(hno:(["enumerate","zip","dict_itemiterator","dict_reverseitemiterator","odict_iterator","itertools.zip_longest","itertools.pairwise"].contains n)=false)(pl:∀{i h'},St i h'->∃o fs,h'.get? I=some o/\o.cls=.type n/\o.data=.fields fs)(H9:∀{A:Around}{i:Nat}{s:Shared}{E Q:Value->Shared->Prop},St i s.heap->Q (.ref I) s->wpAny (Md W) A (pyIter (.ref I)) Q E s)(fr:∀{i h h'},St i h->(∀o,h.get? I=some o->h'.get? I=some o)->St i h'):oE W h I [I] ms (λi s=>h.StaysIn s.heap/\St i s.heap):=λtg=>have live:∀{i h'},St i h'->∃o,h'.get? I=some o:=λp=>(pl p).imp λ_=>Exists.rec λ_ y=>y.1
  { mem:=.head _
    new:=aG hn
    st:=And.left
    Q':=And.left
    live:=λp=>aG (live p.2)
    next:=λ{A s i m d}R p e E Q k=>(Wk A R.handled).item i s Q E ((List.getElem?_eq_some_iff.mp e).elim λh _=>h) p.2 λv h' tk hP hS hk=>k v _ ⟨λb o e=>hk b o (λz=>nomatch(List.mem_singleton.mp z▸hn).symm.trans e) (p.1 b o e),hS⟩ ⟨λb o n e=>hk b o n e,λb o e=>if z:b=I then z▸live hS else⟨o,hk b o (λm=>z (List.mem_singleton.mp m)) e⟩,rfl,rfl⟩ λvol _ _=>hv i m v e hP _
    stop:=λ{A s d}R p E Q k=>(Wk A R.handled).done s Q E p.2 λh' tk hk=>k _ (λb o n e=>hk b o n e) rfl rfl
    self:=λ{A s i E Q}p q=>H9 p.2 q
    owned:=λ{A s i v E Q}p q=>(pl p.2).elim λo=>Exists.rec λfs y=>lU y.1 y.2.1 y.2.2 hno (q s p (.of (.refl _)))
    frame:=λ{i s s'}p e hk=>⟨hk,fr p.2 λo eo=>(e I (.head _)).trans eo⟩}
theorem j8{l:List Nat}(h:fU l=true):(aD l).cps.all (·<128)=true:=Array.all_eq_true.mpr λi hi=>decide_eq_true (j7 h _ (List.getElem_mem hi))
theorem tE{o:XV}{vo:Value}{ms:List XV}(e:xB o=some ms)(I0:Inv W vol s)(ho:ω W (vis vol s.heap) o vo)(E Q:Value->Shared->Prop)(k:∀I s' P,oE W (vis vol s.heap) I [I] ms P->P 0 s'->Step s s'->s.heap.get? I=none->Q (.ref I) s'):wpAny (Md W) A (pyIter vo) Q E s:=by
  have hI:s.heap.get? s.heap.objs.size=none:=aX _
  have hv:=ic (vol:=vol) hI
  refine af e (λe=>l_ e I0 ho E Q k) λe=>af e (λe=>?_) λe=>af e (λe=>?_) λe=>?_
  · refine O e λl e1 e=>lD (P:=λvo=>wpAny (Md W) A (pyIter vo) Q E s) e1 ho λt=>Φ (P:=λms=>(∀I s' P,oE W (vis vol s.heap) I [I] ms P->P 0 s'->Step s s'->s.heap.get? I=none->Q (.ref I) s')->_) e (λc k=>?_) k
    refine wpAny_pyIter_ascii (j8 c) (k _ _ _ (nQ (St:=λi h=>h.IsStrIter s.heap.objs.size "str_ascii_iterator" (aD l) t i) (Pt:=SignAt (aD l)) hv (λA hA=>(List.length_map (as:=l) (λc=>XV.str [.lit [c]])).symm▸Walks.strAscii hA _ (aD l) t) (λi m v hm hp h'=>?_) (by decide) (λhs=>hs.imp λ_ y=>⟨_,y⟩) wpAny_pyIter_striter_ascii λhs hk=>hs.imp λo y=>⟨hk o y.1,y.2⟩) ⟨jL,_,Heap.get?_push_size _ rfl,rfl,rfl⟩ (Step.push s _) hI)
    exact χ (P:=λm=>ω W h' m v) (List.getElem?_map.symm.trans hm) λa ea=>hp.elim λc'=>Exists.rec λu y=>y.2▸Option.some.inj (ea.symm.trans (List.getElem?_toArray.symm.trans y.1))▸⟨u,rfl⟩
  · refine χ (P:=λms=>(∀I s' P,oE W (vis vol s.heap) I [I] ms P->P 0 s'->Step s s'->s.heap.get? I=none->Q (.ref I) s')->_) e (λl e1 k=>O e1 λy e1 e2=>eM e1 ho λt=>?_) k
    rw[cM e2]
    refine KBw.pyIter_bytes (k _ _ _ (nQ (St:=λi h=>KBw.IsBytesIter h s.heap.objs.size (bu l) t i) (Pt:=λi v=>∃c u,l[i]?=some c/\v=.int (c.toNat:Int) u) hv (λA hA=>(List.length_map (as:=l) (λc=>XV.int (.ofNat c.toNat))).symm▸?_) (λi m v hm hp h'=>?_) (by decide) (λhs=>hs.imp λ_ y=>⟨_,y⟩) KBw.pyIter_self λhs hk=>hs.imp λo y=>⟨hk o y.1,y.2⟩) ⟨jL,_,Heap.get?_push_size _ rfl,rfl,rfl⟩ (Step.push s _) hI)
    ·exact⟨λb m=>m,λi h h' hs hk=>hs.imp λo y=>⟨hk _ (.head _) o y.1,y.2⟩,λi s' Q E hi hs hQ=>KBw.next_item hs (c:=l[i]) (List.getElem?_toArray.trans (List.getElem?_eq_getElem hi)) λh' a b=>hQ _ h' _ ⟨_,_,List.getElem?_eq_getElem hi,rfl⟩ a λc o n e=>(b.2 c (λz=>n (z▸.head _))).trans e,λs' Q E hs hQ=>KBw.next_end hA hs (List.getElem?_toArray.trans (List.getElem?_eq_none (Nat.le_refl _))) λh' b=>hQ h' _ λc o n e=>b c o (λz=>n (z▸.head _)) e,λi s' Q E hs hq=>KBw.pyIter_self hs hq⟩
    ·exact χ (P:=λm=>ω W h' m v) (List.getElem?_map.symm.trans hm) λa ea=>hp.elim λc'=>Exists.rec λu y=>y.2▸Option.some.inj (ea.symm.trans y.1)▸⟨u,rfl⟩
  · refine O e λn e1 e=>Φ (P:=λms=>(∀I s' P,oE W (vis vol s.heap) I [I] ms P->P 0 s'->Step s s'->s.heap.get? I=none->Q (.ref I) s')->_) e (λc k=>?_) k
    obtain⟨a,t,u,w',rfl,hr⟩:=GN e1 ho
    have hsz:Builtin.Range.rangeSize 0 (n:Int) 1=n:=(rangeSize_one ..).trans (if h:(0:Int)<n then(if_pos h).trans (Int.sub_zero _)else(if_neg h).trans (Int.le_antisymm (Int.natCast_nonneg n) (Int.not_lt.mp h)))
    refine wpAny_pyIter_range (ι.mp hr).1 (small_one (by decide) (by decide) (Int.le_trans (by decide) (Int.natCast_nonneg n)) (Int.lt_of_le_of_lt (Int.ofNat_le.mpr (ble c)) (by decide))) (k _ _ _ (nQ (St:=λi h=>IsRangeIter h s.heap.objs.size (0+(i:Nat)*1) ((n:Int)-(i:Nat)) 1) (Pt:=λi v=>∃t,v=.int (0+(i:Int)*1) t) hv (λA hA=>(List.length_map (as:=List.range n) (λi=>XV.int (.ofNat i))).symm▸List.length_range.symm▸Walks.range hA _ 0 1 n) (λi m v hm hp h'=>?_) (by decide) (λhs=>⟨_,_,hs,rfl,rfl⟩) wpAny_pyIter_rangeiter λhs hk=>hk _ hs) ⟨jL,hsz.symm▸Heap.get?_push_size _ rfl⟩ (Step.push s _) hI)
    exact χ (P:=λm=>ω W h' m v) (List.getElem?_map.symm.trans hm) λa ea=>hp.elim λt y=>y▸(List.getElem?_eq_some_iff.mp ea).elim λhh y=>⟨t,congrArg (Value.int · t) ((Int.zero_add _).trans ((Int.mul_one _).trans (congrArg Int.ofNat ((List.getElem_range hh).symm.trans y))))⟩
end
namespace ZS
abbrev itO(x:Str)(t:Tok):Obj:={cls:=.type "str_ascii_iterator",data:=.fields #[.str x t,.int 0 0]}
abbrev Z1(h:Heap)(x:Str)(t:Tok):Heap:=h.push (itO x t)
abbrev Z2(h:Heap)(x y:Str)(t u:Tok):Heap:=(Z1 h x t).push (itO y u)
abbrev Z3(h:Heap)(x y:Str)(t u:Tok):Heap:=(Z2 h x y t u).push {cls:=.type "tuple",data:=.seq #[.ref h.objs.size,.ref (Z1 h x t).objs.size]}
abbrev Z4(h:Heap)(x y:Str)(t u:Tok):Heap:=(Z3 h x y t u).push {cls:=.type "tuple",data:=.seq #[.none,.none]}
abbrev Z5(h:Heap)(x y:Str)(t u:Tok):Heap:=(Z4 h x y t u).push {cls:=.type "zip",data:=.fields #[.none,.bool false,.bool false,.ref (Z2 h x y t u).objs.size,.ref (Z3 h x y t u).objs.size]}
theorem nv{n:Nat}(h:Nat.ble n 16=true:=by rfl):n<=sizeLine:=Nat.le_trans (ble h) (sizeLine_eq▸by decide)
theorem Xm(a b:Value):Builtin.SmallTypes.newClass "zip" ⟨[.type "zip",a,b],[]⟩=pure (.type "zip",[a,b]):=by
 unfold Builtin.SmallTypes.newClass
 dsimp only
 rw[sub_zip]
 rfl
theorem kZ{x y:Str}{t u:Tok}(hx:x.cps.all (·<128)=true)(hy:y.cps.all (·<128)=true):Meets (Builtin.«zip.__new__» ⟨[.type "zip",.str x t,.str y u],[]⟩) (λ_ R s=>R (.ok (.ret (.ref (Z4 s.heap x y t u).objs.size))) {s with heap:=Z5 s.heap x y t u}):=.of_wp λprog w A R s h=>by
 refine wpAny_bind (wpAny_of_eq (Xm _ _) (wpAny_bind (wpAny_bind (wpAny_bind (wpAny_bind (wpAny_holding (wpAny_pyIter_ascii hx (wpAny_pure ?_))))))))
 refine wpAny_bind (wpAny_bind (wpAny_holding (wpAny_pyIter_ascii hy (wpAny_pure (wpAny_pure (wpAny_pure ?_))))))
 refine wpAny_bind (wpAny_newTuple (hsz:=nv) (wpAny_bind (wpAny_newTuple (hsz:=nv) (wpAny_bind ?_))))
 unfold Builtin.SmallTypes.newRecord
 exact wpAny_newObj_type (wpAny_pure ⟨_,rfl,h⟩) (Nat.le_trans nv (Nat.le_add_right _ _))
section
variable{prog:Program}{w:World}{A:Around}{E:Value->Shared->Prop}{s:Shared}{x y:Str}{t u:Tok}
structure At(h:Heap)(B:Addr)(x y:Str)(t u:Tok)(i:Nat)(f0:Value)(a b:Value):Prop where
 z:IsZip h (B+4) (B+2) (B+3) f0
 ti:IsPair h (B+2) (.ref B) (.ref (B+1))to:IsPair h (B+3) a b
 i1:h.IsStrIter B "str_ascii_iterator" x t i
 i2:h.IsStrIter (B+1) "str_ascii_iterator" y u i
theorem make{Q:Value->Shared->Prop}(hx:x.cps.all (·<128)=true)(hy:y.cps.all (·<128)=true)(h:∀h',At h' s.heap.objs.size x y t u 0 .none .none .none->(∀c o,s.heap.get? c=some o->h'.get? c=some o)->Q (.ref (s.heap.objs.size+4)) {s with heap:=h'}):wpAny (model prog w) A (call (.type "zip") [.str x t,.str y u]) Q E s:=by
 refine callType_new PySem.F.called_zip (by decide) (PySem.F.typeCall_zip_2 _ _) (PySem.F.newCall_zip_2 _ _) (λobj=>PySem.F.args_object_init_3 obj _ _) PySem.F.entry_zip_new (kZ hx hy) ?_
 have z1:(Z1 s.heap x t).objs.size=s.heap.objs.size+1:=Heap.size_push ..
 have z2:(Z2 s.heap x y t u).objs.size=s.heap.objs.size+2:=(Heap.size_push ..).trans (congrArg (·+1) z1)
 have z3:(Z3 s.heap x y t u).objs.size=s.heap.objs.size+3:=(Heap.size_push ..).trans (congrArg (·+1) z2)
 have z4:(Z4 s.heap x y t u).objs.size=s.heap.objs.size+4:=(Heap.size_push ..).trans (congrArg (·+1) z3)
 have up:∀{c o},(Z2 s.heap x y t u).get? c=some o->(Z5 s.heap x y t u).get? c=some o:=λe=>Heap.get?_push_of_some _ (Heap.get?_push_of_some _ (Heap.get?_push_of_some _ e))
 have g5:(Z5 s.heap x y t u).get? (Z4 s.heap x y t u).objs.size=some _:=Heap.get?_push_size _ rfl
 have g4:(Z5 s.heap x y t u).get? (Z3 s.heap x y t u).objs.size=some _:=Heap.get?_push_of_some _ (Heap.get?_push_size _ rfl)
 have g3:(Z5 s.heap x y t u).get? (Z2 s.heap x y t u).objs.size=some _:=Heap.get?_push_of_some _ (Heap.get?_push_of_some _ (Heap.get?_push_size _ rfl))
 have g2:(Z5 s.heap x y t u).get? (Z1 s.heap x t).objs.size=some _:=up (Heap.get?_push_size _ rfl)
 rw[z2,z3,z4]at g5
 rw[z1,z2]at g3
 rw[z3]at g4
 rw[z1]at g2
 exact z4.symm▸⟨⟨_,g5,rfl⟩,h _ ⟨g5,g3,g4,⟨_,up (Heap.get?_push_of_some _ (Heap.get?_push_size _ rfl)),rfl,rfl⟩,⟨_,g2,rfl,rfl⟩⟩ λc o e=>up (Heap.get?_push_of_some _ (Heap.get?_push_of_some _ e))⟩
theorem b8{B:Nat}(i j:Nat)(h:Nat.beq i j=false:=by rfl):B+i≠B+j:=λe=>Nat.ne_of_beq_eq_false h (Nat.add_left_cancel e)
theorem item{B:Addr}{i c c':Nat}{a b:Value}{Q:Option Value->Shared->Prop}(Z:At s.heap B x y t u i .none a b)(h1:x.cps[i]?=some c)(h2:y.cps[i]?=some c')(hQ:∀h' v v' T tk,T=s.heap.objs.size->(∃t',v=.str ⟨#[c]⟩ t')->(∃t',v'=.str ⟨#[c']⟩ t')->At h' B x y t u (i+1) (rawInt T) v v'->IsPair h' T v v'->(∀d o,d≠B+4->d≠B+3->d≠B->d≠B+1->s.heap.get? d=some o->h'.get? d=some o)->Q (some (.ref T)) {s with heap:=h',toks:=tk}):wpAny (model prog w) A (pyNext (.ref (B+4))) Q E s:=by
 obtain⟨hz,hTI,hTO,i1,i2⟩:=Z
 have hT:s.TypeIs (.ref (B+4)) "zip":=⟨_,hz,rfl⟩
 have n34:B+3≠B+4:=b8 3 4
 have YZ:B≠B+4:=b8 0 4
 have n14:B+1≠B+4:=b8 1 4
 have n30:B+3≠B:=b8 3 0
 have n31:B+3≠B+1:=b8 3 1
 have n01:B≠B+1:=b8 0 1
 refine wpAny_bind (wpAny_attempt (wpAny_callSpecial?_slot (name:=Str.ofString "__next__") hT PySem.F.slot_zip_next (wpAny_call_entry PySem.F.slot_zip_next hT PySem.F.entry_zip_next ?_ (PySem.F.args_zip_next_1 _))))
 refine wpAny_bind (wpAny_of_eq (a:=(.ref (B+4),[])) rfl (wpAny_bind (wpAny_field hz rfl (x:=.bool false) rfl (wpAny_bind (wpAny_field hz rfl (x:=.ref (B+2)) rfl (wpAny_bind (wpAny_seqItems hTI rfl ?_)))))))
 show wpAny _ _ (Builtin.SmallTypes.ownedTupleIsFree (.ref (B+4))>>=_) _ _ _
 refine wpAny_bind (wpAny_bind (wpAny_field hz rfl (x:=.none) rfl (wpAny_pure ?_)))
 refine wpAny_ite (KPc.ite_yes rfl (wpAny_bind (wpAny_rule (wpAny_bind (wpAny_field hz rfl (x:=.ref (B+3)) rfl (wpAny_bind (wpAny_setField_rec hz (ble rfl) λg1 z1 s1=>?_)))))))
 refine wpAny_bind (wpAny_bind (wpAny_bind (wpAny_onRaise (wpAny_bind (wpAny_nextOf_ascii_item (i1.extBut s1.extBut YZ) h1 λg2 j2 s2=>wpAny_pure ?_)))))
 have to2:IsPair g2 (B+3) a b:=s2.extBut _ _ n30 (s1.extBut _ _ n34 hTO)
 refine wpAny_bind (wpAny_seqItems to2 rfl (wpAny_bind (wpAny_updateSeq_pair to2 λg3 to3 s3=>wpAny_bind (wpAny_letGo (wpAny_pure ?_)))))
 refine wpAny_bind (wpAny_bind (wpAny_onRaise (wpAny_bind (wpAny_nextOf_ascii_item (((i2.extBut s1.extBut n14).extBut s2.extBut n01.symm).extBut s3.extBut n31.symm) h2 λg4 j4 s4=>wpAny_pure ?_))))
 have to4:=s4.extBut _ _ n31 to3
 refine wpAny_bind (wpAny_seqItems to4 rfl (wpAny_bind (wpAny_updateSeq_pair (a:=_) (b:=_) to4 λg5 to5 s5=>wpAny_bind (wpAny_letGo (wpAny_pure (wpAny_pure ?_))))))
 refine wpAny_bind (wpAny_seqItems to5 rfl (wpAny_bind (wpAny_newTuple (hsz:=nv) ?_)))
 have hsz:g5.objs.size=s.heap.objs.size:=s5.1.trans (s4.1.trans (s3.1.trans (s2.1.trans s1.1)))
 have z5:=s5.extBut _ _ n34.symm (s4.extBut _ _ n14.symm (s3.extBut _ _ n34.symm (s2.extBut _ _ YZ.symm z1)))
 have IW:∀d o,d≠B+4->d≠B+3->d≠B->d≠B+1->s.heap.get? d=some o->g5.get? d=some o:=λd o c1 c2 c3 c4 e=>s5.extBut _ _ c2 (s4.extBut _ _ c4 (s3.extBut _ _ c2 (s2.extBut _ _ c3 (s1.extBut _ _ c1 e))))
 have k1:=((j2.extBut s3.extBut n30.symm).extBut s4.extBut n01).extBut s5.extBut n30.symm
 have k2:=j4.extBut s5.extBut n31.symm
 have lz:B+4<g5.objs.size:=Heap.lt_size z5
 refine wpAny_bind (wpAny_bind (wpAny_setField_rec (Heap.get?_push_of_some _ z5) (ble rfl) λg7 z7 s7=>wpAny_setField_rec z7 (ble rfl) λg8 z8 s8=>?_))
 have up:∀d o,d≠B+4->g5.get? d=some o->g8.get? d=some o:=λd o c1 e=>s8.extBut _ _ c1 (s7.extBut _ _ c1 (Heap.get?_push_of_some _ e))
 have hT8:=s8.extBut _ _ (Nat.ne_of_gt lz) (s7.extBut _ _ (Nat.ne_of_gt lz) (Heap.get?_push_size g5 (o:={cls:=.type "tuple",data:=.seq #[Value.str ⟨#[c]⟩ s.toks,.str ⟨#[c']⟩ (s.toks+1)]}) rfl))
 exact wpAny_pure ⟨_,rfl,wpAny_pure (hQ g8 (.str ⟨#[c]⟩ s.toks) (.str ⟨#[c']⟩ (s.toks+1)) g5.objs.size _ hsz ⟨_,rfl⟩ ⟨_,rfl⟩ ⟨z8,up _ _ (b8 2 4) (IW _ _ (b8 2 4) (b8 2 3) (b8 2 0) (b8 2 1) hTI),up _ _ n34 to5,k1.imp λo y=>⟨up _ o YZ y.1,y.2⟩,k2.imp λo y=>⟨up _ o n14 y.1,y.2⟩⟩ hT8 λd o c1 c2 c3 c4 e=>up d o c1 (IW d o c1 c2 c3 c4 e))⟩
theorem stop{B:Addr}{i:Nat}{a b:Value}{Q:Option Value->Shared->Prop}(hh:A.handled=none)(Z:At s.heap B x y t u i .none a b)(h1:x.cps[i]?=none)(hQ:∀h',(∀d o,d≠B+4->d≠B->s.heap.get? d=some o->h'.get? d=some o)->Q none {s with heap:=h'}):wpAny (model prog w) A (pyNext (.ref (B+4))) Q E s:=by
 obtain⟨hz,hTI,hTO,i1,i2⟩:=Z
 have hT:s.TypeIs (.ref (B+4)) "zip":=⟨_,hz,rfl⟩
 have YZ:B≠B+4:=b8 0 4
 refine wpAny_bind (wpAny_attempt (wpAny_callSpecial?_slot (name:=Str.ofString "__next__") hT PySem.F.slot_zip_next (wpAny_call_entry PySem.F.slot_zip_next hT PySem.F.entry_zip_next ?_ (PySem.F.args_zip_next_1 _))))
 refine wpAny_bind (wpAny_of_eq (a:=(.ref (B+4),[])) rfl (wpAny_bind (wpAny_field hz rfl (x:=.bool false) rfl (wpAny_bind (wpAny_field hz rfl (x:=.ref (B+2)) rfl (wpAny_bind (wpAny_seqItems hTI rfl ?_)))))))
 show wpAny _ _ (Builtin.SmallTypes.ownedTupleIsFree (.ref (B+4))>>=_) _ _ _
 refine wpAny_bind (wpAny_bind (wpAny_field hz rfl (x:=.none) rfl (wpAny_pure ?_)))
 refine wpAny_ite (KPc.ite_yes rfl (wpAny_bind (wpAny_rule (wpAny_bind (wpAny_field hz rfl (x:=.ref (B+3)) rfl (wpAny_bind (wpAny_setField_rec hz (ble rfl) λg1 z1 s1=>?_)))))))
 refine wpAny_bind (wpAny_bind (wpAny_bind (wpAny_onRaise (wpAny_bind (wpAny_nextOf_ascii_end hh (i1.extBut s1.extBut YZ) h1 λg2 e s2 he=>?_)))))
 obtain⟨oe,hoe,hce⟩:=he
 have z2:=s2 _ _ YZ.symm z1
 have hez:e≠B+4:=λx=>absurd ((congrArg Obj.cls (Option.some.inj (z2.symm.trans (x▸hoe)))).trans hce) (by decide:Value.type "zip"≠Value.type "StopIteration")
 refine wpAny_setField_rec z2 (ble rfl) λg3 _ s3=>?_
 exact wpAny_bind (wpAny_isInstance (T:="StopIteration") (b:=true) ⟨oe,s3.extBut _ _ hez hoe,hce⟩ isSubtype_stop (wpAny_pure (hQ _ λd o c1 c3 x=>s3.extBut _ _ c1 (s2 _ _ c3 (s1.extBut _ _ c1 x)))))
abbrev pl(B:Addr):List Addr:=[B+4,B,B+1,B+2,B+3]
theorem At.keep{h h':Heap}{B:Addr}{i:Nat}{f0 a b:Value}(Z:At h B x y t u i f0 a b)(k:∀d∈pl B,h'.get? d=h.get? d):At h' B x y t u i f0 a b:=⟨(k _ (.head _)).trans Z.z,(k _ (.tail _ (.tail _ (.tail _ (.head _))))).trans Z.ti,(k _ (.tail _ (.tail _ (.tail _ (.tail _ (.head _)))))).trans Z.to,Z.i1.imp λo y=>⟨(k _ (.tail _ (.head _))).trans y.1,y.2⟩,Z.i2.imp λo y=>⟨(k _ (.tail _ (.tail _ (.head _)))).trans y.1,y.2⟩⟩
theorem At.live{h:Heap}{B:Addr}{i:Nat}{f0 a b:Value}(Z:At h B x y t u i f0 a b):∀d∈pl B,∃o,h.get? d=some o:=aq ⟨_,Z.z⟩ (aq (Z.i1.imp λ_ y=>y.1) (aq (Z.i2.imp λ_ y=>y.1) (aq ⟨_,Z.ti⟩ (aq ⟨_,Z.to⟩ λ_ m=>nomatch m))))
theorem out{B d:Addr}(n:d∉pl B):d≠B+4/\d≠B+3/\d≠B/\d≠B+1:=⟨λz=>n (z▸.head _),λz=>n (z▸.tail _ (.tail _ (.tail _ (.tail _ (.head _))))),λz=>n (z▸.tail _ (.head _)),λz=>n (z▸.tail _ (.tail _ (.head _)))⟩
end
end ZS
noncomputable def aaK(a b:List Nat):List XV:=List.zipWith (λc c'=>.tuple [.str [.lit [c]],.str [.lit [c']]]) a b
section
variable{W:aE}{A:Around}{vol own:List Addr}{s:Shared}{d:Nat}{env:Env}{cx:Cx}{ρ:au}{sv:Sv}
theorem xC{h h1 h':Heap}{B:Addr}(oF:h.StaysIn h1)(hn:∀d∈ZS.pl B,h.get? d=none)(k:∀d o,d∉ZS.pl B->h1.get? d=some o->h'.get? d=some o):h.StaysIn h':=λd o e=>k d o (λm=>nomatch(hn d m).symm.trans e) (oF d o e)
theorem xD{B:Addr}{h':Heap}{tk:Tok}(k:∀d o,d∉ZS.pl B->s.heap.get? d=some o->h'.get? d=some o)(l:∀d∈ZS.pl B,∃o,h'.get? d=some o):ae (ZS.pl B) s {s with heap:=h',toks:=tk}:=⟨λd o n e=>k d o n e,λd o e=>if z:d∈ZS.pl B then l d z else⟨o,k d o z e⟩,rfl,rfl⟩
theorem zipSrc{h:Heap}{B:Addr}{a b:List Nat}{t u:Tok}{ts:List Expr}{k:Nat}{tp:Pos}(hl:a.length=b.length)(hn:∀d∈ZS.pl B,h.get? d=none):w9 W h (B+4) (ZS.pl B) (aaK a b) (.Tuple ts k tp) (λi s=>h.StaysIn s.heap/\∃p q,ZS.At s.heap B (aD a) (aD b) t u i .none p q) (λi v s=>h.StaysIn s.heap/\∃p q T,v=.ref T/\ZS.At s.heap B (aD a) (aD b) t u i (rawInt T) p q)where
 mem:=.head _
 new:=hn
 st:=And.left
 Q':=And.left
 live p:=p.2.elim λ_=>Exists.rec λ_ Z=>Z.live
 next{A s i m d}R p e E Q q:=by
  obtain⟨oF,v0,v1,Z⟩:=p
  obtain⟨c,c',h1,h2,rfl⟩:=List.getElem?_zipWith_eq_some.mp e
  refine ZS.item Z (List.getElem?_toArray.trans h1) (List.getElem?_toArray.trans h2) λh' v v' T tk hT hv hv' Z' hp hk=>?_
  have kk:∀d o,d∉ZS.pl B->s.heap.get? d=some o->h'.get? d=some o:=λd o n e=>hk d o (ZS.out n).1 (ZS.out n).2.1 (ZS.out n).2.2.1 (ZS.out n).2.2.2 e
  exact q (.ref T) _ ⟨xC oF hn kk,v,v',T,rfl,Z'⟩ (xD kk Z'.live) λvol Rg hlv=>fW.mpr ⟨T,_,rfl,ι.mpr ⟨hp,λm=>(hlv T m).elim λo e=>nomatch(congrArg s.heap.get? hT).symm.trans e|>.symm.trans (aX _)⟩,Δ hv (Δ hv' aC)⟩
 stop{A s d}R p E Q q:=p.2.elim λv0=>Exists.rec λv1 Z=>ZS.stop R.handled Z (List.getElem?_toArray.trans (List.getElem?_eq_none (Nat.le_of_eq (List.length_zipWith.trans (hl▸Nat.min_self _)).symm))) λh' hk=>q _ (λd o n e=>hk d o (ZS.out n).1 (ZS.out n).2.2.1 e) rfl rfl
 self{A s i E Q}p q:=p.2.elim λ_=>Exists.rec λ_ Z=>wpAny_pyIter_zip Z.z q
 owned{A s i v E Q}p q:=by
  obtain⟨oF,v0,v1,T,rfl,Z⟩:=p
  refine wpAny_letOwnedTupleGo_zip Z.z λh' hz hs=>?_
  have kk:∀d o,d≠B+4->s.heap.get? d=some o->h'.get? d=some o:=λd o n e=>(hs.2 d n).trans e
  have Z':ZS.At h' B (aD a) (aD b) t u i .none v0 v1:=⟨hz,kk _ _ (ZS.b8 2 4) Z.ti,kk _ _ (ZS.b8 3 4) Z.to,Z.i1.imp λo y=>⟨kk _ o (ZS.b8 0 4) y.1,y.2⟩,Z.i2.imp λo y=>⟨kk _ o (ZS.b8 1 4) y.1,y.2⟩⟩
  have k2:∀d o,d∉ZS.pl B->s.heap.get? d=some o->h'.get? d=some o:=λd o n e=>kk d o (ZS.out n).1 e
  exact q _ ⟨xC oF hn k2,v0,v1,Z'⟩ (xD k2 Z'.live)
 frame{i s s'}p e hk:=⟨hk,p.2.imp λ_=>Exists.imp λ_ Z=>Z.keep e⟩
end
def Ba(m:XV):Option (List Nat):=((dK m).bind aF).bind λa=>bif fU a then some a else none
def Xn(ms:List XV):Option (List Nat×List Nat):=ms.casesOn none λa r=>r.casesOn none λb r=>bif ak r then two (Ba a) (Ba b) λa b=>bif Nat.beq a.length b.length then some (a,b)else none else none
def IX(v:XV):Bool:=(Aj v).elim false λk=>Nat.beq k.ctorIdx 4
noncomputable def Bb(e:Expr):Option (Str×Pos):=e.casesOn (λ_ _ _=>none) (λ_ _ _=>none) (λ_ _ _ _=>none) (λ_ _ _=>none) (λ_ _ _ _=>none) (λ_ _ _ _=>none) (λ_ _ _=>none) (λ_ _ _=>none) (λ_ _ _ _=>none) (λ_ _ _ _=>none) (λ_ _ _ _ _=>none) (λ_ _ _ _=>none) (λ_ _=>none) (λ_ _=>none) (λ_ _=>none) (λ_ _ _ _=>none) (λ_ _ _ _=>none) (λ_ _ _ _=>none) (λ_ _=>none) (λ_ _ _=>none) (λ_ _ _=>none) (λ_ _ _=>none) (λ_ _=>none) (λx p=>some (x,p)) (λ_ _=>none) (λ_ _ _=>none) (λ_ _ _ _=>none)
theorem tG{e:Expr}{q:Str×Pos}:Bb e=some q->e=.Name q.1 q.2:=by cases e with
 |Name x p=>exact λh=>θ (P:=λq:Str×Pos=>Expr.Name x p=.Name q.1 q.2) h rfl|_=>exact ζ
def dI(e:Expr):Option ((Str×Pos)×List Expr):=e.casesOn (λ_ _ _=>none) (λ_ _ _=>none) (λ_ _ _ _=>none) (λ_ _ _=>none) (λ_ _ _ _=>none) (λ_ _ _ _=>none) (λ_ _ _=>none) (λ_ _ _=>none) (λ_ _ _ _=>none) (λ_ _ _ _=>none) (λ_ _ _ _ _=>none) (λ_ _ _ _=>none) (λ_ _=>none) (λ_ _=>none) (λ_ _=>none) (λ_ _ _ _=>none) (λf es kws _=>bif ak kws then(Bb f).map λp=>(p,es)else none) (λ_ _ _ _=>none) (λ_ _=>none) (λ_ _ _=>none) (λ_ _ _=>none) (λ_ _ _=>none) (λ_ _=>none) (λ_ _=>none) (λ_ _=>none) (λ_ _ _=>none) (λ_ _ _ _=>none)
def aaL(f:Expr->Option XV)(tg e:Expr):Option (List XV):=(dI e).bind λq=>bif kp tg&&!bk q.2 then(f (.Name q.1.1 q.1.2)).bind λv=>bif IX v then((bF f q.2).bind Xn).map λq=>aaK q.1 q.2 else none else none
def Rh(sv:Sv):kL:=λd cx ρ tg e=>(aaL (sv.ev d cx ρ) tg e).or ((sv.ev d cx ρ e).bind xB)
section
variable{W:aE}{A:Around}{vol own:List Addr}{s:Shared}{d:Nat}{env:Env}{cx:Cx}{ρ:au}{sv:Sv}
theorem DO{v:XV}:IX v=true->v=.ty .zip:=by cases v with
 |ty k=>cases k<;>first|exact λ_=>rfl|exact υ
 |_=>exact υ
theorem dh{e:Expr}{q:(Str×Pos)×List Expr}:dI e=some q->∃pos,e=.Call (.Name q.1.1 q.1.2) q.2 [] pos:=by cases e with
 |Call f es kws pos=>exact λh=>ξ h λc h=>nil_of c▸χ (P:=λq:(Str×Pos)×List Expr=>∃pos,Expr.Call f es [] _=.Call (.Name q.1.1 q.1.2) q.2 [] pos) h λp h=>tG h▸⟨_,rfl⟩|_=>exact ζ
theorem Cc{tg:Expr}:kp tg=true->∃ts k tp,tg=.Tuple ts k tp:=by cases tg with
 |Tuple ts k tp=>exact λ_=>⟨ts,k,tp,rfl⟩|_=>exact υ
theorem xE{h:Heap}{m:XV}{l:List Nat}{v:Value}{P:Value->Prop}(e:Ba m=some l)(x:ω W h m v)(k:∀t,(aD l).cps.all (·<128)=true->P (.str (aD l) t)):P v:=O e λa e1 e=>lD e1 x λt=>Φ (P:=λl=>(∀t,(aD l).cps.all (·<128)=true->P (.str (aD l) t))->P (.str (aD a) t)) e (λc k=>k t (j8 c)) k
theorem nR{s s':Shared}{d:Addr}(k:Step s s')(h:s'.heap.get? d=none):s.heap.get? d=none:=by cases q:s.heap.get? d with
 |none=>rfl|some o=>exact nomatch h.symm.trans (k.keep _ _ q)
theorem GP(ok:al W sv)(R:ψ A d){tg e:Expr}{ms:List XV}(h:aaL (sv.ev d cx ρ) tg e=some ms)(X:az W own vol cx ρ env s)(E Q:Value->Shared->Prop)(k:∀I Is s2 P Pm h,w9 W h I Is ms tg P Pm->P 0 s2->Step s s2->(∀a∈Is,s.heap.get? a=none)->(∀b∈vol,h.get? b=none)->Q (.ref I) s2):wpAny (Md W) A (eval e env) (λvo s1=>wpAny (Md W) A (pyIter vo) Q E s1) E s:=by
 refine O h λq he h=>ξ h λc h=>O h λv hv h=>ξ h λc2 hz=>η c λc1 c=>?_
 cases DO c2
 obtain⟨ts,k',tp,rfl⟩:=Cc c1
 obtain⟨pos,rfl⟩:=dh he
 refine χ (P:=λms=>(∀I Is s2 P Pm h,w9 W h I Is ms (.Tuple ts k' tp) P Pm->P 0 s2->Step s s2->(∀a∈Is,s.heap.get? a=none)->(∀b∈vol,h.get? b=none)->Q (.ref I) s2)->_) hz (λab e0 k=>?_) k
 refine O e0 λas e1 e2=>BJ.mK (arm_eval_Call_Name' ..) (wpAny_bind (ok.ev hv X R E _ λvf s1 h1 k1=>?_))
 cases(show vf=.type "zip"from h1)
 refine wF (first:=[]) (l9 (aP c)) (dB (kws:=[]) (ms:=[]) (pos:=pos) ok R rfl X).1 (kR ok R e1 (X.step k1) E _ λvs s2 h2 k2=>(dB (kws:=[]) (ms:=[]) ok R rfl ((X.step k1).step k2)).2 E _ λkv s3 h3 k3=>⟨kS,?_⟩)
 have h2:=h2.step k3
 have Y0:=(k1.trans k2).trans k3
 have I3:=X.inv.step Y0
 cases as with
 |nil=>exact ζ e2|cons a r=>cases r with
  |nil=>exact ζ e2|cons b r=>
   refine am h2 λva vs w1 w2=>am w2 λvb vs w5 w3=>ξ e2 λc3 e3=>π e3 λa' b' q1 q2 e5=>?_
   cases nil_of c3
   refine bz w3 (xE (P:=λva=>wpAny (Md W) A (call (.type "zip") [va,vb] _) _ E s3) q1 w1 λt a1=>xE (P:=λvb=>wpAny (Md W) A (call (.type "zip") [.str (aD a') t,vb] _) _ E s3) q2 w5 λu b1=>ξ e5 λc4 e6=>?_)
   cases e6
   refine ZS.make a1 b1 λh' Z hk=>?_
   have An:∀d∈ZS.pl s3.heap.objs.size,s3.heap.get? d=none:=aq (Heap.get?_none_of_le (Nat.le_add_right _ _)) (aq (aX _) (aq (Heap.get?_none_of_le (Nat.le_add_right _ _)) (aq (Heap.get?_none_of_le (Nat.le_add_right _ _)) (aq (Heap.get?_none_of_le (Nat.le_add_right _ _)) λ_ m=>nomatch m))))
   exact wpAny_pyIter_zip Z.z (k _ _ _ _ _ _ (zipSrc (h:=vis vol s3.heap) (Nat.eq_of_beq_eq_true c4) (λd m=>ic (An d m))) ⟨λd o e=>hk d o (ι.mp e).1,_,_,Z⟩ (Y0.trans ⟨λd o e=>hk d o e,rfl,rfl⟩) (λd m=>nR Y0 (An d m)) (λb m=>hideAll_none _ m))
theorem q6(ok:al W sv):bR W (Rh sv):=λ{d cx ρ tg e ms}h{A own vol env s}X R E Q k=>af h (λh=>GP ok R h X E Q k) λh=>O h λo e1 e2=>ok.ev e1 X R E _ λvo s1 h1 k1=>tE e2 (X.inv.step k1) h1 E Q λI s' P S p0 k2 hI=>k I [I] s' P _ _ (S tg) p0 (k1.trans k2) (aG (nR k1 hI)) λb m=>hideAll_none _ m
end
structure fj where
 gl:List (Str×XV)at_:iZ
 keep:List Nat
 fn:Nat->Option kK
 H_:IsT
 iS:Nat
 wrap:Nat
 has:List Nat
 nm:List (Nat×Str)col:Nat->Bool
 res:List ((Nat×Nat×Nat)×Int)uU:Nat->Nat->List XV->List (Str×XV)->Option XV
noncomputable def jZ(x:Str):Bool:=Fast.sEq x ("__debug__":Str)||Fast.sEq x ("__classdict__":Str)
noncomputable def wL(y:Tx)(l:List Nat):Bool:=(aF y).elim false λz=>dk z l
def cQ{α:Type}(ms:List α):Option α:=ms.casesOn none λo r=>bif ak r then some o else none
def jt{α:Type}(ms:List α):Option (α×α):=ms.casesOn none λo r=>(cQ r).map λc=>(o,c)
def bcX(G:fj)(call:Nat->Addr->List XV->Option XV)(d:Nat)(k:Bk)(ms:List XV):Option XV:=k.casesOn ((cQ ms).bind λo=>aaD G.at_ call d o) ((cQ ms).bind λo=>(eQ o).map λl=>.list (lsL l)) ((jt ms).bind λp=>(xA G.H_ G.iS G.wrap p.1 p.2).map .bool) ((cQ ms).bind λo=>((qN o).bind Fg).map A_) ((jt ms).bind λp=>bif aaJ G.has p.1 p.2 then some (.bool false)else none)
def tcX(G:fj)(call:Nat->Addr->List XV->Option XV)(d:Nat)(k:Tk)(ms:List XV):Option XV:=(cQ ms).bind λo=>k.casesOn (aaE G.at_ call d o) (xz o) (IP o) (Ca o) none none ((mB o).bind λn=>bif Nat.ble n 1000 then some (.Q7 n)else none) none
noncomputable def IY:Str:=Str.ofString "join"
def IZ(s:Tx):Bool:=s.casesOn false λp r=>p.casesOn (λ_=>false) λ_=>ak r
def I2(s:Tx)(x:Str)(ms:List XV):Option XV:=(bif Fast.sEq x (Str.ofString "lower")&&ak ms then(aF s).bind λl=>bif fU l&&Nat.ble l.length bI then some (.str [.lit (vn l)])else none else none).or ((bif Fast.sEq x IY then two (aF s) (((cQ ms).bind qN).bind Fa) λl ts=>bif Nat.ble (Fb l.length ts) bI then some (.str (wH s ts))else none else none).or ((bif Fast.sEq x (Str.ofString "index")then two (aF s) ((((cQ ms).bind dK).bind aF).bind one) λl c=>bif dk l Fc then(iL Fd c).map λi=>.int (.ofNat i)else none else none).or (bif Fast.sEq x (Str.ofString "split")&&(((cQ ms).bind dK).elim false (wL · [40])&&Nat.ble s.bound 100000)then(aF s).elim (bif IZ s then some (.heads s)else none) λl=>bif cr 40 l then some (.heads s)else none else none)))
def I5(s:Bx)(x:Str)(ms:List XV):Option XV:=(bif Fast.sEq x (Str.ofString "decode")&&ak ms then(iu s).bind λl=>bif anyB l RK then some (.str [.lit (kt l)])else none else none).or ((bif Fast.sEq x IY then two (iu s) (((cQ ms).bind qN).bind allB) λl ts=>bif Nat.ble (Fe l.length ts) bI then some (.bytes (wI s ts))else none else none).or (bif Fast.sEq x (Str.ofString "rstrip")then two (iu s) (((cQ ms).bind mA).bind iu) λl y=>(q5 l kr).bind λn=>bif yc y [0]then some (.bytes [.lit (nu l)])else none else none))
def ada(n:Nat)(x:Str)(p:XV×XV):Option XV:=bif Fast.sEq x (Str.ofString "to_bytes")&&cr n kr then two (mB p.1) ((dK p.2).bind aF) λk y=>bif Nat.beq k 32&&dk y (Str.ofString "little").cps.toList then some (.bytes [.lit (sj 32 n)])else none else none
def Xo(ds:List (Str×XV))(x:Str)(p:XV×XV):Option XV:=bif Fast.sEq x (Str.ofString "get")then((dK p.1).bind aF).map λl=>(lk ds (aD l)).getD p.2 else none
noncomputable def aaM(a:XV):Option (Nat×List Nat):=a.casesOn none (λ_=>none) (λ_=>none) (λk l=>some (k,l)) (λ_=>none) (λ_ _=>none) (λ_=>none) (λ_=>none) (λ_=>none) (λ_=>none) (λ_=>none) (λ_=>none) (λ_ _=>none) (λ_=>none) (λ_=>none) (λ_=>none) (λ_=>none) (λ_=>none) (λ_=>none) (λ_=>none) (λ_=>none) none
noncomputable def I6(op:Operator):Bool:=Nat.beq op.ctorIdx 5
noncomputable def I7(op:Operator):Bool:=Nat.beq op.ctorIdx 1
def mbX(o:XV)(x:Str)(ms:List XV):Option XV:=((dK o).bind λs=>I2 s x ms).or (((mA o).bind λs=>I5 s x ms).or ((two (mB o) (jt ms) λn p=>ada n x p).or (two (asD o) (jt ms) λds p=>Xo ds x p)))
def biX(G:fj)(sv:Sv):Bi:=⟨mbX,bcX G λd f a=>sv.call d f a [],tcX G λd f a=>sv.call d f a []⟩
def Bc(R:List ((Nat×Nat×Nat)×Int))(op:Operator)(a b:XV):Option XV:=(bif I6 op then(dK a).bind λF=>aaI F b else none).or ((bif I7 op then two (aaM a) (mB b) λp n=>bif Nat.ble n p.1 then some (.dj (p.1-n) p.2)else none else none).or (IR R op a b))
def Cd(G:fj)(call:Nat->Addr->List XV->Option XV)(d:Nat)(o:XV)(x:Str):Option XV:=(bif Fast.sEq x (Str.ofString "__name__")then(gb o).bind λa=>(iL G.nm a).map λn=>.str [.lit n.cps.toList]else none).or (AZ G.at_ call d o x)
def Ce(f:Expr->Option XV)(value slice:Expr):Option XV:=((f value).bind λo=>(asD o).bind λds=>(((f slice).bind dK).bind aF).bind λl=>lk ds (aD l)).or (ID f value slice)
noncomputable def sP(e:Expr):Option (Expr×Str×Pos):=e.casesOn (λ_ _ _=>none) (λ_ _ _=>none) (λ_ _ _ _=>none) (λ_ _ _=>none) (λ_ _ _ _=>none) (λ_ _ _ _=>none) (λ_ _ _=>none) (λ_ _ _=>none) (λ_ _ _ _=>none) (λ_ _ _ _=>none) (λ_ _ _ _ _=>none) (λ_ _ _ _=>none) (λ_ _=>none) (λ_ _=>none) (λ_ _=>none) (λ_ _ _ _=>none) (λ_ _ _ _=>none) (λ_ _ _ _=>none) (λ_ _=>none) (λ_ _ _=>none) (λo n p=>some (o,n,p)) (λ_ _ _=>none) (λ_ _=>none) (λ_ _=>none) (λ_ _=>none) (λ_ _ _=>none) (λ_ _ _ _=>none)
def evE(G:fj)(sv:Sv)(d:Nat)(cx:Cx)(ρ:au)(e:Expr):Option XV:=e.casesOn (λop es _=>qV (sv.ev d cx ρ) (i8 op) es) (λ_ _ _=>none) (λl op r _=>two (sv.ev d cx ρ l) (sv.ev d cx ρ r) (Bc G.res op)) (λop x _=>(sv.ev d cx ρ x).bind (aam op)) (λ_ _ _ _=>none) (λt b o _=>(sv.tr d cx ρ t).bind λc=>bif c then sv.ev d cx ρ b else sv.ev d cx ρ o) (λks vs _=>B' (sv.ev d cx ρ) ks vs) (λ_ _ _=>none) (λelt gens sc _=>hU (Rh sv) sv d cx ρ elt gens sc) (λ_ _ _ _=>none) (λ_ _ _ _ _=>none) (λ_ _ _ _=>none) (λ_ _=>none) (λ_ _=>none) (λ_ _=>none) (λl iY rs _=>((sv.ev d cx ρ l).bind λa=>pK G.col (sv.ev d cx ρ) iY a rs).map .bool) (λf es kws pos=>((Bb f).bind λq=>bif bk es then none else(sv.ev d cx ρ (.Name q.1 q.2)).bind λv=>two (bF (sv.ev d cx ρ) es) (sL (sv.ev d cx ρ) kws) λms ks=>u8 G.keep (biX G sv) sv.call d v ms ks).or ((sP f).bind λq=>bif ak kws&&(!gh q.1&&(fp es&&(Nat.blt es.length 20&&Nat.beq q.2.2.endLine pos.line)))then two (sv.ev d cx ρ q.1) (bF (sv.ev d cx ρ) es) λv ms=>IF G.at_ (biX G sv) (λd f a=>sv.call d f a []) d v q.2.1 ms else none)) (λ_ _ _ _=>none) (λ_ _=>none) (λc _ _=>xm c) (λv x _=>bif gh v then none else(sv.ev d cx ρ v).bind λo=>Cd G (λd f a=>sv.call d f a []) d o x) (λv i _=>Ce (sv.ev d cx ρ) v i) (λ_ _=>none) (λx _=>bif jZ x then none else BW ⟨G.gl⟩ cx ρ x) (λes _=>bif Nat.ble es.length 1000 then(Q9 (sv.ev d cx ρ) es).map .list else none) (λes _ _=>bif Nat.ble es.length 1000 then(Q9 (sv.ev d cx ρ) es).map .tuple else none) (λ_ _ _ _=>none)
noncomputable def adb(op:UnaryOp):Bool:=Nat.beq op.ctorIdx 1
noncomputable def vy(e:Expr):Bool:=!(Nat.beq e.ctorIdx 15||(Nat.beq e.ctorIdx 0||(Nat.beq e.ctorIdx 3||Nat.beq e.ctorIdx 5)))
def evT(G:fj)(sv:Sv)(d:Nat)(cx:Cx)(ρ:au)(e:Expr):Option Bool:=(bif vy e then(sv.ev d cx ρ e).bind jJ else none).or (e.casesOn (λop es _=>pJ (sv.tr d cx ρ) (i8 op) es) (λ_ _ _=>none) (λ_ _ _ _=>none) (λop x p=>bif adb op then(sv.tr d cx ρ x).map (!·)else none) (λ_ _ _ _=>none) (λ_ _ _ _=>none) (λ_ _ _=>none) (λ_ _ _=>none) (λ_ _ _ _=>none) (λ_ _ _ _=>none) (λ_ _ _ _ _=>none) (λ_ _ _ _=>none) (λ_ _=>none) (λ_ _=>none) (λ_ _=>none) (λl iY rs _=>(sv.ev d cx ρ l).bind λa=>pK G.col (sv.ev d cx ρ) iY a rs) (λ_ _ _ _=>none) (λ_ _ _ _=>none) (λ_ _=>none) (λ_ _ _=>none) (λ_ _ _=>none) (λ_ _ _=>none) (λ_ _=>none) (λ_ _=>none) (λ_ _=>none) (λ_ _ _=>none) (λ_ _ _ _=>none))
def fg(cx:Cx)(x:Str):Bool:=(lk cx.names x).elim false hK
def GQ(sv:Sv)(d:Nat)(cx:Cx)(ρ:au)(t:Expr)(x:Str)(e:Expr):Option fP:=bif fg cx x then two ((lk ρ x).bind eQ) ((sv.ev d cx ρ e).bind eQ) λa b=>bif pO a b then(sv.tr d cx ρ t).map λc=>.next ((x,.dD (iN c a b))::ρ)else none else none
noncomputable def wM(e:Expr):Option (List Expr×Nat×Pos):=e.casesOn (λ_ _ _=>none) (λ_ _ _=>none) (λ_ _ _ _=>none) (λ_ _ _=>none) (λ_ _ _ _=>none) (λ_ _ _ _=>none) (λ_ _ _=>none) (λ_ _ _=>none) (λ_ _ _ _=>none) (λ_ _ _ _=>none) (λ_ _ _ _ _=>none) (λ_ _ _ _=>none) (λ_ _=>none) (λ_ _=>none) (λ_ _=>none) (λ_ _ _ _=>none) (λ_ _ _ _=>none) (λ_ _ _ _=>none) (λ_ _=>none) (λ_ _ _=>none) (λ_ _ _=>none) (λ_ _ _=>none) (λ_ _=>none) (λ_ _=>none) (λ_ _=>none) (λes k p=>some (es,k,p)) (λ_ _ _ _=>none)
def Bd(G:fj)(sv:Sv)(d:Nat)(cx:Cx)(ρ:au)(ts:List Expr)(e:Expr):Option fP:=(cQ ts).bind λt=>((bA t).bind λx=>bif bO cx x then(((aaB e).bind λp=>hU (Rh sv) sv d cx ρ p.1 p.2.1 p.2.2).or (bif i_ e then none else sv.ev d cx ρ e)).map λm=>.next ((x,m)::ρ)else none).or ((wM t).bind λq=>(wM e).elim ((sv.ev d cx ρ e).bind λm=>(lG cx ρ (.Tuple q.1 q.2.1 q.2.2) m).map .next) λv=>bif nk v.1&&cP (q.1.filterMap bA)then(sv.ev d cx ρ (.Tuple v.1 v.2.1 v.2.2)).bind λm=>(lG cx ρ (.Tuple q.1 q.2.1 q.2.2) m).map .next else none)
def H'(G:fj)(sv:Sv)(d:Nat)(cx:Cx)(ρ:au)(st:Stmt):Option fP:=st.casesOn (λ_ _ _ _ _ _ _ _ _ _=>none) (λ_ _ _ _ _ _ _ _ _ _=>none) (λ_ _ _ _ _ _ _ _ _ _ _=>none) (λe _=>e.elim (some (.ret .none)) λe=>(sv.ev d cx ρ e).map .ret) (λ_ _=>none) (λts e _=>Bd G sv d cx ρ ts e) (λ_ _ _ _ _ _ _=>none) (λt op e _=>(bA t).bind λx=>bif fg cx x then two (lk ρ x) (sv.ev d cx ρ e) λo v=>(A9 G.res op o v).map λm=>.next ((x,m)::ρ)else none) (λ_ _ _ _ _=>none) (λtarget iter body nw _=>bif ak nw then IM sv d cx ρ target iter body else none) (λ_ _ _ _ _=>none) (λt _ nw _=>bif ak nw then(sv.tr d cx ρ t).bind λc=>bif c then none else some (.next ρ)else none) (λt b o _=>(bif ak o then(IS b).bind λq=>GQ sv d cx ρ t q.1 q.2 else none).or ((sv.tr d cx ρ t).bind λc=>bif c then sv.exs d cx ρ b else sv.exs d cx ρ o)) (λ_ _ _=>none) (λ_ _ _=>none) (λ_ _ _=>none) (λ_ _ _=>none) (λ_ _ _ _ _=>none) (λ_ _ _ _ _=>none) (λ_ _ _=>none) (λ_ _=>none) (λ_ _ _ _=>none) (λ_ _=>none) (λ_ _=>none) (λ_ _=>none) (λ_=>none) (λ_=>none) (λ_=>none)
noncomputable def w_(G:fj)(sv:Sv)(d:Nat)(cx:Cx):List Stmt->au->Option fP
 |[],ρ=>some (.next ρ)|st::r,ρ=>(H' G sv d cx ρ st).bind λf=>f.casesOn (w_ G sv d cx r) λm=>some (.ret m)
def Cf(G:fj)(sv:Sv)(d:Nat)(f:Addr)(ms:List XV)(ks:List (Str×XV)):Option XV:=(G.uU d f ms ks).or (acQ G.fn sv.exs d f ms ks)
def step(G:fj)(sv:Sv):Sv:=⟨evE G sv,evT G sv,Cf G sv,λd cx ρ l=>w_ G sv d cx l ρ⟩
noncomputable def sv0:Sv:=⟨λ_ _ _ _=>none,λ_ _ _ _=>none,λ_ _ _ _=>none,λ_ _ _ _=>none⟩
noncomputable def run(G:fj):Nat->Sv
 |0=>sv0|n+1=>step G (run G n)
noncomputable def g9(W:aE)(uU:Nat->Nat->List XV->List (Str×XV)->Option XV):Prop:=∀d f ms ks m,uU d f ms ks=some m->∀{A:Around}{vol:List Addr}{s:Shared}{vs:List Value}{kws:List (Str×Value)},Inv W vol s->ψ A d->Ξ W (vis vol s.heap) ms vs->aY W (vis vol s.heap) ks kws->aM W A vol (.call (.ref f) ⟨vs,kws⟩) m s
structure bM(W:aE)(G:fj):Prop where
 gl:Ah W ⟨G.gl⟩at_:oB W G.at_
 keep:u9 W G.keep
 Be:∀C x f t,lF G.at_ C x=some (.μ f t)->keepIn W.K (.ref f)=true
 fn:∀f ft,G.fn f=some ft->fq W f ft
 is:RJ W G.H_ G.iS G.wrap
 has:∀C∈G.has,iB W C/\rK W C
 nm:∀a n,iL G.nm a=some n->jY W a n
 col:G.col=W.S.colon
 res:G.res=W.S.res
 uU:g9 W G.uU
section
variable{W:aE}{G:fj}{A:Around}{vol own:List Addr}{s:Shared}{d:Nat}{env:Env}{cx:Cx}{ρ:au}{sv:Sv}
theorem bX{α:Type}{ms:List α}{o:α}(e:cQ ms=some o):ms=[o]:=by cases ms with
 |nil=>exact ζ e|cons x r=>exact Φ (P:=λo=>x::r=[o]) e λc=>congrArg (x::·) (nil_of c)
theorem mf{α:Type}{ms:List α}{p:α×α}(e:jt ms=some p):ms=[p.1,p.2]:=by cases ms with
 |nil=>exact ζ e|cons x r=>exact χ (P:=λp:α×α=>x::r=[p.1,p.2]) e λc h=>congrArg (x::·) (bX h)
@[elab_as_elim]theorem iE{h:Heap}{o:XV}{ms:List XV}{vs:List Value}{P:List Value->Prop}(e:cQ ms=some o)(v:Ξ W h ms vs)(k:∀u,ω W h o u->P [u]):P vs:=by
 cases bX e
 exact am v λu vs h1 h2=>bz h2 (k u h1)
@[elab_as_elim]theorem gj{h:Heap}{p:XV×XV}{ms:List XV}{vs:List Value}{P:List Value->Prop}(e:jt ms=some p)(v:Ξ W h ms vs)(k:∀u w,ω W h p.1 u->ω W h p.2 w->P [u,w]):P vs:=by
 cases mf e
 exact am v λu vs h1 h2=>am h2 λw vs h2 h3=>bz h3 (k u w h1 h2)
theorem DP{y:Tx}{l:List Nat}(h:wL y l=true):aF y=some l:=by cases e:aF y with
 |none=>exact υ (a8 (C:=λo:Option (List Nat)=>(o.elim false λz=>dk z l)=true) e.symm h)|some z=>exact congrArg some (dY (a8 (C:=λo:Option (List Nat)=>(o.elim false λz=>dk z l)=true) e.symm h))
theorem Xp(GO:bM W G)(ok:al W sv){k:Bk}{ms:List XV}{m:XV}(e:bcX G (λd f a=>sv.call d f a []) d k ms=some m)(I:Inv W vol s)(R:ψ A (d+1)){vs:List Value}(hv:Ξ W (vis vol s.heap) ms vs):ο W A vol (call (.builtin k.name) vs []) m s:=by cases k with
 |len=>exact O e λo e1 e=>iE e1 hv λu h=>Gq GO.at_ ok e I R h|sorted=>exact O e λo e1 e=>iE e1 hv λu h=>χ (P:=λm=>ο W A vol (call (.builtin "sorted") [u] []) m s) e λl e2=>wf e2 I R h|isinstance=>exact O e λp e1 e=>gj e1 hv λu w h1 h2=>χ (P:=λm=>ο W A vol (call (.builtin "isinstance") [u,w] []) m s) e λl e2=>wg GO.is e2 I h1 h2|sum=>exact O e λo e1 e=>iE e1 hv λu h=>χ (P:=λm=>ο W A vol (call (.builtin "sum") [u] []) m s) e λl e2=>O e2 λy e3 e4=>GD e4 I R (cX e3 h)|hasattr=>exact O e λp e1 e=>gj e1 hv λu w h1 h2=>Φ (P:=λm=>ο W A vol (call (.builtin "hasattr") [u,w] []) m s) e λc=>GK GO.has c I R h1 h2
theorem DQ{n:Nat}(I:Inv W vol s){u:Value}(h:ω W (vis vol s.heap) (.int (.ofNat n)) u):ο W A vol (call (.type "range") [u] []) (.Q7 n) s:=i6 h λt E Q k=>call_range_1 (k _ _ ⟨_,_,_,_,rfl,dA (s:=s) I rfl⟩ (Step.push s _))
theorem Xq(GO:bM W G)(ok:al W sv){k:Tk}{ms:List XV}{m:XV}(e:tcX G (λd f a=>sv.call d f a []) d k ms=some m)(I:Inv W vol s)(R:ψ A (d+1)){vs:List Value}(hv:Ξ W (vis vol s.heap) ms vs):ο W A vol (call (.type k.name) vs []) m s:=by
 refine O e λo e1 e=>iE e1 hv λu h=>?_
 cases k with
 |str=>exact Gu GO.at_ ok e I R h|bytes=>exact wc e I R h|int=>exact DF e I h|type=>exact zp e I h|range=>exact O e λn e1 e=>Φ (P:=λm=>ο W A vol (call (.type "range") [u] []) m s) e λc=>DQ I (dL (P:=λu=>ω W (vis vol s.heap) (.int (.ofNat n)) u) e1 h λt=>lC)|_=>exact ζ e
theorem aA{x y:Str}(h:Fast.sEq x y=true):x=y:=Fast.sEq_iff.mp h
theorem b9.of{o o':XV}{x:Str}{ms:List XV}{m:XV}(h:∀{h:Heap}{v:Value},ω W h o v->ω W h o' v)(k:b9 W o' x ms m):b9 W o x ms m:=λI R ho=>k I R (h ho)
theorem b9.ofM{o:XV}{x:Str}{ms ZE:List XV}{m:XV}(h:∀{h:Heap}{vs:List Value},Ξ W h ms vs->Ξ W h ZE vs)(k:b9 W o x ZE m):b9 W o x ms m:=λI R ho=>(k I R ho).imp λid y=>⟨y.1,λs' vs st hv=>y.2 s' vs st (h hv)⟩
theorem hW{h:Heap}{a:XV}{v:Value}{y:Tx}(e:dK a=some y)(x:ω W h a v):ω W h (.str y) v:=d9 (P:=λv=>ω W h (.str y) v) e x λt=>⟨t,rfl⟩
theorem Cg{h:Heap}{a:XV}{v:Value}{y:Bx}(e:mA a=some y)(x:ω W h a v):ω W h (.bytes y) v:=eM (P:=λv=>ω W h (.bytes y) v) e x λt=>⟨t,rfl⟩
theorem vz{h:Heap}{a:XV}{v:Value}{y:Nat}(e:mB a=some y)(x:ω W h a v):ω W h (.int (.ofNat y)) v:=dL (P:=λv=>ω W h (.int (.ofNat y)) v) e x λt=>lC
theorem fh{h:Heap}{o o':XV}{ms:List XV}{vs:List Value}(e:cQ ms=some o)(k:∀{h:Heap}{v:Value},ω W h o v->ω W h o' v)(hv:Ξ W h ms vs):Ξ W h [o'] vs:=iE (P:=λvs=>Ξ W h [o'] vs) e hv λu h=>Δ (k h) aC
theorem xF{h:Heap}{p:XV×XV}{o o':XV}{ms:List XV}{vs:List Value}(e:jt ms=some p)(k:∀{h:Heap}{v:Value},ω W h p.1 v->ω W h o v)(k':∀{h:Heap}{v:Value},ω W h p.2 v->ω W h o' v)(hv:Ξ W h ms vs):Ξ W h [o,o'] vs:=gj (P:=λvs=>Ξ W h [o,o'] vs) e hv λu w h1 h2=>Δ (k h1) (Δ (k' h2) aC)
theorem Ci{l:List Nat}{c:Nat}(e:one l=some c):l=[c]:=by cases l with
 |nil=>exact ζ e|cons x r=>exact Φ (P:=λc=>x::r=[c]) e λq=>congrArg (x::·) (nil_of q)
theorem zt{s:Tx}:IZ s=true->∃a r,Tx.den W.S s=a++40::r/\40∉a:=by cases s with
 |nil=>exact υ|cons p r=>cases p with
  |lit _=>exact υ|sym i=>exact λc=>nil_of c▸Dw i
theorem DR{s:Tx}{x:Str}{ms:List XV}{m:XV}(e:I2 s x ms=some m):b9 W (.str s) x ms m:=by
 refine af e (λe=>ξ e λc e=>η c λc n=>aA c▸O e λl e1 e=>Φ e λc=>η c λc1 c2=>nil_of n▸W_ e1 c1 c2) λe=>af e (λe=>ξ e λc e=>aA c▸π e λl ts e1 e2 e=>Φ e λc=>O e2 λy e3 e4=>O e3 λo e5 e6=>b9.ofM (fh e5 (cX e6)) (ac0 e1 e4 c)) λe=>af e (λe=>ξ e λc e=>aA c▸π e λl c e1 e2 e=>ξ e λq e=>χ e λi e7=>O e2 λy e3 e4=>O e3 λz e5 e6=>O e5 λo e8 e9=>b9.ofM (fh e8 (hW e9)) (Xb e1 q (Ci e4▸e6) e7)) λe=>ξ e λc e=>η c λc q=>aA c▸η q λq q2=>?_
 cases h1:(cQ ms).bind dK with
 |none=>exact υ (a8 (C:=λo:Option Tx=>o.elim false (wL · [40])=true) h1.symm q)|some y=>
  have q:=DP (a8 (C:=λo:Option Tx=>o.elim false (wL · [40])=true) h1.symm q)
  exact O h1 λo e5 e6=>b9.ofM (fh e5 (hW e6)) (db e (λ_ e=>Φ (P:=λm=>b9 W (.str s) (Str.ofString "split") [.str y] m) e λc=>B_ q (ble q2) (zt c)) λl e1 e=>Φ (P:=λm=>b9 W (.str s) (Str.ofString "split") [.str y] m) e λc=>B_ q (ble q2) (Dx e1 c))
theorem DS{s:Bx}{x:Str}{ms:List XV}{m:XV}(e:I5 s x ms=some m):b9 W (.bytes s) x ms m:=af e (λe=>ξ e λc e=>η c λc n=>aA c▸O e λl e1 e=>Φ e λc=>nil_of n▸GG e1 c) λe=>af e (λe=>ξ e λc e=>aA c▸π e λl ts e1 e2 e=>Φ e λc=>O e2 λy e3 e4=>O e3 λo e5 e6=>b9.ofM (fh e5 (cX e6)) (Xe e1 e4 c)) λe=>ξ e λc e=>aA c▸π e λl y e1 e2 e=>O e λn e7 e=>Φ e λc=>O e2 λz e3 e4=>O e3 λo e5 e6=>b9.ofM (fh e5 (Cg e6)) (GF e1 e7 e4 c)
theorem Xr{o:XV}{x:Str}{ms:List XV}{m:XV}(e:mbX o x ms=some m):b9 W o x ms m:=af e (λe=>O e λs e1 e=>b9.of (hW e1) (DR e)) λe=>af e (λe=>O e λs e1 e=>b9.of (Cg e1) (DS e)) λe=>af e (λe=>π e λn p e1 e2 e=>ξ e λc e=>η c λc n=>aA c▸π e λk y e3 e4 e=>Φ (P:=λm=>b9 W o (Str.ofString "to_bytes") ms m) e λc=>η c λc1 c2=>O e4 λz e5 e6=>b9.of (vz e1) (b9.ofM (xF e2 (vz (e3.trans (congrArg some (Nat.eq_of_beq_eq_true c1)))) (hW e5)) (DK n e6 c2))) λe=>π e λds p e1 e2 e=>ξ e λc e=>aA c▸χ e λl e3=>O e3 λz e5 e6=>b9.of (λh=>(IN e1 h).1) (b9.ofM (xF e2 (hW e5) id) (aeW e6))
theorem Cj(GO:bM W G)(ok:al W sv):E8 W (biX G sv):=⟨λ{o x ms m}e{A vol s vo d}I R ho=>Xr e I R ho,λ{d k ms m}e{A vol s vs}I R hv=>Xp GO ok e I R hv,λ{d k ms m}e{A vol s vs}I R hv=>Xq GO ok e I R hv⟩
theorem DT{op:Operator}:I6 op=true->op=.Mod:=by cases op<;>first|exact λ_=>rfl|exact υ
theorem DU{op:Operator}:I7 op=true->op=.Sub:=by cases op<;>first|exact λ_=>rfl|exact υ
theorem Xu{h:Heap}{a:XV}{v:Value}{p}(e:aaM a=some p)(x:ω W h a v):ω W h (.dj p.1 p.2) v:=by cases a with
 |dj k l=>exact θ (P:=λp:Nat×List Nat=>ω W h (.dj p.1 p.2) v) e x|_=>exact ζ e
theorem DV(I:Inv W vol s){op:Operator}{a b m:XV}{va vb:Value}(e:Bc W.S.res op a b=some m)(ha:ω W (vis vol s.heap) a va)(hb:ω W (vis vol s.heap) b vb):ο W A vol (binaryOp op va vb) m s:=af e (λe=>ξ e λc e=>DT c▸O e λF e1 e=>Xj e (hW e1 ha) hb) λe=>af e (λe=>ξ e λc e=>DU c▸π e λp n e1 e2 e=>Φ (P:=λm=>ο W A vol (binaryOp .Sub va vb) m s) e λc=>xh (P:=λva=>ο W A vol (binaryOp .Sub va vb) (.dj (p.1-n) p.2) s) (Xu e1 ha) λt=>dL (P:=λvb=>ο W A vol (binaryOp .Sub (.int ((p.1+aj W.S p.2:Nat):Int) t) vb) (.dj (p.1-n) p.2) s) e2 hb λu=>Iw ((Int.ofNat_sub (Nat.le_trans (ble c) (Nat.le_add_right _ _))).symm.trans (congrArg Nat.cast (Nat.sub_add_comm (ble c)))) λE Q q=>PyProof.Rows.sub_int q) λe=>DH I e ha hb
theorem GS(ok:al W sv)(R:ψ A d){l r:Expr}{op pos}{a b m:XV}(X:az W own vol cx ρ env s)(e1:sv.ev d cx ρ l=some a)(e2:sv.ev d cx ρ r=some b)(e3:Bc W.S.res op a b=some m):ο W A vol (eval (.BinOp l op r pos) env) m s:=λE Q k=>wpAny_BinOp (ok.ev e1 X R E _ λu s1 h1 k1=>ok.ev e2 (X.step k1) R E _ λv s2 h2 k2=>DV ((X.inv.step k1).step k2) e3 (h1.step k2) h2 E Q λw s3 h3 k3=>k w s3 h3 ((k1.trans k2).trans k3))
theorem adc(ok:al W sv)(R:ψ A d){value slice:Expr}{pos:Pos}{m:XV}(X:az W own vol cx ρ env s)(e:Ce (sv.ev d cx ρ) value slice=some m):ο W A vol (eval (.Subscript value slice pos) env) m s:=by
 refine af e (λe=>O e λo e1 e=>O e λds e2 e=>O e λl e3 e4=>O e3 λy e5 e6=>O e5 λi e7 e8 E Q k=>Subscript_ (ok.ev e1 X R E _ λvo s1 h1 k1=>ok.ev e7 (X.step k1) R E _ λvi s2 h2 k2=>?_)) λe=>aeM ok R X e
 have h3:=(IN e2 (h1.step k2)).1
 obtain⟨a,ob,τ,rfl,q1,_,q3,_⟩:=nL.mp h3
 exact dt slot_dict_getitem.lookup ⟨_,(ι.mp q1).1,q3.elim λ_=>Exists.rec λ_ x=>x.1.1⟩ (rY e6 e4 h3 (hW e8 h2) E Q λv s3 h3 k3=>k v s3 h3 ((k1.trans k2).trans k3))
theorem Xv(GO:bM W G)(ok:al W sv)(R:ψ A d){value:Expr}{x:Str}{pos:Pos}{o m:XV}(X:az W own vol cx ρ env s)(h0:gh value=false)(e1:sv.ev d cx ρ value=some o)(e2:Cd G (λd f a=>sv.call d f a []) d o x=some m):ο W A vol (eval (.Attribute value x pos) env) m s:=by
 refine af e2 (λe2=>ξ e2 λc e2=>O e2 λa e3 e4=>aA c▸χ (P:=λm=>ο W A vol (eval (.Attribute value _ pos) env) m s) e4 λn e5 E Q k=>?_) λe2=>acP GO.at_ ok R X h0 e1 e2
 refine BJ.mK (arm_eval_Attribute ..) ?_
 rw[gv h0]
 refine wpAny_bind (ok.ev e1 X R E _ λvo s1 h1 k1=>wpAny_bind (wpAny_standAt (wpAny_bind (wpAny_holding ?_))))
 cases fR e3 h1
 exact uo (GO.nm _ _ e5) (X.inv.step k1) E _ λv s2 h2 k2=>wpAny_bind (wpAny_letTemporaryGo (wpAny_pure (k v s2 h2 (k1.trans k2))))
theorem j0{e:Expr}{q:Expr×Str×Pos}:sP e=some q->e=.Attribute q.1 q.2.1 q.2.2:=by cases e with
 |Attribute o n p=>exact λh=>θ (P:=λq:Expr×Str×Pos=>Expr.Attribute o n p=.Attribute q.1 q.2.1 q.2.2) h rfl|_=>exact ζ
theorem Xw(GO:bM W G)(ok:al W sv){e:Expr}{m:XV}(h:evE G sv d cx ρ e=some m)(X:az W own vol cx ρ env s)(R:ψ A d):ο W A vol (eval e env) m s:=by cases e with
 |Constant c k p=>exact WW h|Name x p=>exact cj h λc h=>acM GO.gl (Bool.or_eq_false_iff.mp c).1 (Bool.or_eq_false_iff.mp c).2 h X|BinOp l op r p=>exact π h λa b e1 e2 h=>GS ok R X e1 e2 (GO.res▸h)|IfExp t b o p=>exact O h λc e1 h=>WX ok R X e1 h|UnaryOp op x p=>exact O h λa e1 h=>WY ok R X e1 h|Tuple es n p=>exact ξ h λc h=>χ h λms e1=>WZ ok R X c e1|List es p=>exact ξ h λc h=>χ h λms e1=>acO ok R X c e1|Compare l iY rs p=>exact χ h λb e=>O e λa e1 e2=>(ta ok R X e1 (GO.col▸e2)).1|BoolOp op es p=>exact F_ ok R X h|Subscript v i p=>exact adc ok R X h|Attribute v x p=>exact cj h λc h=>O h λo e1 h=>Xv GO ok R X c e1 h|Call f es kws pos=>
  exact af h (λh=>O h λq hq h=>cj h λc h=>O h λv e1 h=>π h λms ks e2 e3 h=>tG hq▸y_ GO.keep (Cj GO ok) ok R X c e1 e2 e3 h) λh=>O h λq hq h=>ξ h λc h=>π h λv ms e1 e2 h=>η c λc0 c=>η c λc1 c=>η c λc2 c=>η c λc3 c4=>j0 hq▸nil_of c0▸Gg GO.at_ (Cj GO ok) GO.Be ok R X (aP c1) c2 c3 c4 e1 e2 h|ListComp elt gens sc p=>exact IL (q6 ok) ok R X h|Dict ks vs p=>exact ac1 ok R X h|_=>exact ζ h
theorem isTrue_plain{e:Expr}{t:Sem Value}:vy e=true->isTrue e env t=(do
 let v<-t
 standAt e.pos
 holding [v] (truthy v)):=by cases e<;>first|exact λ_=>rfl|exact υ
theorem Xx(GO:bM W G)(ok:al W sv){e:Expr}{b:Bool}(h:evT G sv d cx ρ e=some b)(X:az W own vol cx ρ env s)(R:ψ A d):eY W A (isTrue e env (eval e env)) b s:=by
 refine af h (λh=>ξ h λc h=>O h λv e1 h E Q k=>BJ.mK (isTrue_plain c) (wpAny_bind (ok.ev e1 X R E _ λu s1 h1 k1=>wpAny_bind (wpAny_standAt (wpAny_holding (je h h1 E _ λtk=>k _ (k1.trans .tok))))))) λh=>?_
 cases e with
 |Compare l iY rs p=>exact O h λa e1 h=>(ta ok R X e1 (GO.col▸h)).2|BoolOp op es p=>exact F' ok R X h|UnaryOp op x p=>cases op with
  |Not=>exact χ (P:=λb=>eY W A (isTrue (.UnaryOp .Not x p) env (eval (.UnaryOp .Not x p) env)) b s) h λc e1=>aeH ok R X e1|_=>exact ζ h
 |_=>exact ζ h
end
section
variable{W:aE}{G:fj}{A:Around}{vol own:List Addr}{s:Shared}{d:Nat}{env:Env}{cx:Cx}{ρ:au}{sv:Sv}
theorem zu{k:NameKind}:hK k=true->k=.local:=by cases k<;>first|exact λ_=>rfl|exact υ
theorem et{x:Str}(h:fg cx x=true):lk cx.names x=some .local:=by cases e:lk cx.names x with
 |none=>exact υ (a8 (C:=λo:Option NameKind=>o.elim false hK=true) e.symm h)|some k=>exact congrArg some (zu (a8 (C:=λo:Option NameKind=>o.elim false hK=true) e.symm h))
theorem tH{e:Expr}{q:List Expr×Nat×Pos}:wM e=some q->e=.Tuple q.1 q.2.1 q.2.2:=by cases e with
 |Tuple o n p=>exact λh=>θ (P:=λq:List Expr×Nat×Pos=>Expr.Tuple o n p=.Tuple q.1 q.2.1 q.2.2) h rfl|_=>exact ζ
theorem DW{e:Expr}:wM e=none->kp e=false:=by cases e with
 |Tuple o n p=>exact λh=>nomatch h|_=>exact λ_=>rfl
theorem tI(GO:bM W G)(ok:al W sv){ts:List Expr}{e:Expr}{pos:Pos}{r:fP}(h:Bd G sv d cx ρ ts e=some r)(X:az W own vol cx ρ env s)(R:ψ A d):Runs W A own vol cx env (exec (.Assign ts e pos) env) r s:=by
 refine O h λt ht h=>bX ht▸af h (λh=>O h λx hx h=>ξ h λc h=>(cz hx).elim λp z=>z▸χ h λm e1=>af e1 (λe1=>O e1 λq hl e1=>(Go hl).elim λp z=>z▸ug (q6 ok) ok R X c e1) λe1=>cj e1 λc2 e1=>Gj ok R X c2 c e1) λh=>O h λq hq h=>tH hq▸db h (λhn h=>O h λm e1 h=>χ h λaV e2=>Dt ok R X (DW hn) e1 e2) λv hv h=>ξ h λc h=>O h λm e1 h=>χ h λaV e2=>η c λc1 c2=>tH hv▸zh ok R X c1 c2 e1 e2
theorem hX(GO:bM W G)(ok:al W sv){st:Stmt}{r:fP}(h:H' G sv d cx ρ st=some r)(X:az W own vol cx ρ env s)(R:ψ A d):Runs W A own vol cx env (exec st env) r s:=by cases st with
 |Return e p=>cases e with
  |none=>exact θ h (Dk X)|some e=>exact χ h λm e1=>Gi ok R X e1
 |Assign ts e p=>exact tI GO ok h X R|AugAssign t op e p=>exact O h λx hx h=>ξ h λc h=>π h λo v e1 e2 h=>(cz hx).elim λp z=>z▸χ h λm e3=>ac3 ok R X (et c) e1 e2 (GO.res▸e3)|If t b o p=>
  refine af h (λh=>ξ h λcn h=>O h λq hq h=>ξ h λc h=>π h λa bb e1 e2 h=>ξ h λc2 h=>(DG hq).elim λp1=>Exists.rec λp2 z=>nil_of cn▸z▸χ h λcc e4=>O e1 λoo e0 e1=>O e2 λv e3 e2=>?_) λh=>O h λc e1 h=>rIf ok R X e1 h
  exact Xf ok R X (et c) e0 e3 e1 e2 c2 e4|For t i b o p=>exact ξ h λc h=>nil_of c▸aeV ok R X h|While t b o p=>exact ξ h λc h=>nil_of c▸O h λq e1 h=>cj h λc h=>θ h (GB ok R X (e1.trans (congrArg some c)))|_=>exact ζ h
theorem q7(GO:bM W G)(ok:al W sv)(R:ψ A d){l:List Stmt}:∀{ρ:au}{r:fP}{s:Shared},w_ G sv d cx l ρ=some r->az W own vol cx ρ env s->Runs W A own vol cx env (execs l env) r s:=by induction l with
 |nil=>exact λh X=>θ h (RE X)|cons st l ih=>
  intro ρ r s h X
  refine O h λr1 e1 h=>?_
  have h1:=hX GO ok e1 X R
  cases r1 with
  |next aV=>exact iK h1 λs' X'=>ih h X'|ret m=>exact θ h (nH h1)
theorem zv(GO:bM W G)(ok:al W sv){f:Addr}{ms:List XV}{ks:List (Str×XV)}{m:XV}(h:Cf G sv d f ms ks=some m)(I:Inv W vol s)(R:ψ A d){vs:List Value}{kws:List (Str×Value)}(hv:Ξ W (vis vol s.heap) ms vs)(hk:aY W (vis vol s.heap) ks kws):aM W A vol (.call (.ref f) ⟨vs,kws⟩) m s:=by
 refine af h (λq=>GO.uU _ _ _ _ _ q I R hv hk) λh=>?_
 cases d with
 |zero=>exact ζ h|succ d=>exact O h λft hf h=>O h λρ e1 h=>ξ h λc h=>χ (P:=λm=>aM W A vol (.call (.ref f) ⟨vs,kws⟩) m s) h λr e2=>nI I R (GO.fn _ _ hf) e1 c hv hk λX R=>ok.exs e2 X R
theorem GU(GO:bM W G)(ok:al W sv):al W (step G sv)where
 ev:=λ{d cx ρ e m}h{A own vol env s}X R=>Xw GO ok h X R
 tr:=λ{d cx ρ e b}h{A own vol env s}X R=>Xx GO ok h X R
 call:=λ{d f ms kw m}h{A vol s vs kws}I R hv hk=>zv GO ok h I R hv hk
 exs:=λ{d cx ρ l r}h{A own vol env s}X R E Q k=>q7 GO ok R h X E Q k
theorem Xy:al W sv0 where
 ev:=λ{d cx ρ e m}h=>ζ h
 tr:=λ{d cx ρ e b}h=>ζ h
 call:=λ{d f ms kw m}h=>ζ h
 exs:=λ{d cx ρ l r}h=>ζ h
theorem nx(GO:bM W G)(n:Nat):al W (run G n):=by induction n with
 |zero=>exact Xy|succ n ih=>exact GU GO ih
end
structure mh(W:aE)(C:Addr):Prop where
 sp:findIn W.K (.ref C) "__setattr__"=some (some (.builtin "object.__setattr__"))pl:plainOver W.K C=true
 hd:(clsIn W.K C).any (·.hasDict)=true
section
variable{W:aE}{A:Around}{vol own:List Addr}{s:Shared}{d:Nat}{env:Env}{cx:Cx}{ρ:au}{sv:Sv}
theorem nS{P:Params}{C:List DictEntry->List (Str×Value)->Prop}(h0:C [] [])(h1:∀a es b τ,(a.hash=PyData.keyHash P b.1/\(∃t,a.key=.str b.1 t)/\a.val=b.2)->dq P es τ->C es τ->C (a::es) (b::τ)){es:List DictEntry}:∀{τ:List (Str×Value)},dq P es τ->C es τ:=by induction es with
 |nil=>
  intro τ x
  cases τ with
  |nil=>exact h0|cons _ _=>exact x.elim
 |cons a es ih=>
  intro τ x
  cases τ with
  |nil=>exact x.elim|cons b τ=>exact h1 a es b τ x.1 x.2 (ih x.2)
theorem DX{P:Params}{e:DictEntry}{p:Str×Value}{es:List DictEntry}{τ:List (Str×Value)}(x:dq P es τ)(h:e.hash=PyData.keyHash P p.1/\(∃t,e.key=.str p.1 t)/\e.val=p.2):dq P (es++[e]) (τ++[p]):=nS (C:=λes τ=>dq P (es++[e]) (τ++[p])) ⟨h,trivial⟩ (λa es b τ h x i=>⟨h,i⟩) x
theorem DY{P:Params}{es:List DictEntry}{τ:List (Str×Value)}(x:dq P es τ):es.length=τ.length:=nS (C:=λes τ=>es.length=τ.length) rfl (λa es b τ _ _ i=>congrArg (·+1) i) x
theorem qj{P:Params}{x:Str}{es:List DictEntry}{τ:List (Str×Value)}(h:dq P es τ):eN τ x=none->∀e∈es,e.key.isStr x=false/\e.refKey=false:=nS (C:=λes τ=>eN τ x=none->∀e∈es,e.key.isStr x=false/\e.refKey=false) (λ_ e m=>nomatch m) (λa es b τ h _ i q=>by
    have q:(bif Fast.sEq b.1 x then some b.2 else eN τ x)=none:=q
    cases c:Fast.sEq b.1 x with
|true=>exact nomatch(a8 (C:=λc=>(bif c then some b.2 else eN τ x)=none) c.symm q)|false=>
      refine aq (h.2.1.elim λt hk=>⟨?_,?_⟩) (i (a8 (C:=λc=>(bif c then some b.2 else eN τ x)=none) c.symm q))
      ·exact(congrArg (·.isStr x) hk).trans (beq_eq_false_iff_ne.mpr λz=>Bool.noConfusion (c.symm.trans (Fast.sEq_iff.mpr z)))
      · unfold DictEntry.refKey
        rw[hk]) h
theorem GV{P:Params}{name:Str}{v:Value}{t:Tok}{od:Obj}{τ:List (Str×Value)}(D:dc P od τ)(hn:eN τ name=none)(hod:od.isFreed=false):dc P (od.putName name (PyData.keyHash P name) (.str name t) v) (τ++[(name,v)])/\(od.putName name (PyData.keyHash P name) (.str name t) v).isFreed=false:=by
 obtain⟨hc,es,n,hd,hE⟩:=D
 obtain⟨c,dd,da,sl⟩:=od
 cases hc
 cases hd
 have hf:es.findIdx? (·.key.isStr name)=none:=Array.findIdx?_eq_none_iff.mpr λe m=>(qj hE hn e (Array.mem_toList_iff.mpr m)).1
 rw[Obj.putName_eq]
 unfold Obj.putNameByArray
 dsimp only
 rw[hf]
 exact⟨⟨rfl,_,_,rfl,(Array.toList_push (xs:=es) (x:=⟨PyData.keyHash P name,.str name t,v⟩)).symm▸DX (e:=⟨PyData.keyHash P name,.str name t,v⟩) (p:=(name,v)) hE ⟨rfl,⟨t,rfl⟩,rfl⟩⟩,rfl⟩
theorem zw{P:Params}{od:Obj}{τ:List (Str×Value)}(D:dc P od τ):od.isFreed=false:=D.2.elim λes=>Exists.rec λn y=>by
 obtain⟨c,dd,da,sl⟩:=od
 cases y.1
 rfl
theorem DZ{x C dx:Addr}{od:Obj}{τ:List (Str×Value)}{name:Str}{v:Value}{E:Value->Shared->Prop}{Q:Unit->Shared->Prop}(X:W.K.In s.heap)(SF:mh W C)(ht:takerIn W.K C name=some none)(I:InstAt s.heap x (instObj C dx) C (some od))(D:dc W.w.params od τ)(hn:eN τ name=none)(hl:τ.length<=100)(k:∀h' ZF tk,h'.get? dx=some ZF->dc W.w.params ZF (τ++[(name,v)])->Heap.SameBut dx s.heap h'->Q () {s with heap:=h',toks:=tk}):wpAny (Md W) A (setAttr (.ref x) name v) Q E s:=by
 have yU:s.heap.get? dx=some od:=I.dict
 obtain⟨cd,hc,hd'⟩:=any_some SF.hd
 obtain⟨p1,p2⟩:=GV (v:=v) (t:=s.toks+1) D hn (zw D)
 refine set_plain X I SF.sp (osa_open (s:={s with toks:=s.toks+1}) X I SF.pl ht λb=>wpAny_bind (wpAny_pure (wpAny_bind (wpAny_bind (wpAny_loadPart I.at_ (wpAny_bind ((looks_clsIn (h:=s.heap) X hc).here (s:={s with toks:=s.toks+1}) ?_)))))))
 rw[hd']
 refine wpAny_pure (a:=some dx) (wpAny_bind (wpAny_pure (wpAny_bind (wpAny_bind (wpAny_bind (wpAny_askSetting (wpAny_pure (wpAny_bind (wpAny_mkText (wpAny_bind (wpAny_loadPart yU ?_)))))))))))
 obtain⟨RL,es,n,aeZ,hE⟩:=D
 have c:aRefKeyMayBeTheName name es=false:=(aRefKeyMayBeTheName_at name es).trans (Bool.and_eq_false_iff.mpr (.inr (Array.any_toList.symm.trans (List.any_eq_false.mpr λe m z=>Bool.noConfusion ((qj hE hn e m).2.symm.trans z)))))
 rw[aeZ]
 dsimp only
 rw[c]
 have hg:(s.heap.update dx (Obj.putName name (PyData.keyHash W.w.params name) (.str name (s.toks+1)) v)).get? dx=some (od.putName name (PyData.keyHash W.w.params name) (.str name (s.toks+1)) v):=Heap.get?_update_self _ yU p2
 refine wpAny_updatePart yU (p1.2.elim λes'=>Exists.rec λn' y=>wpAny_bind (wpAny_lookBehind hg (y.1▸pastItsLine_dict ?_) (wpAny_pure (k _ _ _ hg p1 (Heap.SameBut.update ..)))))
 exact Nat.le_trans (Nat.le_of_eq (Array.length_toList.symm.trans ((DY y.2).trans List.length_append))) (Nat.le_trans (Nat.add_le_add_right hl 1) (sizeLine_eq▸by decide))
end
def xG(st:Stmt):Option (Str×Expr):=st.casesOn (λ_ _ _ _ _ _ _ _ _ _=>none) (λ_ _ _ _ _ _ _ _ _ _=>none) (λ_ _ _ _ _ _ _ _ _ _ _=>none) (λ_ _=>none) (λ_ _=>none) (λts e _=>((cQ ts).bind sP).bind λq=>(bA q.1).bind λx=>bif Fast.sEq x (Str.ofString "self")then some (q.2.1,e)else none) (λ_ _ _ _ _ _ _=>none) (λ_ _ _ _=>none) (λ_ _ _ _ _=>none) (λ_ _ _ _ _=>none) (λ_ _ _ _ _=>none) (λ_ _ _ _=>none) (λ_ _ _ _=>none) (λ_ _ _=>none) (λ_ _ _=>none) (λ_ _ _=>none) (λ_ _ _=>none) (λ_ _ _ _ _=>none) (λ_ _ _ _ _=>none) (λ_ _ _=>none) (λ_ _=>none) (λ_ _ _ _=>none) (λ_ _=>none) (λ_ _=>none) (λ_ _=>none) (λ_=>none) (λ_=>none) (λ_=>none)
def aaN(st:Stmt):Option Expr:=st.casesOn (λ_ _ _ _ _ _ _ _ _ _=>none) (λ_ _ _ _ _ _ _ _ _ _=>none) (λ_ _ _ _ _ _ _ _ _ _ _=>none) (λ_ _=>none) (λ_ _=>none) (λ_ _ _=>none) (λ_ _ _ _ _ _ _=>none) (λ_ _ _ _=>none) (λ_ _ _ _ _=>none) (λ_ _ _ _ _=>none) (λ_ _ _ _ _=>none) (λ_ _ _ _=>none) (λt _ o _=>bif ak o then some t else none) (λ_ _ _=>none) (λ_ _ _=>none) (λ_ _ _=>none) (λ_ _ _=>none) (λ_ _ _ _ _=>none) (λ_ _ _ _ _=>none) (λ_ _ _=>none) (λ_ _=>none) (λ_ _ _ _=>none) (λ_ _=>none) (λ_ _=>none) (λ_ _=>none) (λ_=>none) (λ_=>none) (λ_=>none)
theorem wh{st:Stmt}{q:Str×Expr}:xG st=some q->∃p p2 p3,st=.Assign [.Attribute (.Name (Str.ofString "self") p) q.1 p2] q.2 p3:=by cases st with
 |Assign ts e p=>exact λh=>O h λa ha h=>O h λx hx h=>Φ (P:=λq:Str×Expr=>∃p' p2 p3,Stmt.Assign ts e p=.Assign [.Attribute (.Name (Str.ofString "self") p') q.1 p2] q.2 p3) h λc=>O ha λt ht ha=>(cz hx).elim λp' z=>⟨p',a.2.2,p,congrArg (Stmt.Assign · e p) ((bX ht).trans (congrArg (λx=>[x]) ((j0 ha).trans (congrArg (Expr.Attribute · a.2.1 a.2.2) (z.trans (congrArg (Expr.Name · p') (aA c)))))))⟩|_=>exact ζ
theorem GW{st:Stmt}{t:Expr}:aaN st=some t->∃b p,st=.If t b [] p:=by cases st with
 |If t b o p=>exact λh=>Φ (P:=λt'=>∃b' p',Stmt.If t b o p=.If t' b' [] p') h λc=>⟨b,p,congrArg (Stmt.If t b · p) (nil_of c)⟩|_=>exact ζ
noncomputable def iO(sv:Sv)(take:Str->Bool)(d:Nat)(cx:Cx)(C:Addr)(ρ:au):List Stmt->List (Str×XV)->Option (List (Str×XV))
 |[],fs=>some fs|st::r,fs=>(xG st).elim ((aaN st).bind λt=>(sv.tr d cx ((Str.ofString "self",.obj C fs)::ρ) t).bind λc=>bif c then none else iO sv take d cx C ρ r fs) λq=>bif !i_ q.2&&(aZ (lk fs q.1)&&(Nat.ble fs.length 50&&take q.1))then(sv.ev d cx ρ q.2).bind λm=>iO sv take d cx C ρ r (fs++[(q.1,m)])else none
structure EP(W:aE)(own vol:List Addr)(cx:Cx)(ρ:au)(env:Env)(s:Shared)(a C dx:Addr)(fs:List (Str×XV)):Prop where
 st:az W own (own++dx::vol) cx ρ env s
 dn:dx∉own
 dv:dx∉vol
 H9:lk ρ (Str.ofString "self")=some (.ip (.ref a))/\lk cx.names (Str.ofString "self")=some .local
 cl:∀y c,env.cells.lookup y=some c->c≠dx
 obj:(vis (own++dx::vol) s.heap).get? a=some (instObj C dx)Ri:∃od τ,s.heap.get? dx=some od/\dc W.w.params od τ/\aY W (vis (own++dx::vol) s.heap) fs τ
section
variable{W:aE}{G:fj}{A:Around}{vol own:List Addr}{s:Shared}{d:Nat}{env:Env}{cx:Cx}{ρ:au}{sv:Sv}{a C dx:Addr}{fs:List (Str×XV)}
theorem nT{h:Heap}{P:List (Str×XV)->List (Str×Value)->Prop}(h0:P [] [])(h1:∀y m r v es,ω W h m v->aY W h r es->P r es->P ((y,m)::r) ((y,v)::es)){fs:List (Str×XV)}:∀{τ:List (Str×Value)},aY W h fs τ->P fs τ:=by induction fs with
 |nil=>exact λF=>(show _=[]from F)▸h0|cons p r ih=>exact λF=>F.elim λv=>Exists.rec λes y=>y.1▸h1 p.1 p.2 r v es y.2.1 y.2.2 (ih y.2.2)
theorem tJ{h:Heap}{n:Str}{m:XV}{v:Value}{fs:List (Str×XV)}{τ:List (Str×Value)}(F:aY W h fs τ)(hv:ω W h m v):aY W h (fs++[(n,m)]) (τ++[(n,v)]):=nT (P:=λfs τ=>aY W h (fs++[(n,m)]) (τ++[(n,v)])) (cy hv aL) (λy m r v es a _ i=>cy a i) F
theorem D0{h:Heap}{fs:List (Str×XV)}{τ:List (Str×Value)}(F:aY W h fs τ):τ.length=fs.length:=nT (P:=λfs τ=>τ.length=fs.length) rfl (λy m r v es _ _ i=>congrArg (·+1) i) F
theorem EP.step{s':Shared}(x:EP W own vol cx ρ env s a C dx fs)(k:Step s s'):EP W own vol cx ρ env s' a C dx fs:=⟨x.st.step k,x.dn,x.dv,x.H9,x.cl,(ba k.keep) _ _ x.obj,x.Ri.imp λod=>Exists.imp λτ y=>⟨k.keep _ _ y.1,y.2.1,y.2.2.step k⟩⟩
structure g_(dx:Addr)(s s':Shared):Prop where
 keep:∀b o,b≠dx->s.heap.get? b=some o->s'.heap.get? b=some o
 os:s'.os=s.os
 gens:s'.gens=s.gens
theorem g_.of{s s':Shared}(k:Step s s'):g_ dx s s':=⟨λb o _ e=>k.keep b o e,k.os,k.gens⟩
theorem g_.trans{s s' dz:Shared}(a:g_ dx s s')(b:g_ dx s' dz):g_ dx s dz:=⟨λx o n e=>b.keep x o n (a.keep x o n e),b.os.trans a.os,b.gens.trans a.gens⟩
theorem nU(ok:al W sv)(SF:mh W C){take:Str->Bool}(TK:∀n,take n=true->takerIn W.K C n=some none)(R:ψ A d){l:List Stmt}:∀{fs Y1:List (Str×XV)}{s:Shared},iO sv take d cx C ρ l fs=some Y1->EP W own vol cx ρ env s a C dx fs->∀(E:Value->Shared->Prop)(Q:Flow->Shared->Prop),(∀s',EP W own vol cx ρ env s' a C dx Y1->g_ dx s s'->Q .next s')->wpAny (Md W) A (execs l env) Q E s:=by
  have hdm:dx∈own++dx::vol:=List.mem_append_right _ (.head _)
  induction l with
|nil=>exact λe x E Q k=>θ (P:=λY1=>(∀s',EP W own vol cx ρ env s' a C dx Y1->g_ dx _ s'->Q .next s')->_) e (λk=>wpAny_execs_nil (k _ x (.of (.refl _)))) k|cons st r ih=>
    intro fs Y1 s e x E Q k
    refine db e (λ_ e=>O e λt ht e=>O e λc hf e=>cj e λcf e=>(GW ht).elim λb=>Exists.rec λpp z=>z▸?_) λq hq e=>ξ e λc e=>O e λm e1 e8=>(wh hq).elim λp1=>Exists.rec λp2=>Exists.rec λp3 z=>z▸?_
    · have X0:=x.st
      have aaO:∀b∈own++vol,b∈own++dx::vol:=hV (λb m=>List.mem_append_left _ m) λb m=>List.mem_append_right _ (.tail _ m)
      have VV:(vis (own++dx::vol) s.heap).StaysIn (vis (own++vol) s.heap):=dX aaO
      have X1:az W own (own++vol) cx ((Str.ofString "self",.obj C fs)::ρ) env s:=(X0.moved VV (λb m=>X0.inv.vol b (aaO b m)) (λb m=>List.mem_append_left _ m) (λo e=>e) λ_ _ _ o e=>e).re x.H9.1 λhv=>hv.1.symm▸x.Ri.elim λod=>Exists.rec λτ d=>⟨a,dx,od,τ,rfl,VV _ _ x.obj,ι.mpr ⟨d.1,λm=>(List.mem_append.mp m).elim x.dn x.dv⟩,d.2.1,d.2.2.mono VV⟩
      exact wpAny_execs_cons ((exec_If ..).symm▸wpAny_bind (wpAny_standAt (wpAny_bind (ok.tr (hf.trans (congrArg some cf)) X1 R E _ λs1 k1=>wpAny_execs_nil (env:=env) (ih e (x.step k1) E Q λs' xx kk=>k s' xx ((g_.of k1).trans kk))))))
    · refine η c λc2 c=>η c λc3 c=>η c λc4 c5=>wpAny_execs_cons (plainObj_wpAny_Assign_Attribute (ok.ev e1 x.st R E _ λv s1 h1 k1=>?_) (km (aP c2)))
      have x1:=x.step k1
      have Xs:=x1.st
      refine Xs.loc.elim λmm g=>(g.2 _ _ x1.H9.1 (aU x1.H9.2)).elim λu u1=>wpAny_Name (wpAny_loadName_local Xs.kind (fS Xs (aU x1.H9.2) (λz=>NameKind.noConfusion z)) g.1 u1.1 (u1.2.1.symm▸?_)) (by decide+kernel)
      obtain⟨od,τ,d1,d2,d3⟩:=x1.Ri
      refine DZ Xs.inv.k SF (TK _ c5) (fo (ι.mp x1.obj).1 d1) d2 (gu d3 (mX c3)) (Nat.le_trans (Nat.le_of_eq (D0 d3)) (Nat.le_trans (ble c4) (by decide))) λh' ZF tk q1 q2 q3=>?_
      have KK:∀b o,b≠dx->s1.heap.get? b=some o->h'.get? b=some o:=λb o n e=>(q3.2 b n).trans e
      have so:ae [dx] s1 {s1 with heap:=h',toks:=tk}:=⟨λb o n e=>KK b o (λz=>n (List.mem_singleton.mpr z)) e,λb o e=>if z:b=dx then⟨_,z▸q1⟩else⟨o,KK b o z e⟩,rfl,rfl⟩
      have VV:(vis (own++dx::vol) s1.heap).StaysIn (vis (own++dx::vol) h'):=so.vis (aG hdm)
      exact ih e8 (s:={s1 with heap:=h',toks:=tk}) ⟨Xs.side so (aG hdm) (λm=>x1.dn (List.mem_singleton.mp m▸Xs.fF)) (λy c q m=>x1.cl y c q (List.mem_singleton.mp m)),x1.dn,x1.dv,x1.H9,x1.cl,VV _ _ x1.obj,ZF,_,q1,q2,tJ (d3.mono VV) (h1.mono VV)⟩ E Q λs' xx kk=>k s' xx ((g_.of k1).trans (g_.trans (s':={s1 with heap:=h',toks:=tk}) ⟨λb o n e=>KK b o n e,rfl,rfl⟩ kk))
end
structure q8(W:aE)(C f:Addr):Prop where
 makes:makesIn W.K C=true
 init:findIn W.K (.ref C) "__init__"=some (some (.ref f))fty:typeIn W.K (.ref f)=some (.type "function")set:mh W C
theorem n9{P:Params}:dc P emptyDict []:=⟨rfl,#[],0,rfl,trivial⟩
section
variable{W:aE}{G:fj}{A:Around}{vol own:List Addr}{s:Shared}{d:Nat}{env:Env}{cx:Cx}{ρ:au}{sv:Sv}{C f:Addr}{fs:List (Str×XV)}
theorem ade(ok:al W sv)(M:q8 W C f){ft:kK}(FF:fq W f ft){take:Str->Bool}(TK:∀n,take n=true->takerIn W.K C n=some none)(R:ψ A (d+2)){ms:List XV}{ks:List (Str×XV)}{ρ:Addr->au}(e1:∀a,ft.bind (.ip (.ref a)::ms) ks=some (ρ a))(e2:∀a,bp ft.names (ρ a)=true)(e3:∀a,iO sv take d ⟨ft.names⟩ C (ρ a) ft.body []=some fs)(e4:∀a,lk (ρ a) (Str.ofString "self")=some (.ip (.ref a)))(e5:lk ft.names (Str.ofString "self")=some .local)(I:Inv W vol s){vs:List Value}{kws:List (Str×Value)}(hv:Ξ W (vis vol s.heap) ms vs)(hk:aY W (vis vol s.heap) ks kws):aM W A vol (.call (.ref C) ⟨vs,kws⟩) (.obj C fs) s:=λRR k=>by
 obtain⟨hh,g,dr,t,os⟩:=s
 refine make_core (makes_of I.k M.makes) (looks_findIn I.k M.init) (λself=>bind_fn I.k self M.fty) (.inl rfl) ?_
 have RU:ψ (A.under (.builtin "type.__call__" ⟨.ref C::vs,kws⟩)) (d+1):=⟨room 1 (by decide) R.depth,room 1 (by decide) R.units,by simp only[Around.under,R.guards];rfl,R.handled⟩
 have hn:hh.get? hh.objs.size=none:=aX _
 have Rj:Step (⟨hh,g,dr,t,os⟩:Shared) ⟨(hh.push emptyDict).push (instObj C hh.objs.size),g,dr,t,os⟩:=⟨λb o e=>Heap.get?_push_of_some _ (Heap.get?_push_of_some _ e),rfl,rfl⟩
 have yU:Heap.get? ((hh.push emptyDict).push (instObj C hh.objs.size)) hh.objs.size=some emptyDict:=Heap.get?_push_of_some _ (Heap.get?_push_size _ rfl)
 have Ia:Heap.get? ((hh.push emptyDict).push (instObj C hh.objs.size)) (hh.objs.size+1)=some (instObj C hh.objs.size):=(congrArg (Heap.get? ((hh.push emptyDict).push (instObj C hh.objs.size))) (Heap.size_push hh emptyDict).symm).trans (Heap.get?_push_size (hh.push emptyDict) (o:=instObj C hh.objs.size) rfl)
 have Rk:hh.objs.size∉vol:=I.fresh hn
 have VV:(vis vol hh).StaysIn (vis (hh.objs.size::vol) ((hh.push emptyDict).push (instObj C hh.objs.size))):=iH (ba Rj.keep) hn
 have I1:Inv W (hh.objs.size::vol) ⟨(hh.push emptyDict).push (instObj C hh.objs.size),g,dr,t,os⟩:=⟨Ψ I.top VV,aq ⟨_,yU⟩ λb m=>(I.vol b m).imp λo e=>Rj.keep b o e⟩
 refine iD I1 RU FF (e1 (hh.objs.size+1)) (e2 (hh.objs.size+1)) (Δ (show ω W (vis (hh.objs.size::vol) ((hh.push emptyDict).push (instObj C hh.objs.size))) (.ip (.ref (hh.objs.size+1))) (.ref (hh.objs.size+1))from⟨rfl,rfl⟩) (hv.mono VV)) (hk.mono VV) λown env s2 cu xa SS RD jp uu _=>?_
 have Ib:hh.objs.size∉own:=λm=>ζ ((cu hh.objs.size m).symm.trans yU)
 have Fi:hh.objs.size+1∉own:=λm=>ζ ((cu (hh.objs.size+1) m).symm.trans Ia)
 have ini:EP W own vol ⟨ft.names⟩ (ρ (hh.objs.size+1)) env s2 (hh.objs.size+1) C hh.objs.size []:=⟨SS,Ib,Rk,⟨e4 _,e5⟩,λy c q z=>(uu y c q).elim (λm=>Ib (z▸m)) λh=>h.elim λo e=>ζ (hn.symm.trans (I.keeps _ _ (z▸e))),ι.mpr ⟨xa.keep _ _ Ia,λm=>(List.mem_append.mp m).elim Fi λm=>(List.mem_cons.mp m).elim (Nat.succ_ne_self hh.objs.size) (I.fresh (Heap.get?_none_of_le (Nat.le_succ _)))⟩,emptyDict,[],xa.keep _ _ yU,n9,aL⟩
 refine codeAny_func (nU ok M.set TK RD (e3 (hh.objs.size+1)) ini _ _ λs3 x3 k23=>⟨rfl,?_⟩)
 obtain⟨od,τ,y⟩:=x3.Ri
 have sub:(vis (own++hh.objs.size::vol) s3.heap).StaysIn (vis vol s3.heap):=dX λa m=>List.mem_append_right _ (.tail _ m)
 exact k _ _ (rz.mpr ⟨hh.objs.size+1,hh.objs.size,od,τ,rfl,sub _ _ x3.obj,ι.mpr ⟨y.1,Rk⟩,y.2.1,y.2.2.mono sub⟩) ⟨λb o e=>k23.keep b o (λz=>ζ ((congrArg hh.get? z).trans hn|>.symm.trans e)) (xa.keep b o (Rj.keep b o e)),k23.os.trans xa.os,k23.gens.trans xa.gens⟩
end
structure Gr(B g:Heap)(fr:List Env)(env:Env)(A:Around)(lo:List Addr)(s:Shared):Prop where
 frames:A.frames=some (env::fr)fe:env.frame=some env.locals
 bg:B.StaysIn g
 gs:g.StaysIn s.heap
 new:∀a∈lo,g.get? a=none
 ff:g.FunFrames B fr
 ll:env.locals∈lo
inductive ae0(W:aE)(B:Heap)(fr:List Env)(env:Env)(a:Addr)(h':Heap):Prop|made(h:Heap)(args:List Value)(m:Heap.MadeExcOf h h' a (.ref W.exc) args)(b:B.StaysIn h)(f:h.FunFrames B (env::fr))|fly(a0:Value)(m:Heap.FlyingW B (env::fr) a (.ref W.exc) a0 h')|held(a0:Value)(m:Heap.HeldW B (env::fr) a (.ref W.exc) a0 env.locals h')
inductive uw(W:aE)(B g:Heap)(fr:List Env)(env:Env)(s:Shared):Value->Shared->Prop|mk(a:Addr)(s':Shared)(os:s'.os=s.os)(gens:s'.gens=s.gens)(up:g.UpToSlots s'.heap)(way:ae0 W B fr env a s'.heap):uw W B g fr env s (.ref a) s'
inductive Fj(W:aE)(B:Heap)(fr:List Env)(env:Env)(h:Heap):Value->Prop|mk(a:Addr)(a0:Value)(m:Heap.HeldW B (env::fr) a (.ref W.exc) a0 env.locals h):Fj W B fr env h (.ref a)
noncomputable def aaP(W:aE)(B g:Heap)(fr:List Env)(s:Shared)(e:Value)(s':Shared):Prop:=∃a a0,e=.ref a/\Heap.FlyingW B fr a (.ref W.exc) a0 s'.heap/\g.UpToSlots s'.heap/\s'.os=s.os/\s'.gens=s.gens
section
variable{W:aE}{G:fj}{A:Around}{vol own lo:List Addr}{s s':Shared}{d:Nat}{env:Env}{cx:Cx}{ρ:au}{sv:Sv}{B g:Heap}{fr:List Env}{e:Value}
theorem jh{h h':Heap}(k:h.StaysIn h'){b:Addr}(e:h'.get? b=none):h.get? b=none:=by cases q:h.get? b with
 |none=>rfl|some o=>exact ζ (e.symm.trans (k b o q))
theorem Gr.full(X:Gr B g fr env A lo s)(S:az W own vol cx ρ env s):s.heap.FunFrames B (env::fr):=S.loc.elim λm h=>Heap.FunFrames.cons (S.kind▸by decide) X.fe h.1 (jh X.bg (X.new _ X.ll)) (Heap.FunFrames.of_keeps (λb o e _=>⟨o,X.gs b o e,rfl⟩) X.ff)
theorem Gr.step(X:Gr B g fr env A lo s)(k:Step s s'):Gr B g fr env A lo s':=⟨X.frames,X.fe,X.bg,Ψ X.gs k.keep,X.new,X.ff,X.ll⟩
theorem Gr.keep(X:Gr B g fr env A lo s)(k:∀b o,b∉lo->s.heap.get? b=some o->s'.heap.get? b=some o):Gr B g fr env A lo s':=⟨X.frames,X.fe,X.bg,λb o e=>k b o (λm=>ζ ((X.new b m).symm.trans e)) (X.gs b o e),X.new,X.ff,X.ll⟩
theorem Gr.mV(X:Gr B g fr env A lo s)(hs:∀a∈own,a∈lo)(k:ae own s s'):Gr B g fr env A lo s':=X.keep λb o n e=>k.keep b o (λm=>n (hs b m)) e
theorem Gr.more(X:Gr B g fr env A lo s){Is:List Addr}(h:∀a∈Is,g.get? a=none):Gr B g fr env A (Is++lo) s:=⟨X.frames,X.fe,X.bg,X.gs,hV h X.new,X.ff,List.mem_append_right _ X.ll⟩
theorem Gr.less(X:Gr B g fr env A lo s){l:List Addr}(h:∀a∈l,a∈lo)(hl:env.locals∈l):Gr B g fr env A l s:=⟨X.frames,X.fe,X.bg,X.gs,λa m=>X.new a (h a m),X.ff,hl⟩
theorem uw.pre{s0:Shared}(r:uw W B g fr env s e s')(ho:s.os=s0.os)(hg:s.gens=s0.gens):uw W B g fr env s0 e s':=r.rec λa s' o q u w=>.mk a s' (o.trans ho) (q.trans hg) u w
theorem qk(jp:A.frames=some (env::fr))(hf:env.frame=some env.locals)(r:uw W B g fr env s e s'){E:Value->Shared->Prop}{Q:Unit->Shared->Prop}(k:∀dz,aaP W B g fr s e dz->Q () dz):wpAny (Md W) A (leaving env e) Q E s':=by cases r with|mk a _ h2 h3 h4 w=>cases w with
 |made h args m1 m2 m3=>exact wpAny_leaves_madeW jp hf m2 m3 m1 λh' t x1 x2 x3 x4=>k _ ⟨a,_,rfl,x1,h4.trans x4,h2,h3⟩|fly a0 xb=>exact wpAny_leaves_onW jp hf xb λh' x1 x4=>k _ ⟨a,_,rfl,x1,h4.trans x4,h2,h3⟩|held a0 hh=>exact wpAny_bind (wpAny_noteFrame_againW hf hh.2.2.2 (wpAny_landsW hh λh' xb x4=>k _ ⟨a,_,rfl,⟨xb.1,xb.2.1,xb.2.2.1.2.2,xb.2.2.2⟩,h4.trans x4,h2,h3⟩))
theorem tK(jp:A.frames=some (env::fr))(hf:env.frame=some env.locals)(r:uw W B g fr env s e s'){E:Value->Shared->Prop}{Q:Unit->Shared->Prop}(k:∀dz,uw W B g fr env s e dz->Fj W B fr env dz.heap e->Q () dz):wpAny (Md W) A (noteFrame e env) Q E s':=by cases r with|mk a _ h2 h3 h4 w=>
 have pA:∀{h' a0},Heap.HeldW B (env::fr) a (.ref W.exc) a0 env.locals h'->s'.heap.UpToSlots h'->Q () {s' with heap:=h'}:=λhh x4=>k _ (.mk a _ h2 h3 (h4.trans x4) (.held _ hh)) (.mk a _ hh)
 cases w with
 |made h args m1 m2 m3=>
  obtain⟨t,he,htn,ht⟩:=m1.there
  have hen:=jh m2 m1.new
  unfold noteFrame
  rw[hf]
  refine wpAny_bind (wpAny_field he rfl (x:=.none) rfl (wpAny_ite (KPc.ite_no (by decide) (wpAny_entryW jp (m3.of_keeps λb o hb _=>⟨o,m1.keeps b o hb,rfl⟩) hf he (λb o hb=>m1.keeps b o (m2 b o hb)) hen rfl (ble rfl) rfl λh' hN=>?_))))
  exact pA ⟨hN.1,hen,hN.2.1,hN.2.2.1⟩ hN.2.2.2|fly a0 xb=>exact wpAny_looks_onW jp hf xb λh' hh x4=>pA hh x4|held a0 hh=>exact wpAny_noteFrame_againW hf hh.2.2.2 (pA hh (Heap.UpToSlots.of_keeps (cw _)))
theorem GX{T:Addr}:(Value.ref T !=Value.none)=true:=bne_iff_ne.mpr λz=>Value.noConfusion z
theorem l6{M:Model}{base:Heap}{l:List Env}{a L:Addr}{cls a0:Value}{E:Value->Shared->Prop}{Q:Unit->Shared->Prop}(hh:Heap.HeldW base l a cls a0 L s.heap)(h:∀h',Heap.HeldW base l a cls a0 L h'->s.heap.UpToSlots h'->Q () {s with heap:=h'}):wpAny M A (setFlight (.ref a) (some L)) Q E s:=by
 obtain⟨hkb,hen,hl,oe,vs,T,oT,ts,he,RL,hd,h1,hnT,hTe,hT,hdT,h3⟩:=hh
 have aaQ:3<ts.size:=(Array.getElem?_eq_some_iff.mp h3).1
 have other:∀b,b≠T->(s.heap.update T (Obj.mapFields (·.setIfInBounds 3 ((some L:Option Addr).elim Value.none λf=>rawInt f)))).get? b=s.heap.get? b:=λb hb=>Heap.get?_update_other _ _ (Ne.symm hb)
 have tL:∀b o,s.heap.get? b=some o->(∀vs,o.data≠.fields vs)->b≠T:=λb o hb ZG q=>ZG ts ((congrArg Obj.data (Option.some.inj ((q▸hb).symm.trans hT))).trans hdT)
 refine wpAny_bind (wpAny_field he hd h1 (wpAny_ite (KPc.ite_yes GX ?_)))
 exact wpAny_setField hT hdT aaQ (h _ ⟨λb o hbo=>(other b λq=>ζ (hnT.symm.trans (q▸hbo))).trans (hkb b o hbo),hen,hl.of_keeps λb o hb ZG=>⟨o,(other b (tL b o hb ZG)).trans hb,rfl⟩,oe,vs,T,_,_,(other a (Ne.symm hTe)).trans he,RL,hd,h1,hnT,hTe,Heap.get?_update_self _ hT (Obj.isFreed_of_fields (Obj.data_mapFields hdT _)),Obj.data_mapFields hdT _,Array.getElem?_setIfInBounds_self_of_lt aaQ⟩ λb o hb ZG=>⟨o.slots,(other b (tL b o hb ZG)).trans hb⟩)
theorem D3(hf:env.frame=some env.locals)(r:uw W B g fr env s e s')(hh:Fj W B fr env s'.heap e){E:Value->Shared->Prop}(k:∀dz,uw W B g fr env s e dz->E e dz):cameBackBy (Md W) A env E e s':=by cases hh with|mk a a0 hh=>cases r with|mk _ _ h2 h3 h4 _=>
 obtain⟨_,_,_,oe,vs,T,oT,ts,he,RL,hd,h1,_⟩:=id hh
 refine wpAny_bind (wpAny_field he hd h1 (wpAny_ite (KPc.ite_no (λz=>Value.noConfusion (eq_of_beq z)) ?_)))
 rw[hf]
 exact l6 hh λh' x1 x2=>k _ (.mk a _ h2 h3 (h4.trans x2) (.held _ x1))
theorem xH(X:Gr B g fr env A lo s)(h:Q8 B (env::fr) W.exc s e s'):uw W B g fr env s e s':=h.elim λa=>Exists.rec λa0 y=>y.1▸.mk a s' y.2.2.2.1 y.2.2.2.2 ((Heap.UpToSlots.of_keeps X.gs).trans y.2.2.1) (.fly _ y.2.1)
noncomputable def fG(W:aE):Obj:=(W.K.lookup W.exc).getD emptyDict
noncomputable def bW(W:aE):ClassData:=(clsIn W.K W.exc).getD default
noncomputable def d_(o:Obj)(i:Nat):Option Value:=(o.slots[i]?).getD none
structure cK(W:aE):Prop where
 at_:W.K.lookup W.exc=some (fG W)is:fG W=excClassObj (bW W).name (bW W).qualname W.exc (bW W).ns (bW W).bases (bW W).mro.tail (bW W).hasDict (bW W).slotNames (bW W).subclasses (bW W).abstract (bW W).collection (fG W).dict (d_ (fG W) 0) (d_ (fG W) 1) (d_ (fG W) 2) (d_ (fG W) 3) (d_ (fG W) 5) "Exception.__new__"ok:nsOkIn W.K (bW W).ns=true
 ini:nsIn W.K (bW W).ns "__init__"=some none
 tl:tailIn W.K [.type "Exception",.type "BaseException",.type "object"] (bW W).mro.tail=true
theorem cK.obj{h:Heap}(EF:cK W)(X:W.K.In h):h.get? W.exc=some (excClassObj (bW W).name (bW W).qualname W.exc (bW W).ns (bW W).bases (bW W).mro.tail (bW W).hasDict (bW W).slotNames (bW W).subclasses (bW W).abstract (bW W).collection (fG W).dict (d_ (fG W) 0) (d_ (fG W) 1) (d_ (fG W) 2) (d_ (fG W) 3) (d_ (fG W) 5) "Exception.__new__"):=(X _ _ EF.at_).trans (congrArg some EF.is)
theorem wi{pos:Pos}{es:List Expr}:fp es=true->(backTo pos (starEach es env)).any (·.1)=false:=by induction es with
 |nil=>exact λ_=>rfl|cons e r ih=>exact λh=>η h λh1 h2=>(congrArg (λl=>(backTo pos l).any (·.1)) (jK (aP h1))).trans (ih h2)
theorem D4(ok:al W sv)(EF:cK W)(R:ψ A d){n:Str}{p cp pos:Pos}{x:Expr}{m:XV}(S:az W own vol cx ρ env s)(X:Gr B g fr env A lo s)(h0:fp [x]=true)(e0:sv.ev d cx ρ (.Name n p)=some (.addr W.exc))(e1:sv.ev d cx ρ x=some m)(E:Value->Shared->Prop)(Q:Flow->Shared->Prop)(k:∀e s',uw W B g fr env s e s'->E e s'):wpAny (Md W) A (exec (.Raise (some (.Call (.Name n p) [x] [] cp)) none pos) env) Q E s:=by
 have hN:=isNs_of_in S.inv.k EF.ok
 have T:=tail_of_in S.inv.k EF.tl
 refine wpAny_Raise_call_subT (C:=W.exc) (nm:=(bW W).name) (q:=(bW W).qualname) (N:=(bW W).ns) (bs:=(bW W).bases) (bm:=(bW W).mro.tail) (hdct:=(bW W).hasDict) (sn:=(bW W).slotNames) (sub:=(bW W).subclasses) (ab:=(bW W).abstract) (col:=(bW W).collection) (dd:=(fG W).dict) (k0:=d_ (fG W) 0) (k1:=d_ (fG W) 1) (k2:=d_ (fG W) 2) (k3:=d_ (fG W) 3) (k5:=d_ (fG W) 5) PySem.F.excBase_Exception (T.hasType PySem.F.excBase_Exception.hasBase) R.handled (wi h0) (nsMap_none_of_in S.inv.k EF.ok EF.ini) (ok.ev e0 S R _ _ λv s1 h1 k1=>⟨h1,?_⟩)
 rw[show starEach [x] env=[(false,eval x env)]from jK (aP (η h0 λa _=>a))]
 refine Calls.evalArgs_plain (Calls.spliced_cons (ok.ev e1 (S.step k1) R _ _ λv2 s2 h2 k2=>Calls.spliced_nil ?_))
 have Rl:=k1.trans k2
 have X2:=X.step Rl
 exact⟨rfl,ZS.nv (n:=1),Rl.keep _ _ (EF.obj S.inv.k),(Heap.Ns.of_isNs hN).keeps Rl.keep,T.keeps Rl.keep,λh' e hm=>k _ _ (.mk e _ Rl.os Rl.gens ((Heap.UpToSlots.of_keeps X2.gs).trans (Heap.UpToSlots.of_keeps hm.keeps)) (.made _ _ hm (Ψ X2.bg X2.gs) (X2.full (S.step Rl))))⟩
end
inductive VO where|up|go(b:Bool)(ρ:au)
noncomputable def VO.bad(o:VO):Bool:=o.casesOn true λb _=>b
noncomputable def VO.Rm(o:VO):Option au:=o.casesOn none λ_ ρ=>some ρ
noncomputable def orB(b:Bool)(r:VO):VO:=r.casesOn .up λb' aV=>.go (b||b') aV
def pP(o:VO)(f:au->Option VO):Option VO:=o.casesOn (some .up) λb ρ=>(f ρ).map (orB b)
noncomputable def fy(cx:Cx)(f:au->Option VO)(target:Expr):List XV->au->Option VO
 |[],ρ=>some (.go false ρ)|m::r,ρ=>(lG cx ρ target m).bind λiq=>(f iq).bind λo=>pP o (fy cx f target r)
theorem adf(r:VO):(orB true r).bad=true:=by cases r<;>rfl
theorem adg(r:VO):orB false r=r:=by cases r<;>rfl
theorem I8{o r:VO}{f:au->Option VO}{P:Prop}(e:pP o f=some r)(k:o.bad=true->r.bad=true->P)(l:∀aV,o=.go false aV->f aV=some r->P):P:=by cases o with
 |up=>exact k rfl (Option.some.inj e▸rfl)|go b ρ=>cases b with
  |true=>exact χ (P:=λr=>(VO.bad (.go true ρ)=true->r.bad=true->P)->P) e (λr0 _ k=>k rfl (adf r0)) k|false=>exact χ (P:=λr=>(∀aV,VO.go false ρ=.go false aV->f aV=some r->P)->P) e (λr0 e1 l=>l ρ rfl (e1.trans (congrArg some (adg r0).symm))) l
noncomputable def ka(W:aE)(B g:Heap)(fr:List Env)(A:Around)(own vol:List Addr)(cx:Cx)(env:Env)(t:Sem Flow)(o:VO)(s:Shared):Prop:=∀(E:Value->Shared->Prop)(Q:Flow->Shared->Prop),(o.bad=false->∀aV,o.Rm=some aV->∀s',az W own vol cx aV env s'->ae own s s'->Q .next s')->(o.bad=true->∀e s',uw W B g fr env s e s'->E e s')->wpAny (Md W) A t Q E s
section
variable{W:aE}{G:fj}{A:Around}{vol own lo:List Addr}{s:Shared}{d:Nat}{env:Env}{cx:Cx}{ρ:au}{sv:Sv}{B g:Heap}{fr:List Env}
theorem adh{st:Stmt}{rest:List Stmt}{o r:VO}{f:au->Option VO}(X:Gr B g fr env A lo s)(hs:∀a∈own,a∈lo)(e:pP o f=some r)(h1:ka W B g fr A own vol cx env (exec st env) o s)(h2:∀aV s',f aV=some r->az W own vol cx aV env s'->Gr B g fr env A lo s'->ka W B g fr A own vol cx env (execs rest env) r s'):ka W B g fr A own vol cx env (execs (st::rest) env) r s:=λE Q kQ kE=>wpAny_execs_cons (I8 e (λb1 b2=>h1 _ _ (λz=>Bool.noConfusion (z.symm.trans b1)) λ_=>kE b2) λiq z e1=>h1 _ _ (λ_ aV n s' S' k'=>h2 aV s' ((congrArg f (Option.some.inj (n.symm.trans (congrArg VO.Rm z)))).trans e1) S' (X.mV hs k') E Q (λz lB q dz S'' Ra=>kQ z lB q dz S'' (k'.trans Ra)) λz e dz r=>kE z e dz (r.pre k'.os k'.gens)) λb=>Bool.noConfusion ((congrArg VO.bad z).symm.trans b))
theorem az.I9{Is:List Addr}{s':Shared}(X:az W own vol cx ρ env s)(k:Step s s')(hI:∀a∈Is,s.heap.get? a=none)(ho:∀a∈Is,∃o,s'.heap.get? a=some o):az W own (Is++vol) cx ρ env s':=X.moved (λb o e=>ι.mpr ⟨k.keep b o (ι.mp e).1,λm=>(List.mem_append.mp m).elim (λm=>ζ ((hI b m).symm.trans (ι.mp e).1)) (ι.mp e).2⟩) (hV ho λb m=>(X.inv.vol b m).imp λo=>k.keep b o) (λb m=>List.mem_append_right _ (X.sub b m)) (λo=>k.keep _ o) λ_ _ _ o=>k.keep _ o
theorem zx(R:ψ A d){target:Expr}{body:List Stmt}{h:Heap}{I:Addr}{Is:List Addr}{ms:List XV}{P:Nat->Shared->Prop}{Pm:Nat->Value->Shared->Prop}{bf:au->Option VO}(S:w9 W h I Is ms target P Pm)(sd:∀a∈Is,a∉vol)(Rc:∀a∈own,a∈vol)(hh:∀b∈vol,h.get? b=none)(ZB:env.locals∉Is)(Ac:∀x c,env.cells.lookup x=some c->c∉Is)(qP:∀a∈own,a∈lo)(mj:∀ρ o s,bf ρ=some o->az W own (Is++vol) cx ρ env s->Gr B g fr env A (Is++lo) s->ka W B g fr A own (Is++vol) cx env (execs body env) o s){RR:Result->Shared->Prop}(n:Nat):∀(i:Nat)(s:Shared)(ρ:au)(r:VO),i+n=ms.length->P i s->fy cx bf target (ms.drop i) ρ=some r->az W own (Is++vol) cx ρ env s->Gr B g fr env A (Is++lo) s->(r.bad=false->∀aV,r.Rm=some aV->∀s',az W own vol cx aV env s'->pN Is own s s'->RR (.ok .next) s')->(r.bad=true->∀e s',uw W B g fr env s e s'->Fj W B fr env s'.heap e->RR (.error e) s')->codeAny (Md W) A (.forLoop target (.ref I) body [] env) RR s:=by
 have ZC:∀a∈Is,a∉own:=λa m z=>sd a m (Rc a z)
 have fM:∀a∈Is,a∈Is++vol:=λa m=>List.mem_append_left _ m
 have Ai:∀b∈Is++vol,h.get? b=none:=hV S.new hh
 have ZD:∀b∈own,h.get? b=none:=λb m=>hh b (Rc b m)
 have yf:∀a∈Is++own,a∈Is++lo:=hV (λa m=>List.mem_append_left _ m) λa m=>List.mem_append_right _ (qP a m)
 induction n with
 |zero=>
  intro i s ρ r hi p e1 X GR kQ kE
  cases show i=ms.length from hi
  rw[List.drop_length]at e1
  cases e1
  refine codeAny_of_tree (show wpAny _ A ((forTurn target (.ref I) body [] env).onRaise (λx=>do noteFrame x env;theTreesLotGoes x)) _ _ s from wpAny_noted (gz _ _ _ _ _ _ _ (S.stop R p _ _ λs1 k1 o1 g1=>⟨rfl,codeAny_of_tree ?_⟩)))
  exact show wpAny _ A (do return Fin.done (<-(execs [] env).onRaise (λx=>do noteFrame x env;theTreesLotGoes x))) _ _ s1 from wpAny_bind (wpAny_noted (wpAny_execs_nil (wpAny_pure (kQ rfl _ rfl s1 (X.sub' (Is:=Is) k1 Rc sd ZB Ac) ⟨λb o n _ e=>k1 b o n e,λb o n e=>⟨o,k1 b o n e⟩,o1,g1⟩))))|succ n ih=>
  intro i s ρ r hi p e1 X GR kQ kE
  have uR:i<ms.length:=hi▸Nat.lt_add_of_pos_right (Nat.succ_pos n)
  rw[List.drop_eq_getElem_cons uR]at e1
  refine O e1 λiq e2 e1=>O e1 λo1 e3 e1=>codeAny_of_tree (show wpAny _ A ((forTurn target (.ref I) body [] env).onRaise (λx=>do noteFrame x env;theTreesLotGoes x)) _ _ s from wpAny_noted (gz _ _ _ _ _ _ _ (S.next R p (List.getElem?_eq_getElem uR) _ _ λv s1 p1 k1 hv=>?_)))
  have Am:h.StaysIn (vis (Is++vol) s1.heap):=λb o e=>ι.mpr ⟨S.Q' p1 b o e,λm=>ζ ((Ai b m).symm.trans e)⟩
  refine S.owned p1 λs2 p2 k2=>jM R e2 ((X.side k1 fM ZB Ac).side k2 fM ZB Ac) ((hv (Is++vol) Am X.inv.vol).mono (k2.vis fM)) _ _ λs3 X3 k3=>?_
  have H7:∀x∈Is,x∈Is++own:=λx m=>List.mem_append_left _ m
  have YY:∀x∈own,x∈Is++own:=λx m=>List.mem_append_right _ m
  have Y2:ae (Is++own) s s3:=((k1.sup H7).trans (k2.sup H7)).trans (k3.sup YY)
  have GR3:=GR.mV yf Y2
  refine I8 e1 (λb1 b2=>mj _ _ _ e3 X3 GR3 _ _ (λz=>Bool.noConfusion (z.symm.trans b1)) λ_ e s4 r4=>tK GR.frames GR.fe (r4.pre Y2.os Y2.gens) λs5 r5 h5=>kE b2 e s5 r5 h5) λlB z e4=>mj _ _ _ e3 X3 GR3 _ _ (λ_ aV n s4 X4 k4=>?_) λb=>Bool.noConfusion ((congrArg VO.bad z).symm.trans b)
  cases Option.some.inj (n.symm.trans (congrArg VO.Rm z))
  exact⟨rfl,ih (i+1) s4 lB r ((Nat.add_right_comm i 1 _).trans hi) (S.after (S.after p2 k3 ZC ZD) k4 ZC ZD) e4 X4 (GR3.mV yf (k4.sup YY)) (λz aV q s' a b=>kQ z aV q s' a (b.pre (Y2.trans (k4.sup YY)))) λz e s' r' h'=>kE z e s' (r'.pre (k4.os.trans Y2.os) (k4.gens.trans Y2.gens)) h'⟩
theorem aaR{it:kL}(IT:bR W it)(R:ψ A d){target iter:Expr}{body:List Stmt}{pos:Pos}{ms:List XV}{bf:au->Option VO}{r:VO}(X:az W own vol cx ρ env s)(GR:Gr B g fr env A lo s)(qP:∀a∈own,a∈lo)(hs:fm iter=false)(e1:it d cx ρ target iter=some ms)(e2:fy cx bf target ms ρ=some r)(mj:∀(Is:List Addr)ρ o s,bf ρ=some o->az W own (Is++vol) cx ρ env s->Gr B g fr env A (Is++lo) s->ka W B g fr A own (Is++vol) cx env (execs body env) o s):ka W B g fr A own vol cx env (exec (.For target iter body [] pos) env) r s:=λE Q kQ kE=>by
 have he:exec (.For target iter body [] pos) env=(do
  standAt pos let x<-foldedSetIterable iter env (<-eval iter env)standAt iter.pos
  runOwn (.forLoop target (<-holding [x] (pyIter x)) body [] env) env):=rfl
 rw[he]
 refine wpAny_bind (wpAny_standAt (wpAny_bind (wpAny_mono (IT e1 X R E (λI s2=>wpAny (Md W) A (runOwn (.forLoop target I body [] env) env) Q E s2) λI Is s2 P Pm h S p0 k2 hI hh=>?_) (λvo s1 h1=>wpAny_bind (wpAny_of_eq (gy hs) (wpAny_bind (wpAny_standAt (wpAny_bind (wpAny_holding h1)))))) λ_ _ z=>z)))
 have sd:∀a∈Is,a∉vol:=λa m=>X.inv.fresh (hI a m)
 have hx:∀{b:Addr}{o:Obj},s.heap.get? b=some o->b∉Is:=λe m=>ζ ((hI _ m).symm.trans e)
 refine wpAny_runOwn (kU A R.handled▸zx R S sd X.sub hh (λm=>sd _ m (X.sub _ X.fF)) (λx c q=>(X.cl x c q).elim λo=>hx) qP (λρ o s=>mj Is ρ o s) ms.length 0 s2 ρ r (Nat.zero_add _) p0 e2 (X.I9 k2 hI (S.live p0)) ((GR.step k2).more λa m=>jh GR.gs (hI a m)) (λz aV q s' X' k3=>?_) λz e s' r' h'=>D3 GR.fe (r'.pre k2.os k2.gens) h' λdz r''=>kE z e dz r'')
 exact kQ z aV q s' X' ⟨λb o n e=>k3.keep b o (hx e) n (k2.keep b o e),λb o e=>k3.live b o (hx e) (k2.keep b o e),k3.os.trans k2.os,k3.gens.trans k2.gens⟩
end
structure Vv where
 call:Nat->Addr->XV->Option Bool
 exs:Nat->Cx->au->List Stmt->Option VO
structure sk(W:aE)(vv:Vv):Prop where
 call:∀{d f o b},vv.call d f o=some b->∀{A:Around}{vol s vo B fr},Inv W vol s->ψ A d->A.frames=some fr->ω W (vis vol s.heap) o vo->B.StaysIn s.heap->s.heap.FunFrames B fr->∀(R:Result->Shared->Prop),(b=false->∀s',Step s s'->R (.ok (.ret .none)) s')->(b=true->∀e s',Q8 B fr W.exc s e s'->R (.error e) s')->codeAny (Md W) A (.call (.ref f) ⟨[vo],[]⟩) R s
 exs:∀{d cx ρ l o},vv.exs d cx ρ l=some o->∀{A:Around}{own vol lo env s B g fr},az W own vol cx ρ env s->ψ A d->Gr B g fr env A lo s->(∀a∈own,a∈lo)->ka W B g fr A own vol cx env (execs l env) o s
noncomputable def wN{α:Type}(o:gp α):Option Bool:=o.casesOn (λ_=>some false) (some true) none
def ae1(d:Nat)(o:XV):Option Bool:=d.casesOn none λd=>(kl o).bind λβ=>bif Nat.ble β.d d then wN β.v else none
def xI(st:Stmt):Option ((Str×Pos)×Expr):=st.casesOn (λ_ _ _ _ _ _ _ _ _ _=>none) (λ_ _ _ _ _ _ _ _ _ _=>none) (λ_ _ _ _ _ _ _ _ _ _ _=>none) (λ_ _=>none) (λ_ _=>none) (λ_ _ _=>none) (λ_ _ _ _ _ _ _=>none) (λ_ _ _ _=>none) (λ_ _ _ _ _=>none) (λ_ _ _ _ _=>none) (λ_ _ _ _ _=>none) (λ_ _ _ _=>none) (λ_ _ _ _=>none) (λ_ _ _=>none) (λ_ _ _=>none) (λ_ _ _=>none) (λe c _=>bif aZ c then(e.bind dI).bind λq=>(cQ q.2).map λx=>(q.1,x)else none) (λ_ _ _ _ _=>none) (λ_ _ _ _ _=>none) (λ_ _ _=>none) (λ_ _=>none) (λ_ _ _ _=>none) (λ_ _=>none) (λ_ _=>none) (λ_ _=>none) (λ_=>none) (λ_=>none) (λ_=>none)
def GY(l:List Stmt):Option ((Str×Pos)×Expr):=(cQ l).bind xI
theorem wj{st:Stmt}{r}:xI st=some r->∃cp pos,st=.Raise (some (.Call (.Name r.1.1 r.1.2) [r.2] [] cp)) none pos:=by cases st with
 |Raise e c p=>exact λh=>ξ h λq h=>O h λa ha h=>O ha λe' he ha=>χ (P:=λr:(Str×Pos)×Expr=>∃cp pos,Stmt.Raise e c p=.Raise (some (.Call (.Name r.1.1 r.1.2) [r.2] [] cp)) none pos) h λx hx=>(dh ha).elim λcp z=>⟨cp,p,he▸mX q▸congrArg (λe=>Stmt.Raise (some e) none p) (z.trans (congrArg (λl=>Expr.Call (.Name a.1.1 a.1.2) l [] cp) (bX hx)))⟩|_=>exact ζ
def gc(o:Option XV)(a:Nat):Bool:=(o.bind gb).elim false λb=>Nat.beq b a
theorem zy{x:XV}{b:Addr}:gb x=some b->x=.addr b:=by cases x with
 |addr c=>exact λe=>congrArg XV.addr (Option.some.inj e)|_=>exact ζ
theorem di{o:Option XV}{a:Nat}(h:gc o a=true):o=some (.addr a):=by cases e:o.bind gb with
 |none=>exact υ (a8 (C:=λo:Option Addr=>(o.elim false λb=>Nat.beq b a)=true) e.symm h)|some b=>exact O e λx e1 e2=>e1.trans (congrArg some ((zy e2).trans (congrArg XV.addr (Nat.eq_of_beq_eq_true (a8 (C:=λo:Option Addr=>(o.elim false λb=>Nat.beq b a)=true) e.symm h)))))
def wO(e:Expr):Option ((Expr×Str×Pos)×Pos):=e.casesOn (λ_ _ _=>none) (λ_ _ _=>none) (λ_ _ _ _=>none) (λ_ _ _=>none) (λ_ _ _ _=>none) (λ_ _ _ _=>none) (λ_ _ _=>none) (λ_ _ _=>none) (λ_ _ _ _=>none) (λ_ _ _ _=>none) (λ_ _ _ _ _=>none) (λ_ _ _ _=>none) (λ_ _=>none) (λ_ _=>none) (λ_ _=>none) (λ_ _ _ _=>none) (λf es kws pos=>bif ak es&&ak kws then(sP f).map λq=>(q,pos)else none) (λ_ _ _ _=>none) (λ_ _=>none) (λ_ _ _=>none) (λ_ _ _=>none) (λ_ _ _=>none) (λ_ _=>none) (λ_ _=>none) (λ_ _=>none) (λ_ _ _=>none) (λ_ _ _ _=>none)
theorem tM{e:Expr}{r}:wO e=some r->e=.Call (.Attribute r.1.1 r.1.2.1 r.1.2.2) [] [] r.2:=by cases e with
 |Call f es kws pos=>
  refine λh=>ξ h λc h=>η c λc1 c2=>?_
  cases nil_of c1
  cases nil_of c2
  exact χ (P:=λr:(Expr×Str×Pos)×Pos=>Expr.Call f [] [] pos=.Call (.Attribute r.1.1 r.1.2.1 r.1.2.2) [] [] r.2) h λq e=>congrArg (Expr.Call · [] [] pos) (j0 e)|_=>exact ζ
def vX(sv:Sv)(d:Nat)(cx:Cx)(ρ:au)(e:Expr):Option VO:=(sv.ev d cx ρ e).elim ((wO e).bind λr=>bif !gh r.1.1&&(Nat.beq r.1.2.2.endLine r.2.line&&Fast.sEq r.1.2.1 (Str.ofString "verify"))then((sv.ev d cx ρ r.1.1).bind (ae1 d)).map λb=>bif b then .up else .go false ρ else none) λ_=>some (.go false ρ)
def vIf(exc:Nat)(sv:Sv)(vv:Vv)(d:Nat)(cx:Cx)(ρ:au)(t:Expr)(b:List Stmt):Option VO:=(GY b).elim ((sv.tr d cx ρ t).bind λc=>bif c then vv.exs d cx ρ b else some (.go false ρ)) λr=>bif gc (sv.ev d cx ρ (.Name r.1.1 r.1.2)) exc&&fp [r.2]then(sv.tr d cx ρ t).bind λc=>(sv.ev d cx ρ r.2).elim (bif c then none else some (.go false ρ)) λ_=>some (.go c ρ)else none
def vS(G:fj)(it:kL)(exc:Nat)(sv:Sv)(vv:Vv)(d:Nat)(cx:Cx)(ρ:au)(st:Stmt):Option VO:=st.casesOn (λ_ _ _ _ _ _ _ _ _ _=>none) (λ_ _ _ _ _ _ _ _ _ _=>none) (λ_ _ _ _ _ _ _ _ _ _ _=>none) (λ_ _=>none) (λ_ _=>none) (λts e _=>(Bd G sv d cx ρ ts e).bind λr=>r.casesOn (λaV=>some (.go false aV)) λ_=>none) (λ_ _ _ _ _ _ _=>none) (λ_ _ _ _=>none) (λ_ _ _ _ _=>none) (λtarget iter body nw _=>bif ak nw&&!fm iter then(it d cx ρ target iter).bind λms=>fy cx (λρ=>vv.exs d cx ρ body) target ms ρ else none) (λ_ _ _ _ _=>none) (λ_ _ _ _=>none) (λt b o _=>bif ak o then vIf exc sv vv d cx ρ t b else none) (λ_ _ _=>none) (λ_ _ _=>none) (λ_ _ _=>none) (λ_ _ _=>none) (λ_ _ _ _ _=>none) (λ_ _ _ _ _=>none) (λ_ _ _=>none) (λ_ _=>none) (λ_ _ _ _=>none) (λ_ _=>none) (λ_ _=>none) (λe _=>bif i_ e then none else vX sv d cx ρ e) (λ_=>none) (λ_=>none) (λ_=>none)
noncomputable def vL(G:fj)(it:kL)(exc:Nat)(sv:Sv)(vv:Vv)(d:Nat)(cx:Cx):List Stmt->au->Option VO
 |[],ρ=>some (.go false ρ)|st::r,ρ=>(vS G it exc sv vv d cx ρ st).bind λo=>pP o (vL G it exc sv vv d cx r)
section
variable{W:aE}{G:fj}{A:Around}{vol own lo:List Addr}{s:Shared}{d:Nat}{env:Env}{cx:Cx}{ρ:au}{sv:Sv}{vv:Vv}{B g:Heap}{fr:List Env}
theorem nV(X:az W own vol cx ρ env s):interactive env=false:=by unfold interactive;rw[X.kind];rfl
theorem Fk{Q:Flow->Shared->Prop}{s':Shared}(kQ:VO.bad (.go false ρ)=false->∀aV,VO.Rm (.go false ρ)=some aV->∀s',az W own vol cx aV env s'->ae own s s'->Q .next s')(X:az W own vol cx ρ env s')(k:ae own s s'):Q .next s':=kQ rfl _ rfl s' X k
theorem xJ{pos:Pos}:methodCallForm (0+0) (backTo pos (starEach [] env)) []=true:=Bool.and_eq_true_iff.mpr ⟨Bool.and_eq_true_iff.mpr ⟨nZ (es:=[]) rfl,rfl⟩,rfl⟩
theorem adi(GO:bM W G)(ok:al W sv){e:Expr}{pos:Pos}{o:VO}(hc:i_ e=false)(h:vX sv d cx ρ e=some o)(X:az W own vol cx ρ env s)(R:ψ A d)(GR:Gr B g fr env A lo s)(qP:∀a∈own,a∈lo):ka W B g fr A own vol cx env (exec (.Expr e pos) env) o s:=λE Q kQ kE=>by
 refine BJ.mK (exec_Expr env e pos (nV X) (km hc)) (wpAny_bind (wpAny_standAt (wpAny_bind ?_)))
 refine db h (λ_ h=>O h λr e1 h=>ξ h λc h=>χ (P:=λo:VO=>(o.bad=false->∀aV,o.Rm=some aV->∀s',az W own vol cx aV env s'->ae own s s'->Q .next s')->(o.bad=true->∀e s',uw W B g fr env s e s'->E e s')->_) h (λb e2 kQ kE=>O e2 λov e0 c4=>?_) kQ kE) λm e1 h=>ok.ev e1 X R E _ λv s1 h1 k1=>wpAny_dropValue (Fk (Option.some.inj h▸kQ) (X.step k1) (.of k1))
 obtain⟨⟨o',n,j_⟩,fY⟩:=r
 obtain⟨c1,c⟩:=Bool.and_eq_true_iff.mp c
 obtain⟨c2,c3⟩:=Bool.and_eq_true_iff.mp c
 have hn:n=_:=aA c3
 subst hn
 rw[tM e1]
 have he:eval (.Call (.Attribute o' (Str.ofString "verify") j_) [] [] fY) env=(do
  let ov<-attributeBase o' (Str.ofString "verify") env (eval o' env)standAt j_.atName
  methodCall o' (Str.ofString "verify") j_ fY env ov (0+0) (backTo fY (starEach [] env)) []):=rfl
 cases d with
 |zero=>exact ζ c4|succ d=>
 refine O c4 λβ e3 c5=>ξ c5 λq1 RM=>?_
 rw[he,gv (aP c1)]
 refine wpAny_bind (ok.ev e0 X R E _ λvo s1 v1 k1=>wpAny_bind (wpAny_standAt ?_))
 obtain⟨a,rfl,N⟩:=ib e3 v1
 obtain⟨C,dx,od,τ,hC,i1,i2,D,hE,does⟩:=N.mono wE
 have hp:methodCallPos true o' env j_ fY=pure fY:=if_pos (beq_iff_eq.mpr (Nat.eq_of_beq_eq_true c2))
 show wpAny (Md W) A (holding [.ref a] (calleeOf (methodCallForm (0+0) (backTo fY (starEach [] env)) []) o' env (.ref a) (Str.ofString "verify"))>>=λp=>methodCallPos (methodCallForm (0+0) (backTo fY (starEach [] env)) []) o' env j_ fY>>=λc=>callWith c p.1 p.2 (backTo fY (starEach [] env)) []) _ E s1
 rw[xJ,hp]
 have X1:=X.step k1
 have ZH:=GR.step k1
 obtain⟨f,q9,q1'⟩:=GO.at_.2 _ _ hC _ _ _ (rfl:kj (Str.ofString "verify")=some (.v,false))
 obtain⟨CF,AF⟩:=GO.at_.1 _ _ _ q1'
 have hd:=(does .v f q9).2 rfl
 have base:=Ψ ZH.bg ZH.gs
 refine wpAny_bind (wpAny_holding (method_fn X1.inv.k (fo i1 i2) CF.ga CF.gt AF.1 AF.2.1 (congrArg (Option.map Option.isSome) ((lookIn_dict D _).trans (congrArg some (IG hE (by decide+kernel))))) (wpAny_bind (wpAny_pure (callWith_K0 (K:=W.K) X1.inv.k (GO.Be _ _ _ _ q1') ?_)))))
 have RB:ψ A β.d:=R.le (Nat.le_trans (ble q1) (Nat.le_succ _))
 cases hb:β.v with
 |stuck=>exact ζ (a8 (C:=λo=>wN o=some b) hb.symm RM)|exc=>
  cases(a8 (C:=λo=>wN o=some b) hb.symm RM:some true=some b)
  exact wpAny_call ((a8 (C:=λo=>gJ W s1.heap f a β.d o) hb.symm hd:hJ W s1.heap f a β.d) A s1 B (env::fr) _ RB GR.frames (cw _) X1.inv.nil base (ZH.full X1) λe s' hf=>kE rfl e s' ((xH ZH hf).pre k1.os k1.gens))|ok m=>
  cases(a8 (C:=λo=>wN o=some b) hb.symm RM:some false=some b)
  exact wpAny_call ((a8 (C:=λo=>gJ W s1.heap f a β.d o) hb.symm hd:BQ W s1.heap f a β.d) A s1 B (env::fr) _ RB GR.frames (cw _) X1.inv.nil base (ZH.full X1) λs' k2=>wpAny_dropValue (Fk kQ (X1.step k2) ((ae.of k1).trans (.of k2))))
theorem Xz(EF:cK W)(ok:al W sv)(uV:sk W vv){t:Expr}{b:List Stmt}{pos:Pos}{o:VO}(h:vIf W.exc sv vv d cx ρ t b=some o)(X:az W own vol cx ρ env s)(R:ψ A d)(GR:Gr B g fr env A lo s)(qP:∀a∈own,a∈lo):ka W B g fr A own vol cx env (exec (.If t b [] pos) env) o s:=λE Q kQ kE=>by
 refine(exec_If ..).symm▸db h (λ_ h=>O h λbb e1 h=>wpAny_bind (wpAny_standAt (wpAny_bind (ok.tr e1 X R E _ λs1 k1=>?_)))) λr q h=>ξ h λc h=>O h λbb e1 h=>wpAny_bind (wpAny_standAt (wpAny_bind (ok.tr e1 X R E _ λs1 k1=>?_)))
 ·cases bb with
  |false=>exact wpAny_execs_nil (env:=env) (Fk (Option.some.inj h▸kQ) (X.step k1) (.of k1))|true=>exact uV.exs h (X.step k1) R (GR.step k1) qP E Q (λz aV q s' a b=>kQ z aV q s' a ((ae.of k1).trans b)) λz e s' r'=>kE z e s' (r'.pre k1.os k1.gens)
 ·cases bb with
  |false=>exact wpAny_execs_nil (env:=env) (Fk (db (P:=some (VO.go false ρ)=some o) h (λ_ e=>e) (λ_ _ e=>e)|>Option.some.inj|>λz=>z▸kQ) (X.step k1) (.of k1))|true=>
   refine db h (λ_ e=>ζ e) λm e2 e=>?_
   cases e
   exact η c λc1 c2=>O q λst hs hr=>(wj hr).elim λcp=>Exists.rec λpos z=>bX hs▸z▸wpAny_execs_cons (D4 ok EF R (X.step k1) (GR.step k1) c2 (di c1) e2 _ _ λe s' r'=>kE rfl e s' (r'.pre k1.os k1.gens))
theorem adj{it:kL}(IT:bR W it)(GO:bM W G)(EF:cK W)(ok:al W sv)(uV:sk W vv){st:Stmt}{o:VO}(h:vS G it W.exc sv vv d cx ρ st=some o)(X:az W own vol cx ρ env s)(R:ψ A d)(GR:Gr B g fr env A lo s)(qP:∀a∈own,a∈lo):ka W B g fr A own vol cx env (exec st env) o s:=by cases st with
 |Expr e p=>exact cj h λc h=>adi GO ok c h X R GR qP|If t b o p=>exact ξ h λc h=>nil_of c▸Xz EF ok uV h X R GR qP|For t i b o p=>exact ξ h λc h=>η c λc1 c2=>nil_of c1▸O h λms e1 e2=>aaR IT R X GR qP (aP c2) e1 e2 λIs ρ o s e X' GR'=>uV.exs e X' R GR' λa m=>List.mem_append_right _ (qP a m)|Assign ts e p=>
  refine O h λr e1 h=>?_
  cases r with
  |ret m=>exact ζ h|next aV=>
   cases h
   exact λE Q kQ kE=>tI GO ok e1 X R E Q λf s' hr k=>hr.1▸kQ rfl _ rfl s' hr.2 k
 |_=>exact ζ h
theorem Bf{it:kL}(IT:bR W it)(GO:bM W G)(EF:cK W)(ok:al W sv)(uV:sk W vv)(R:ψ A d)(qP:∀a∈own,a∈lo){l:List Stmt}:∀{ρ:au}{o:VO}{s:Shared},vL G it W.exc sv vv d cx l ρ=some o->az W own vol cx ρ env s->Gr B g fr env A lo s->ka W B g fr A own vol cx env (execs l env) o s:=by induction l with
 |nil=>exact λh X GR=>Option.some.inj h▸λE Q kQ kE=>wpAny_execs_nil (kQ rfl _ rfl _ X (.of (.refl _)))|cons st r ih=>exact λh X GR=>O h λo1 e1 e2=>adh GR qP e2 (adj IT GO EF ok uV e1 X R GR qP) λaV s' e3 X' GR'=>ih e3 X' GR'
end
structure sm(W:aE):Prop where
 ns:∃mg mb,W.top.Ns mainGlobals mg/\mg ("super":Str)=none/\W.top.Ns builtinsNs mb/\mb ("super":Str)=some (.type "super")ip:nsIn W.K cStatics "thirdparty.any"=some none
 top:(W.prog.main.scope.names.lookup ("super":Str)).isSome=false
inductive I_(W:aE)(f D:Addr):Prop|mk(o ZI ZJ oD:Obj)(fd:FuncData)(ar:Arg)(ZK:Addr)(vs:Array Value)(file:Str)(tf:Tok)(cc:Addr)(cdD:ClassData)(h1:W.K.lookup f=some o)(h0:o.data=.func fd)(h2:(fd.params.posonlyargs++fd.params.args).head?=some ar)(h3:ar.arg=Str.ofString "self")(h4:fd.code=.ref ZK)(h5:W.K.lookup ZK=some ZI)(h5':ZI.data=.fields vs)(h6:vs[2]?=some (.str file tf))(h7:((W.prog.main.file:Str)==file)=true)(h8:fd.closure.lookup ("__class__":Str)=some cc)(h9:W.K.lookup cc=some ZJ)(h9':ZJ.data=.cell (some (.ref D)))(h10:W.K.lookup D=some oD)(RN:oD.data=.cls cdD)(h11:fd.scope.names.lookup ("__class__":Str)=some .free):I_ W f D
structure gk(W:aE)(names:List (Str×NameKind))(f C D f2:Addr)(n:Str):Prop where
 it:I_ W f D
 sub:mroIn W.K C (.ref D)=some true
 sup:ks_superIn W.K C D n=some (some (.ref f2))ty:typeIn W.K (.ref f2)=some (.type "function")fn:fnIn W.K f2=true
 ns:names.lookup ("super":Str)=some .globalImplicit
 nc:names.lookup ("__class__":Str)=some .free
 I':names.lookup (Str.ofString "self")=some .local
 aiA:∀x,names.lookup x≠some .cell
 hat:(n==("__class__":Str))=false
section
variable{W:aE}{G:fj}{A:Around}{vol own lo:List Addr}{s:Shared}{d:Nat}{env:Env}{cx:Cx}{ρ:au}{sv:Sv}{vv:Vv}{B g:Heap}{fr:List Env}
theorem tN(SW:sm W){f C D f2 a:Addr}{n:Str}(SF:gk W cx.names f C D f2 n)(X:az W own vol cx ρ env s)(H4:RF W f env){m:Str->Option Value}(hm:s.heap.Ns env.locals m)(lr:m (Str.ofString "self")=some (.ref a)){ox:Obj}{ZL:Option Obj}(IA:InstAt s.heap a ox C ZL){body:List Stmt}{p0 p1:Pos}{whole:Sem Value}{E Q:Value->Shared->Prop}(k:∀so s',Step s s'->s'.heap.get? so=some (ks_superObj D a C)->Q (.ref so) s'):_root_.PySem.wpAt (Md W) A (.func body env) (attributeBase (.Call (.Name ("super":Str) p0) [] [] p1) n env whole) Q E s:=by
 obtain⟨o,ZI,ZJ,oD,fd,ar,ZK,vs,file,tf,cc,cdD,h1,h0,h2,h3,h4,h5,h5',h6,h7,h8,h9,h9',h10,RN,h11⟩:=SF.it
 obtain⟨oc',ZF,aiD,fd',g1,g2,g3,g5,g4⟩:=H4
 cases Option.some.inj (h1.symm.trans g1)
 cases h0
 have XK:=X.inv.k
 have hks:=fS X SF.ns (λz=>NameKind.noConfusion z)
 have hkc:env.kindOf ("__class__":Str)=some .free:=(congrArg (λc:Scope=>c.names.lookup ("__class__":Str)) g5).trans h11
 obtain⟨mg,mb,n1,n2,n3,n4⟩:=SW.ns
 refine ks_wpAt_super_base (env:=env) hks hkc SF.hat g2 (XK _ _ h1) rfl h2 (g3.trans h4) (XK _ _ h5) h5' h6 h7 SW.top (ks_loadName_global X.kind hks (loadGlobal_builtin (env:=env) (X.globals▸n1.keeps X.inv.keeps) n2 (X.builtins▸n3.keeps X.inv.keeps) n4 ⟨rfl,wpAny_loadName_free X.kind hkc (g4 _ _ h8) ⟨_,XK _ _ h9,h9'⟩ (h3.symm▸wpAny_loadName_local X.kind (fS X SF.I' (λz=>NameKind.noConfusion z)) hm lr ?_)⟩))
 obtain⟨hh,gg,dd,t,os⟩:=s
 refine ks_wpAny_isType_cls (XK _ _ h10) RN ⟨rfl,ks_wpAny_call_super (XK _ _ h10) RN IA.at_ IA.cls (λc e=>?_) (looks_mroIn XK SF.sub) λh' e kk=>k _ _ ⟨kk,rfl,rfl⟩ e⟩
 have:=IA.no
 unfold notCls at this
 rw[e]at this
 exact υ this
theorem D5(SW:sm W){f C D f2 a so:Addr}{n:Str}(SF:gk W cx.names f C D f2 n)(XK:W.K.In s.heap)(Ic:s.heap.get? so=some (ks_superObj D a C)){ox:Obj}{ZL:Option Obj}(IA:InstAt s.heap a ox C ZL){pl:Sem Bool}{E:Value->Shared->Prop}{Q:Value×List Value->Shared->Prop}(k:∀q s',Step s s'->MethP W.K q f2 (.ref a) s'.heap->Q (.ref q,[]) s'):wpAny (Md W) A (getMethod (.ref so) n pl) Q E s:=by
 obtain⟨hh,g,d,t,os⟩:=s
 refine O SF.sup λcd hc hm=>χ (P:=λv=>v=Value.type "function"->_) (show(W.K.lookup f2).map (·.cls)=some (.type "function")from SF.ty) (λof z hof=>?_) rfl
 exact ks_wpAny_getMethod_super Ic (looks_opaque XK SW.ip) (l₀:=cd.mro) (λA Q E s k q=>wpAny_bind ((looks_clsIn XK hc) A _ E s k (wpAny_pure q))) rfl XK hm (XK _ _ z) hof (ks_ne XK IA hc) SF.hat (k _ _ ⟨λb o e=>Heap.get?_push_of_some _ e,rfl,rfl⟩ ⟨Heap.get?_push_size _ rfl,XK.keeps λb o e=>Heap.get?_push_of_some _ e⟩)
end
def ae2(e:Expr):Bool:=(wO e).elim false λr=>(dI r.1.1).elim false λq=>ak q.2&&(Fast.sEq q.1.1 (Str.ofString "super")&&(Fast.sEq r.1.2.1 (Str.ofString "verify")&&Nat.beq r.1.2.2.endLine r.2.line))
def Ja(st:Stmt):Bool:=st.casesOn (λ_ _ _ _ _ _ _ _ _ _=>false) (λ_ _ _ _ _ _ _ _ _ _=>false) (λ_ _ _ _ _ _ _ _ _ _ _=>false) (λ_ _=>false) (λ_ _=>false) (λ_ _ _=>false) (λ_ _ _ _ _ _ _=>false) (λ_ _ _ _=>false) (λ_ _ _ _ _=>false) (λ_ _ _ _ _=>false) (λ_ _ _ _ _=>false) (λ_ _ _ _=>false) (λ_ _ _ _=>false) (λ_ _ _=>false) (λ_ _ _=>false) (λ_ _ _=>false) (λ_ _ _=>false) (λ_ _ _ _ _=>false) (λ_ _ _ _ _=>false) (λ_ _ _=>false) (λ_ _=>false) (λ_ _ _ _=>false) (λ_ _=>false) (λ_ _=>false) (λe _=>ae2 e) (λ_=>false) (λ_=>false) (λ_=>false)
inductive wP:Stmt->Prop|mk(p0 p1 ap pos ps:Pos)(h:Nat.beq ap.endLine pos.line=true):wP (.Expr (.Call (.Attribute (.Call (.Name (Str.ofString "super") p0) [] [] p1) (Str.ofString "verify") ap) [] [] pos) ps)
theorem D6{st:Stmt}:Ja st=true->wP st:=by cases st with
 |Expr e ps=>
  intro h
  cases h1:wO e with
  |none=>exact υ (a8 (C:=λo:Option ((Expr×Str×Pos)×Pos)=>(o.elim false λr=>(dI r.1.1).elim false λq=>ak q.2&&(Fast.sEq q.1.1 (Str.ofString "super")&&(Fast.sEq r.1.2.1 (Str.ofString "verify")&&Nat.beq r.1.2.2.endLine r.2.line)))=true) h1.symm h)|some r=>
   have h:((dI r.1.1).elim false λq=>ak q.2&&(Fast.sEq q.1.1 (Str.ofString "super")&&(Fast.sEq r.1.2.1 (Str.ofString "verify")&&Nat.beq r.1.2.2.endLine r.2.line)))=true:=a8 (C:=λo:Option ((Expr×Str×Pos)×Pos)=>(o.elim false λr=>(dI r.1.1).elim false λq=>ak q.2&&(Fast.sEq q.1.1 (Str.ofString "super")&&(Fast.sEq r.1.2.1 (Str.ofString "verify")&&Nat.beq r.1.2.2.endLine r.2.line)))=true) h1.symm h
   cases h2:dI r.1.1 with
   |none=>exact υ (a8 (C:=λo:Option ((Str×Pos)×List Expr)=>(o.elim false λq=>ak q.2&&(Fast.sEq q.1.1 (Str.ofString "super")&&(Fast.sEq r.1.2.1 (Str.ofString "verify")&&Nat.beq r.1.2.2.endLine r.2.line)))=true) h2.symm h)|some q=>
    refine η (a8 (C:=λo:Option ((Str×Pos)×List Expr)=>(o.elim false λq=>ak q.2&&(Fast.sEq q.1.1 (Str.ofString "super")&&(Fast.sEq r.1.2.1 (Str.ofString "verify")&&Nat.beq r.1.2.2.endLine r.2.line)))=true) h2.symm h) λc1 c=>η c λc2 c=>η c λc3 c4=>(dh h2).elim λp1 z=>?_
    have e1:e=.Call (.Attribute (.Call (.Name (Str.ofString "super") q.1.2) [] [] p1) (Str.ofString "verify") r.1.2.2) [] [] r.2:=(tM h1).trans (by rw[z,aA c2,nil_of c1,aA c3])
    exact e1▸.mk _ _ _ _ _ c4
 |_=>exact υ
def xK(b:List Stmt):Option (List Stmt):=b.casesOn none λst r=>bif Ja st then some r else none
theorem wk{b r:List Stmt}(e:xK b=some r):∃st,b=st::r/\wP st:=by cases b with
 |nil=>exact ζ e|cons st q=>exact Φ (P:=λr=>∃Rd,st::q=Rd::r/\wP Rd) e λc=>⟨st,rfl,D6 c⟩
def XA(G:fj)(it:kL)(exc:Nat)(sup:Nat->Nat->Option Nat)(sv:Sv)(vv:Vv)(d f:Nat)(ft:kK)(ρ:au):Option Bool:=(xK ft.body).elim ((vL G it exc sv vv d ⟨ft.names⟩ ft.body ρ).map VO.bad) λr=>((lk ρ (Str.ofString "self")).bind gN).bind λp=>(sup f p.1).bind λf2=>(vv.call d f2 (.obj p.1 p.2)).bind λb=>bif b then some true else(vL G it exc sv vv d ⟨ft.names⟩ r ρ).map VO.bad
def Jb(G:fj)(it:kL)(exc:Nat)(sup:Nat->Nat->Option Nat)(sv:Sv)(vv:Vv)(d:Nat)(f:Addr)(o:XV):Option Bool:=d.casesOn none λd=>(G.fn f).bind λft=>(ft.bind [o] []).bind λρ=>bif bp ft.names ρ then XA G it exc sup sv vv d f ft ρ else none
def adk(G:fj)(it:kL)(exc:Nat)(sup:Nat->Nat->Option Nat)(sv:Sv)(vv:Vv):Vv:=⟨Jb G it exc sup sv vv,λd cx ρ l=>vL G it exc sv vv d cx l ρ⟩
noncomputable def Ao(G:fj)(it:kL)(exc:Nat)(sup:Nat->Nat->Option Nat)(sv:Sv):Nat->Vv
 |0=>⟨λ_ _ _=>none,λ_ _ _ _=>none⟩|n+1=>adk G it exc sup sv (Ao G it exc sup sv n)
noncomputable def Bg(W:aE)(G:fj)(sup:Nat->Nat->Option Nat):Prop:=∀f C f2 ft,sup f C=some f2->G.fn f=some ft->∃D,gk W ft.names f C D f2 (Str.ofString "verify")
section
variable{W:aE}{G:fj}{A:Around}{vol own lo:List Addr}{s:Shared}{d:Nat}{env:Env}{cx:Cx}{ρ:au}{sv:Sv}{vv:Vv}{B g:Heap}{fr:List Env}
theorem tO{s0 s s':Shared}{e:Value}(r:aaP W B s0.heap fr s e s')(ho:s.os=s0.os)(hg:s.gens=s0.gens):Q8 B fr W.exc s0 e s':=r.imp λa=>Exists.imp λa0 y=>⟨y.1,y.2.1,y.2.2.1,y.2.2.2.1.trans ho,y.2.2.2.2.trans hg⟩
theorem adl{s0:Shared}(GR:Gr B s0.heap fr env A lo s)(cu:∀a∈own,s0.heap.get? a=none)(k0:Step s0 s){l:List Stmt}{o:VO}(h:ka W B s0.heap fr A own vol cx env (execs l env) o s){RR:Result->Shared->Prop}(kQ:o.bad=false->∀s',Step s0 s'->RR (.ok (.ret .none)) s')(kE:o.bad=true->∀e s',Q8 B fr W.exc s0 e s'->RR (.error e) s'):wpAny (Md W) A (execs l env) (λf s'=>RR (.ok (.ret (match f with|.ret v=>v|_=>.none))) s') (λe s'=>wpAny (Md W) A (leaving env e) (λ_ dz=>RR (.error e) dz) (λe' dz=>RR (.error e') dz) s') s:=h _ _ (λz aV q s' X' k'=>kQ z s' ⟨λb o e=>k'.keep b o (λm=>ζ ((cu b m).symm.trans e)) (k0.keep b o e),k'.os.trans k0.os,k'.gens.trans k0.gens⟩) λz e s' r=>qk GR.frames GR.fe r λdz gn=>kE z e dz (tO gn k0.os k0.gens)
theorem D7{it:kL}(IT:bR W it)(GO:bM W G)(EF:cK W)(SW:sm W){sup:Nat->Nat->Option Nat}(SO:Bg W G sup)(ok:al W sv)(uV:sk W vv){f:Addr}{o:XV}{b:Bool}(h:Jb G it W.exc sup sv vv d f o=some b){vo:Value}(I:Inv W vol s)(R:ψ A d)(jp:A.frames=some fr)(hv:ω W (vis vol s.heap) o vo)(hB:B.StaysIn s.heap)(hF:s.heap.FunFrames B fr)(RR:Result->Shared->Prop)(kQ:b=false->∀s',Step s s'->RR (.ok (.ret .none)) s')(kE:b=true->∀e s',Q8 B fr W.exc s e s'->RR (.error e) s'):codeAny (Md W) A (.call (.ref f) ⟨[vo],[]⟩) RR s:=by cases d with
|zero=>exact ζ h|succ d=>
  refine O h λft e1 h=>O h λρ e2 h=>ξ h λe3 h=>iD I R (GO.fn _ _ e1) e2 e3 (Δ hv aC) aL λown env s2 cu k2 SS RD hf uu fd=>?_
  have GR:Gr B s.heap fr env (A.deeper env) own s2:=⟨Around.frames_deeper jp,hf,hB,k2.keep,cu,hF,SS.fF⟩
  have tail:∀{l:List Stmt}{s3:Shared},Step s2 s3->(vL G it W.exc sv vv d ⟨ft.names⟩ l ρ).map VO.bad=some b->wpAny (Md W) (A.deeper env) (execs l env) (λf s'=>RR (.ok (.ret (match f with|.ret v=>v|_=>.none))) s') (λe s'=>wpAny (Md W) (A.deeper env) (leaving env e) (λ_ dz=>RR (.error e) dz) (λe' dz=>RR (.error e') dz) s') s3:=λk3 h=>χ (P:=λb=>(b=false->∀s',Step s s'->RR (.ok (.ret .none)) s')->(b=true->∀e s',Q8 B fr W.exc s e s'->RR (.error e) s')->_) h (λo e6 kQ kE=>adl (GR.step k3) cu (k2.trans k3) (Bf IT GO EF ok uV RD (λ_ m=>m) e6 (SS.step k3) (GR.step k3)) kQ kE) kQ kE
  refine db h (λ_ h=>codeAny_func (tail (.refl _) h)) λrest hq h=>O h λp lr h=>O h λf2 e4 h=>O h λb1 e5 h=>(SO _ _ _ _ e4 e1).elim λD SF=>(wk hq).elim λst oF=>?_
  obtain⟨m,m1,m2⟩:=SS.loc
  refine O lr λso h1 h2=>?_
  obtain⟨u,u1,u2⟩:=m2 _ _ h1 SF.I'
  have u3:=(e_ h2 u2).1
  obtain⟨a,dx,od,τ,rfl,i1,i2,DD,F⟩:=u3
  have IA:=fo (ι.mp i1).1 (ι.mp i2).1
  refine ks_codeAny_funcAt ?_
  rw[oF.1]
  cases oF.2 with|mk p0 p1 ap pos ps hp=>
    refine ks_wpAt_execs_cons (ks_wpAt_Expr_any ?_ (nV SS) (km rfl))
    have he:eval (.Call (.Attribute (.Call (.Name (Str.ofString "super") p0) [] [] p1) (Str.ofString "verify") ap) [] [] pos) env=(do
      let ov<-attributeBase (.Call (.Name (Str.ofString "super") p0) [] [] p1) (Str.ofString "verify") env (eval (.Call (.Name (Str.ofString "super") p0) [] [] p1) env)standAt ap.atName
      methodCall (.Call (.Name (Str.ofString "super") p0) [] [] p1) (Str.ofString "verify") ap pos env ov (0+0) (backTo pos (starEach [] env)) []):=rfl
    rw[he]
    refine _root_.PySem.wpAt_bind (tN (cx:=⟨ft.names⟩) SW SF SS fd m1 u1 IA λso s3 k3 Ic=>wpAt_of_wpAny (wpAny_bind (wpAny_standAt ?_)))
    have hp:methodCallPos true (.Call (.Name (Str.ofString "super") p0) [] [] p1) env ap pos=pure pos:=if_pos (beq_iff_eq.mpr (Nat.eq_of_beq_eq_true hp))
    show wpAny (Md W) _ (holding [.ref so] (calleeOf (methodCallForm (0+0) (backTo pos (starEach [] env)) []) (.Call (.Name (Str.ofString "super") p0) [] [] p1) env (.ref so) (Str.ofString "verify"))>>=λp=>methodCallPos (methodCallForm (0+0) (backTo pos (starEach [] env)) []) (.Call (.Name (Str.ofString "super") p0) [] [] p1) env ap pos>>=λc=>callWith c p.1 p.2 (backTo pos (starEach [] env)) []) _ _ s3
    rw[xJ,hp]
    have X3:=SS.step k3
    refine wpAny_bind (wpAny_holding (D5 (cx:=⟨ft.names⟩) SW SF X3.inv.k Ic (fo (k3.keep _ _ (ι.mp i1).1) (k3.keep _ _ (ι.mp i2).1)) λqa s4 k4 hq=>wpAny_bind (wpAny_pure (callWith_M0 hq SF.fn (wpAny_call (ks_codeAny_call_bound hq.1 ?_))))))
    have Y3:=k3.trans k4
    have X4:=SS.step Y3
    have GR4:=GR.step Y3
    refine uV.call e5 X4.inv RD GR.frames (ω.step (m:=.obj p.1 p.2) ⟨a,dx,od,τ,rfl,i1,i2,DD,F⟩ Y3) (Ψ GR4.bg GR4.gs) (GR4.full X4) _ (λz s5 k5=>?_) λz e s5 fl=>?_
    · cases z
      exact wpAt_of_wpAny (tail (Y3.trans k5) h)
    · cases z
      cases h
      exact qk GR.frames GR.fe (xH GR4 fl) λdz gn=>kE rfl e dz (tO gn (k2.trans Y3).os (k2.trans Y3).gens)
theorem xL{it:kL}(IT:bR W it)(GO:bM W G)(EF:cK W)(SW:sm W){sup:Nat->Nat->Option Nat}(SO:Bg W G sup)(ok:al W sv)(n:Nat):sk W (Ao G it W.exc sup sv n):=by induction n with
 |zero=>exact⟨λ{d f o b}h=>ζ h,λ{d cx ρ l o}h=>ζ h⟩|succ n uV=>exact⟨λ{d f o b}h{A vol s vo B fr}I R jp hv hB hF RR kQ kE=>D7 IT GO EF SW SO ok uV h I R jp hv hB hF RR kQ kE,λ{d cx ρ l o}h{A own vol lo env s B g fr}X R GR qP=>Bf IT GO EF ok uV R qP h X GR⟩
end
namespace EN
open AutoSeq1(wpAny_loadPart')
theorem kZ(l:Addr)(vs:List Value):Meets (Builtin.«enumerate.__new__» ⟨[.type "enumerate",.ref l],[]⟩) (λ_ R s=>s.heap.get? l=some (dH vs)/\R (.ok (.ret (.ref (s.heap.push {cls:=.type "tuple_iterator",data:=.fields #[.ref l,.int 0 0]}).objs.size))) {s with heap:=(s.heap.push {cls:=.type "tuple_iterator",data:=.fields #[.ref l,.int 0 0]}).push {cls:=.type "enumerate",data:=.fields #[.none,.bool false,.ref s.heap.objs.size,rawInt 0,.none,.none]}}):=.of_wp λprog w A R s h=>by
    obtain⟨hp,g,d,tk,os⟩:=s;obtain⟨hl,h⟩:=h
    have yf:=sub_enumerate
    have hL:Heap.IsTuple (Shared.heap ⟨hp,g,d,tk,os⟩) l vs.toArray:=⟨_,hl,rfl,_,rfl⟩
    wp_walk using wpAny_loadPart' hl
    refine wpAny_stack_any λst=>wpAny_pure ?_
    split
    · rename_i c _ _ _ _ _
      cases(c==Value.type "enumerate")
      · wp_walk using wpAny_loadPart' hl,wpAny_pyIter_tuple hL
        exact⟨_,rfl,h⟩
      · wp_walk using wpAny_loadPart' hl,wpAny_pyIter_tuple hL
        exact⟨_,rfl,h⟩
    · wp_walk using wpAny_loadPart' hl,wpAny_pyIter_tuple hL
      exact⟨_,rfl,h⟩
section
variable{prog:Program}{w:World}{A:Around}{E:Value->Shared->Prop}{s:Shared}
theorem make{l:Addr}{vs:List Value}{Q:Value->Shared->Prop}(hl:s.heap.get? l=some (dH vs))(h:∀h',IsEnum h' (s.heap.objs.size+1) s.heap.objs.size 0 .none->h'.IsTupleIter s.heap.objs.size l 0->(∀b o,s.heap.get? b=some o->h'.get? b=some o)->Q (.ref (s.heap.objs.size+1)) {s with heap:=h'}):wpAny (model prog w) A (call (.type "enumerate") [.ref l]) Q E s:=by
 refine callType_new PySem.F.called_enumerate (by decide) (PySem.F.typeCall_enumerate_1 _) (PySem.F.newCall_enumerate_1 _) (λobj=>PySem.F.args_object_init_2 obj _) PySem.F.entry_enumerate_new (kZ l vs) ⟨hl,?_⟩
 have hz:(s.heap.push {cls:=.type "tuple_iterator",data:=.fields #[.ref l,.int 0 0]}).objs.size=s.heap.objs.size+1:=Heap.size_push ..
 have he:IsEnum ((s.heap.push {cls:=.type "tuple_iterator",data:=.fields #[.ref l,.int 0 0]}).push {cls:=.type "enumerate",data:=.fields #[.none,.bool false,.ref s.heap.objs.size,rawInt 0,.none,.none]}) (s.heap.objs.size+1) s.heap.objs.size 0 .none:=(congrArg (Heap.get? _) hz.symm).trans (Heap.get?_push_size (s.heap.push {cls:=.type "tuple_iterator",data:=.fields #[.ref l,.int 0 0]}) rfl)
 exact hz.symm▸⟨⟨_,he,rfl⟩,h _ he ⟨_,Heap.get?_push_of_some _ (Heap.get?_push_size _ rfl),rfl,rfl⟩ λb o x=>Heap.get?_push_of_some _ (Heap.get?_push_of_some _ x)⟩
theorem wl{it t:Addr}{i:Nat}{items}{x:Value}{Q:Value->Shared->Prop}(pB:s.heap.IsTupleIter it t i)(ht:s.heap.IsTuple t items)(hx:items[i]?=some x)(hQ:∀h',h'.IsTupleIter it t (i+1)->Heap.SameBut it s.heap h'->Q x {s with heap:=h'}):wpAny (model prog w) A (Builtin.SmallTypes.nextOf (.ref it)) Q E s:=by
 obtain⟨o,ho,hc,hd⟩:=id pB
 obtain⟨ol,hol,_,nl,hdl⟩:=ht
 refine wpAny_bind (wpAny_callSpecial?_slot (name:=Str.ofString "__next__") pB.typeIs PySem.F.slot_tuple_iterator_next (wpAny_call_entry PySem.F.slot_tuple_iterator_next pB.typeIs PySem.F.entry_tuple_iterator_next ?_ (PySem.F.args_tuple_iterator_next_1 _)))
 refine wpAny_bind (wpAny_of_eq (a:=(.ref it,[])) rfl (wpAny_bind (wpAny_field ho hd (x:=.ref t) rfl (wpAny_ite (KPc.ite_no Bool.false_ne_true (wpAny_bind (wpAny_field ho hd (x:=.int i 0) rfl (wpAny_bind (wpAny_seqItems hol hdl ?_)))))))))
 simp only[Int.toNat_natCast,hx]
 exact wpAny_bind (wpAny_setField ho hd (ble rfl) (wpAny_pure ⟨x,rfl,wpAny_pure (hQ _ ⟨_,Heap.get?_update_self _ ho (Obj.isFreed_of_fields (Obj.data_mapFields hd _)),(Obj.cls_mapFields ..).trans hc,Obj.data_mapFields hd _⟩ (Heap.SameBut.update ..))⟩))
theorem zz{it t:Addr}{i:Nat}{items}{Q:Value->Shared->Prop}(hh:A.handled=none)(pB:s.heap.IsTupleIter it t i)(ht:s.heap.IsTuple t items)(hx:items[i]?=none)(hE:∀h' e,Heap.ExtBut it s.heap h'->(∃o,h'.get? e=some o/\o.cls=.type "StopIteration")->E (.ref e) {s with heap:=h'}):wpAny (model prog w) A (Builtin.SmallTypes.nextOf (.ref it)) Q E s:=by
 obtain⟨o,ho,hc,hd⟩:=id pB
 obtain⟨ol,hol,_,nl,hdl⟩:=ht
 refine wpAny_bind (wpAny_callSpecial?_slot (name:=Str.ofString "__next__") pB.typeIs PySem.F.slot_tuple_iterator_next (wpAny_call_entry PySem.F.slot_tuple_iterator_next pB.typeIs PySem.F.entry_tuple_iterator_next ?_ (PySem.F.args_tuple_iterator_next_1 _)))
 refine wpAny_bind (wpAny_of_eq (a:=(.ref it,[])) rfl (wpAny_bind (wpAny_field ho hd (x:=.ref t) rfl (wpAny_ite (KPc.ite_no Bool.false_ne_true (wpAny_bind (wpAny_field ho hd (x:=.int i 0) rfl (wpAny_bind (wpAny_seqItems hol hdl ?_)))))))))
 simp only[Int.toNat_natCast,hx]
 refine wpAny_bind (wpAny_rule (wpAny_bind (wpAny_setField ho hd (ble rfl) (wpAny_bind (wpAny_bind (wpAny_newObj_type (wpAny_bind (m:=firstArgMember _ _) (wpAny_of_eq (a:=Value.none) rfl (wpAny_newObj_type ?_ (by size_fits)))) (by size_fits)))))))
 refine wpAny_bind (wpAny_handled ?_)
 rw[show A.in1.handled=none from hh]
 exact wpAny_bind (wpAny_pure (wpAny_throw (hE _ _ (((Heap.SameBut.update ..).extBut.push _).push _) ⟨_,Heap.get?_push_size _ rfl,rfl⟩)))
theorem draws(hh:A.handled=none)(it t:Addr)(uP:t≠it)(items:Array Value):Draws prog w A it [it,t] items.size (λi v=>items[i]?=some v) (λi h=>h.IsTupleIter it t i/\h.IsTuple t items)where
 live:=λ_ _ st=>st.1.imp λo y=>y.1
 frame:=λ_ _ _ st hk=>⟨st.1.at λo e=>hk it (.head _) o e,st.2.at λo e=>hk t (.tail _ (.head _)) o e⟩
 item:=λi s Q E hi st hQ=>wl st.1 st.2 (Array.getElem?_eq_getElem hi) λh' Fl uv=>hQ _ h' s.toks (Array.getElem?_eq_getElem hi) ⟨Fl,st.2.extBut uv.extBut uP⟩ uv
 done:=λs Q E st hE=>zz hh st.1 st.2 (Array.getElem?_eq_none (Nat.le_refl _)) hE
end
end EN
noncomputable def wQ(ms:List XV):List XV:=ms.zipIdx.map λp=>.tuple [.int (.ofNat p.2),p.1]
theorem zA{ms:List XV}{i:Nat}{m:XV}(e:(wQ ms)[i]?=some m):∃x,ms[i]?=some x/\m=.tuple [.int (.ofNat i),x]:=χ (P:=λm=>∃x,ms[i]?=some x/\m=.tuple [.int (.ofNat i),x]) (List.getElem?_map.symm.trans e) λp h=>χ (P:=λp:XV×Nat=>∃x,ms[i]?=some x/\XV.tuple [.int (.ofNat p.2),p.1]=.tuple [.int (.ofNat i),x]) (List.getElem?_zipIdx.symm.trans h) λx h=>⟨x,h,congrArg (λn=>XV.tuple [.int (.ofNat n),x]) (Nat.zero_add i)⟩
section
variable{W:aE}{A:Around}{vol own:List Addr}{s:Shared}{d:Nat}{env:Env}{cx:Cx}{ρ:au}{sv:Sv}
theorem enumSrc{h:Heap}{B t:Addr}{vs:List Value}{ms:List XV}{ts:List Expr}{k:Nat}{tp:Pos}(ht:h.get? t=some (dH vs))(hm:Ξ W h ms vs)(hn:∀d∈[B+1,B],h.get? d=none):w9 W h (B+1) [B+1,B] (wQ ms) (.Tuple ts k tp) (λi s=>h.StaysIn s.heap/\(∃old,IsEnum s.heap (B+1) B i old)/\s.heap.IsTupleIter B t i) (λi v s=>h.StaysIn s.heap/\(∃x T,v=.ref T/\IsEnumOut s.heap (B+1) B i x T)/\s.heap.IsTupleIter B t i):=have uP:B+1≠B:=Nat.succ_ne_self B
have hBt:t≠B:=λz=>ζ ((hn B (.tail _ (.head _))).symm.trans (z▸ht))
have ae3:t≠B+1:=λz=>ζ ((hn (B+1) (.head _)).symm.trans (z▸ht))
have out:∀{d},d∉[B+1,B]->d≠B+1/\d≠B:=λn=>⟨λz=>n (z▸.head _),λz=>n (z▸.tail _ (.head _))⟩
have kof:∀{h1 h':Heap},h.StaysIn h1->(∀d o,d∉[B+1,B]->h1.get? d=some o->h'.get? d=some o)->h.StaysIn h':=λoF k d o e=>k d o (λm=>ζ ((hn d m).symm.trans e)) (oF d o e)
have live:∀{h':Heap}{i j:Nat},(∃o,h'.get? (B+1)=some o)->h'.IsTupleIter B t j->∀a∈[B+1,B],∃o,h'.get? a=some o:=λe x=>aq e (aG (x.imp λ_ y=>y.1))
  have so:∀{s:Shared}{h':Heap}{tk:Tok},(∀d o,d∉[B+1,B]->s.heap.get? d=some o->h'.get? d=some o)->(∀a∈[B+1,B],∃o,h'.get? a=some o)->ae [B+1,B] s {s with heap:=h',toks:=tk}:=λkk l=>⟨λd o n e=>kk d o n e,λd o e=>if z:d∈[B+1,B]then l d z else⟨o,kk d o z e⟩,rfl,rfl⟩
  { mem:=.head _
    new:=hn
    st:=And.left
    Q':=And.left
    live:=λp=>live (i:=0) (p.2.1.imp' (λ_=>_) λ_ e=>e) p.2.2
    next:=λ{A s i m d}R p e E Q q=>by
      obtain⟨oF,⟨old,he⟩,pB⟩:=p
      obtain⟨x,e1,rfl⟩:=zA e
      obtain⟨v,v1,v2⟩:=hm.at e1
      have tup:s.heap.IsTuple t vs.toArray:=⟨_,oF _ _ ht,rfl,0,rfl⟩
      refine wpAny_pyNext_enum_itemD (EN.draws (A:=A.in1) R.handled B t hBt vs.toArray) he ⟨pB,tup⟩ (List.getElem?_eq_some_iff.mp v1|>.elim λh _=>h) uP (λm=>(List.mem_cons.mp m).elim uP λm=>ae3 (List.mem_singleton.mp m).symm) λy h' tk hy ho uv hT hsz hk=>?_
      cases Option.some.inj (v1.symm.trans (List.getElem?_toArray.symm.trans hy))
      have kk:∀d o,d∉[B+1,B]->s.heap.get? d=some o->h'.get? d=some o:=λd o n e=>hk d o (out n).1 (out n).2 e
      exact q (.ref s.heap.objs.size) _ ⟨kof oF kk,⟨_,_,rfl,ho⟩,uv.1⟩ (so kk (live (i:=0) ⟨_,ho⟩ uv.1)) λvol Rg hlv=>fW.mpr ⟨_,[.int i tk,v],rfl,ι.mpr ⟨hT,λm=>(hlv _ m).elim λo e=>ζ ((aX _).symm.trans e)⟩,Δ lC (Δ (v2.mono Rg) aC)⟩
    stop:=λ{A s d}R p E Q q=>by
      obtain⟨oF,⟨old,he⟩,pB⟩:=p
      have lH:(wQ ms).length=vs.length:=List.length_map ..|>.trans (List.length_zipIdx.trans hm.len.symm)
      rw[lH]at he pB
      exact wpAny_pyNext_enum_endD (EN.draws (A:=A.in1) R.handled B t hBt vs.toArray) he ⟨pB,_,oF _ _ ht,rfl,0,rfl⟩ λh' hk=>q _ (λd o n e=>hk d o (out n).2 e) rfl rfl
    self:=λ{A s i E Q}p q=>p.2.1.elim λold he=>wpAny_pyIter_enum he q
    owned:=λ{A s i v E Q}p q=>by
      obtain⟨oF,⟨x,T,rfl,ho⟩,pB⟩:=p
      refine wpAny_letOwnedTupleGo_enum ho λh' he hs=>?_
      have kk:∀d o,d≠B+1->s.heap.get? d=some o->h'.get? d=some o:=λd o n e=>(hs.2 d n).trans e
      have k2:∀d o,d∉[B+1,B]->s.heap.get? d=some o->h'.get? d=some o:=λd o n e=>kk d o (out n).1 e
      have Fl:h'.IsTupleIter B t i:=pB.imp λo y=>⟨kk _ o uP.symm y.1,y.2⟩
      exact q _ ⟨kof oF k2,⟨_,he⟩,Fl⟩ (so k2 (live (i:=0) ⟨_,he⟩ Fl))
    frame:=λ{i s s'}p e hk=>⟨hk,p.2.1.imp λold he=>(e _ (.head _)).trans he,p.2.2.imp λo y=>⟨(e B (.tail _ (.head _))).trans y.1,y.2⟩⟩}
def aaS(v:XV):Bool:=(Aj v).elim false λk=>Nat.beq k.ctorIdx 5
def Jc(f:Expr->Option XV)(tg e:Expr):Option (List XV):=(dI e).bind λq=>(cQ q.2).bind λa=>bif kp tg&&fp q.2 then(f (.Name q.1.1 q.1.2)).bind λv=>bif aaS v then((f a).bind Ab).map wQ else none else none
def ZM(sv:Sv):kL:=λd cx ρ tg e=>(Jc (sv.ev d cx ρ) tg e).or (Rh sv d cx ρ tg e)
theorem GZ{v:XV}:aaS v=true->v=.ty .enumerate:=by cases v with
 |ty k=>cases k<;>first|exact λ_=>rfl|exact υ
 |_=>exact υ
theorem D8(ok:al W sv)(R:ψ A d){tg e:Expr}{ms:List XV}(h:Jc (sv.ev d cx ρ) tg e=some ms)(X:az W own vol cx ρ env s)(E Q:Value->Shared->Prop)(k:∀I Is s2 P Pm h,w9 W h I Is ms tg P Pm->P 0 s2->Step s s2->(∀a∈Is,s.heap.get? a=none)->(∀b∈vol,h.get? b=none)->Q (.ref I) s2):wpAny (Md W) A (eval e env) (λvo s1=>wpAny (Md W) A (pyIter vo) Q E s1) E s:=by
 refine O h λq he h=>O h λa ha h=>ξ h λc h=>O h λv hv h=>ξ h λc2 hz=>η c λc1 c=>?_
 cases GZ c2
 obtain⟨ts,k',tp,rfl⟩:=Cc c1
 obtain⟨pos,rfl⟩:=dh he
 refine χ (P:=λms=>(∀I Is s2 P Pm h,w9 W h I Is ms (.Tuple ts k' tp) P Pm->P 0 s2->Step s s2->(∀a∈Is,s.heap.get? a=none)->(∀b∈vol,h.get? b=none)->Q (.ref I) s2)->_) hz (λl e0 k=>O e0 λo e1 e2=>?_) k
 have c:fp [a]=true:=bX ha▸c
 rw[bX ha]
 refine BJ.mK (arm_eval_Call_Name' ..) (wpAny_bind (ok.ev hv X R E _ λvf s1 h1 k1=>?_))
 cases(show vf=.type "enumerate"from h1)
 refine wF (first:=[]) (l9 (lT c)) (dB (kws:=[]) (ms:=[]) (pos:=pos) ok R rfl X).1 ?_
 rw[show starEach [a] env=[(false,eval a env)]from jK (aP (η c λa _=>a))]
 refine Calls.spliced_cons (ok.ev e1 (X.step k1) R E _ λva s2 h2 k2=>Calls.spliced_nil ((dB (kws:=[]) (ms:=[]) ok R rfl ((X.step k1).step k2)).2 E _ λkv s3 h3 k3=>⟨kS,?_⟩))
 have Y0:=(k1.trans k2).trans k3
 refine cO (P:=λva=>wpAny (Md W) A (call (.type "enumerate") [va] _) _ E s3) (lq e2 (h2.step k3)) λt vs w1 w2=>EN.make (ι.mp w1).1 λh' he pB hk=>?_
 have An:∀d∈[s3.heap.objs.size+1,s3.heap.objs.size],s3.heap.get? d=none:=aq (Heap.get?_none_of_le (Nat.le_add_right _ _)) (aG (aX _))
 exact wpAny_pyIter_enum he (k _ _ _ _ _ _ (enumSrc (h:=vis vol s3.heap) w1 w2 (λd m=>ic (An d m))) ⟨λd o e=>hk d o (ι.mp e).1,⟨_,he⟩,pB⟩ (Y0.trans ⟨λd o e=>hk d o e,rfl,rfl⟩) (λd m=>nR Y0 (An d m)) (λb m=>hideAll_none _ m))
theorem vA(ok:al W sv):bR W (ZM sv):=λ{d cx ρ tg e ms}h{A own vol env s}X R E Q k=>af h (λh=>D8 ok R h X E Q k) λh=>q6 ok h X R E Q k
end
abbrev Nv:=List (Str×Value)
theorem ql{n k:Str}{v:Value}{l:Nv}:((k,v)::l).lookup n=bif n==k then some v else l.lookup n:=by
 rw[List.lookup_cons]
 cases n==k<;>rfl
theorem qm{n:Str}{S:Nv}:n∈S.map (·.1)->(S.lookup n).isNone=false:=by induction S with
 |nil=>exact λm=>nomatch m|cons p r ih=>
  intro m
  rw[ql (v:=p.2)]
  cases c:n==p.1 with
  |true=>rfl|false=>exact ih ((List.mem_cons.mp m).resolve_left λz=>Bool.noConfusion (c.symm.trans (beq_iff_eq.mpr z)))
theorem zB{n:Str}{S:Nv}(h:n∉S.map (·.1)):(S.lookup n).isNone=true:=by cases e:S.lookup n with
 |none=>rfl|some v=>exact(h (List.mem_map_of_mem (f:=(·.1)) (mem_of_lookup e))).elim
theorem xM{S:Nv}:(S.map (·.1)).Nodup->∀p∈S,S.lookup p.1=some p.2:=by induction S with
 |nil=>exact λ_ p m=>nomatch m|cons q r ih=>
  intro hd p m
  have hd:=List.nodup_cons.mp hd
  rw[ql (v:=q.2)]
  cases c:p.1==q.1 with
  |true=>
   refine(List.mem_cons.mp m).elim (λz=>z▸rfl) λm=>(hd.1 ?_).elim
   have mm:p.1∈r.map (·.1):=List.mem_map_of_mem (f:=(·.1)) m
   exact(congrArg (·∈r.map (·.1)) (eq_of_beq c:p.1=q.1)).mp mm|false=>exact ih hd.2 p ((List.mem_cons.mp m).resolve_left λz=>Bool.noConfusion (c.symm.trans (beq_iff_eq.mpr (congrArg Prod.fst z))))
theorem tP{S l:Nv}:(∀p∈l,S.lookup p.1=some p.2)->((l.map (·.1)).filterMap λn=>(S.lookup n).map λx=>(n,x))=l:=by induction l with
 |nil=>exact λ_=>rfl|cons p r ih=>exact λh=>(List.filterMap_cons_some (f:=λn=>(S.lookup n).map λx=>(n,x)) (congrArg (Option.map λx=>(p.1,x)) (h p (.head _)))).trans (congrArg (p::·) (ih λq m=>h q (.tail _ m)))
theorem xN{S:Nv}{l:List Str}(h:∀a∈l,a∈S.map (·.1)):(l.filter λn=>(S.lookup n).isNone)=[]:=List.filter_eq_nil_iff.mpr λa m z=>Bool.noConfusion ((qm (h a m)).symm.trans z)
theorem rM{N:List Str}{vs:List Value}(h:N.length<=vs.length):(N.zip vs).map (·.1)=N:=List.map_fst_zip h
abbrev Fm(x:Str×Value)(r:Nv):Sem (ForInStep Nv):=if(List.lookup x.1 r).isNone=true then pure (ForInStep.yield (r++[(x.1,x.2)]))else pure (ForInStep.yield r)
theorem D9{S k:Nv}{l:Nv}:(∀p∈l,p.1∈S.map (·.1))->forIn (m:=Sem) (l++k) S Fm=forIn (m:=Sem) k S Fm:=by induction l with
 |nil=>exact λ_=>rfl|cons p r ih=>exact λh=>(List.forIn_cons ..).trans ((congrArg (·>>=_) (if_neg λz=>Bool.noConfusion ((qm (h p (.head _))).symm.trans z))).trans (ih λq m=>h q (.tail _ m)))
theorem D_{l:Nv}:∀{S:Nv},((S++l).map (·.1)).Nodup->forIn (m:=Sem) l S Fm=pure (S++l):=by induction l with
 |nil=>exact λ{S}_=>(List.forIn_nil ..).trans (congrArg pure (List.append_nil S).symm)|cons p r ih=>
  intro S h
  have e:S++[p]++r=S++p::r:=List.append_assoc ..
  have hn:p.1∉S.map (·.1):=λm=>(List.nodup_append.mp (List.map_append ..▸h)).2.2 p.1 m p.1 (.head _) rfl
  exact(List.forIn_cons ..).trans ((congrArg (·>>=_) (if_pos (zB hn))).trans ((ih (e▸h)).trans (congrArg pure e)))
section
variable{W:aE}{A:Around}{E:Value->Shared->Prop}{Q:Nv->Shared->Prop}{s:Shared}{fd:FuncData}
theorem D'{as:List Arg}{kd:List (Option Expr)}{df:List Expr}{dv:Value}{o:Option (Array Value)}{n1 n2:List Str}{vs D1 D2:List Value}(hN:as.map (·.arg)=n1++n2)(hn:(n1++n2).Nodup)(hl:n1.length=vs.length)(h1:D1.length<=n1.length)(h2:n2.length=D2.length)(hd:∀Q:Option (Array Value)->Shared->Prop,Q o s->wpAny (Md W) A (seqItems? dv) Q E s)(ho:(o.getD #[]).toList=D1++D2)(q:Q ((n1++n2).zip (vs++D2)) s):wpAny (Md W) A (bindArgs {fd with params:=⟨[],as,none,[],kd,none,df⟩,defaults:=dv} ⟨vs,[]⟩) Q E s:=by
 have hz:(as.map (·.arg)).zip vs=n1.zip vs:=by rw[hN];exact(congrArg _ (List.append_nil vs).symm).trans ((List.zip_append hl).trans ((congrArg (_++·) List.zip_nil_right).trans (List.append_nil _)))
 have hf:(n1.zip vs).map (·.1)=n1:=rM (Nat.le_of_eq hl)
 have hD:((o.getD #[]).toList.drop ((o.getD #[]).toList.length-(as.map (·.arg)).length))=D1++D2:=by rw[ho,hN,List.length_append,List.length_append,h2,Nat.sub_eq_zero_of_le (Nat.add_le_add_right h1 _)];rfl
 have hj:(n1++n2).length-(D1++D2).length=n1.length-D1.length:=by rw[List.length_append,List.length_append,h2,Nat.add_sub_add_right]
 have c2:(((as.map (·.arg)).take ((as.map (·.arg)).length-((o.getD #[]).toList.drop ((o.getD #[]).toList.length-(as.map (·.arg)).length)).length)).filter λn=>(((as.map (·.arg)).zip vs).lookup n).isNone)=[]:=by
  rw[hD,hz,hN,hj,List.take_append_of_le_length (Nat.sub_le _ _)]
  exact xN λa m=>hf.symm▸List.mem_of_mem_take m
 have lp:forIn (m:=Sem) (((as.map (·.arg)).drop ((as.map (·.arg)).length-((o.getD #[]).toList.drop ((o.getD #[]).toList.length-(as.map (·.arg)).length)).length)).zip ((o.getD #[]).toList.drop ((o.getD #[]).toList.length-(as.map (·.arg)).length))) ((as.map (·.arg)).zip vs) Fm=pure ((n1++n2).zip (vs++D2)):=by
  rw[hD,hz,hN,hj,List.drop_append_of_le_length (Nat.sub_le _ _),List.zip_append ((List.length_drop ..).trans (Nat.sub_sub_self h1)),List.zip_append hl]
  exact(D9 λp m=>hf.symm▸List.mem_of_mem_drop (List.of_mem_zip m).1).trans (D_ (by rw[List.map_append,hf,rM (Nat.le_of_eq h2)];exact hn))
 have pA:((as.map Arg.arg++[]).filterMap λn=>(((n1++n2).zip (vs++D2)).lookup n).map λx=>(n,x))=(n1++n2).zip (vs++D2):=by
  have hk:((n1++n2).zip (vs++D2)).map (·.1)=n1++n2:=rM (by rw[List.length_append,List.length_append,hl,h2];exact Nat.le_refl _)
  rw[List.append_nil,hN]
  exact(congrArg (List.filterMap _) hk.symm).trans (tP (xM (hk.symm▸hn)))
 refine wpAny_bind (wpAny_pure (wpAny_bind (hd _ (wpAny_ite (KPc.ite_no ?_ (wpAny_ite (KPc.ite_no ?_ (wpAny_bind (wpAny_of_eq lp (wpAny_bind (wpAny_pure (wpAny_ite (KPc.ite_no Bool.false_ne_true ?_)))))))))))))
 ·exact λz=>absurd (of_decide_eq_true (Bool.and_eq_true_iff.mp z).1) (Nat.not_lt.mpr (Nat.le_trans (Nat.le_of_eq hl.symm) (Nat.le_trans (Nat.le_add_right _ n2.length) (Nat.le_of_eq (List.length_append.symm.trans (congrArg List.length hN.symm))))))
 ·exact λz=>Bool.noConfusion ((congrArg (λl:List Str=>!l.isEmpty) c2).symm.trans z)
 ·exact wpAny_pure (pA.symm▸q)
end
section
variable{W:aE}{A:Around}{vol:List Addr}{s:Shared}{fd:FuncData}
theorem wm:(emptyDict:Obj).IsDictOf (strKind W.prog W.w) []:=⟨#[],0,⟨rfl,rfl,rfl⟩,rfl,λe m=>(List.not_mem_nil (Array.mem_toList_iff.mpr m)).elim,.nil,.nil⟩
theorem zC{D:Addr}{k:Str}{v:Value}{E:Value->Shared->Prop}{Q:Unit->Shared->Prop}(h:s.heap.get? D=some emptyDict)(q:∀h' o tk,h'.get? D=some o->o.IsDictOf (strKind W.prog W.w) [(k,v)]->Heap.SameBut D s.heap h'->Q () {s with heap:=h',toks:=tk}):wpAny (Md W) A (nsSet D k v) Q E s:=by
 have p:Obj.putName k (PyData.keyHash W.w.params k) (.str k s.toks) v emptyDict={cls:=.type "dict",data:=.dict #[⟨PyData.keyHash W.w.params k,.str k s.toks,v⟩] 1}:=by rw[Obj.putName_eq];simp[Obj.putNameByArray]
 have hg:(s.heap.update D (Obj.putName k (PyData.keyHash W.w.params k) (.str k s.toks) v)).get? D=some {cls:=.type "dict",data:=.dict #[⟨PyData.keyHash W.w.params k,.str k s.toks,v⟩] 1}:=(Heap.get?_update_self _ h (p▸rfl)).trans (congrArg some p)
 refine wpAny_bind (wpAny_bind (wpAny_askSetting (wpAny_pure (wpAny_bind (wpAny_mkText (wpAny_bind (wpAny_loadPart h (wpAny_ite (KPc.ite_no (by rw[aRefKeyMayBeTheName_at];simp) (wpAny_updatePart h (q _ _ _ hg ⟨_,_,⟨rfl,rfl,rfl⟩,rfl,λe m=>?_,.cons (strKind_is _ _ _ _) rfl .nil,List.pairwise_singleton _ _⟩ (Heap.SameBut.update ..))))))))))))
 cases List.mem_singleton.mp (Array.mem_toList_iff.mpr m)
 exact⟨k,strKind_is _ _ _ _,rfl⟩
theorem zD{x a b:Arg}{kd:List (Option Expr)}{df:List Expr}{v0:Value}{rest:List Value}{kw:List (Str×Value)}(hl:rest.length<=100)(hk:kw=[]\/∃k v,kw=[(k,v)]/\k≠x.arg)(hs:sysModules<s.heap.objs.size){E:Value->Shared->Prop}{Q:List (Str×Value)->Shared->Prop}(q:∀T D s' oD,s.heap.get? T=none->s.heap.get? D=none->T≠D->s'.heap.get? T=some (dH rest)->s'.heap.get? D=some oD->(D==sysModules)=false->oD.IsDictOf (strKind W.prog W.w) kw->Step s s'->Q [(x.arg,v0),(a.arg,.ref T),(b.arg,.ref D)] s'):wpAny (Md W) A (bindArgs {fd with params:=⟨[],[x],some a,[],kd,some b,df⟩,defaults:=.none} ⟨v0::rest,kw⟩) Q E s:=by
  have hz:(s.heap.push {cls:=.type "tuple",data:=.seq rest.toArray}).objs.size=s.heap.objs.size+1:=Heap.size_push ..
  have hT:s.heap.get? s.heap.objs.size=none:=aX _
  have hD:s.heap.get? (s.heap.push {cls:=.type "tuple",data:=.seq rest.toArray}).objs.size=none:=Heap.get?_none_of_le (Nat.le_trans (Nat.le_succ _) (Nat.le_of_eq hz.symm))
  have hDg:((s.heap.push {cls:=.type "tuple",data:=.seq rest.toArray}).push emptyDict).get? (s.heap.push {cls:=.type "tuple",data:=.seq rest.toArray}).objs.size=some emptyDict:=Heap.get?_push_size _ rfl
  have hTg:((s.heap.push {cls:=.type "tuple",data:=.seq rest.toArray}).push emptyDict).get? s.heap.objs.size=some (dH rest):=Heap.get?_push_of_some _ (Heap.get?_push_size _ rfl)
  have uP:s.heap.objs.size≠(s.heap.push {cls:=.type "tuple",data:=.seq rest.toArray}).objs.size:=hz▸Nat.ne_of_lt (Nat.lt_succ_self _)
  have aaT:((s.heap.push {cls:=.type "tuple",data:=.seq rest.toArray}).objs.size==sysModules)=false:=beq_eq_false_iff_ne.mpr λz=>Nat.lt_irrefl _ (Nat.lt_trans hs (Nat.lt_of_lt_of_eq (Nat.lt_succ_self _) (hz.symm.trans z)))
  have keep:Step s {s with heap:=(s.heap.push {cls:=.type "tuple",data:=.seq rest.toArray}).push emptyDict}:=⟨λc o e=>Heap.get?_push_of_some _ (Heap.get?_push_of_some _ e),rfl,rfl⟩
  have nn:([(x.arg,v0)]:List (Str×Value)).lookup x.arg=some v0:=xM (S:=[(x.arg,v0)]) (List.pairwise_singleton _ _) (x.arg,v0) (.head _)
  have c2:([x.arg].filter λn=>(([(x.arg,v0)]:List (Str×Value)).lookup n).isNone)=[]:=xN λa m=>m
  have pA:([x.arg].filterMap λn=>(([(x.arg,v0)]:List (Str×Value)).lookup n).map λx=>(n,x))=[(x.arg,v0)]:=tP (l:=[(x.arg,v0)]) (aq nn λ_ m=>nomatch m)
  refine wpAny_bind (wpAny_of_eq (a:=([(x.arg,v0)],kw)) ?_ (wpAny_bind (wpAny_pure (wpAny_ite (KPc.ite_no (λz=>Bool.noConfusion ((Bool.and_false _).symm.trans z)) (wpAny_ite (KPc.ite_no (λz=>Bool.noConfusion ((congrArg (λl:List Str=>!l.isEmpty) c2).symm.trans z)) ?_)))))))
  · rcases hk with rfl|⟨k,v,rfl,hkn⟩
    ·rfl
    ·exact(List.forIn_cons ..).trans (congrArg (·>>=_) ((if_neg λz=>hkn (List.mem_singleton.mp (List.contains_iff_mem.mp ((Bool.or_false _).symm.trans z)))).trans (if_pos rfl)))
  refine wpAny_bind (wpAny_pure (wpAny_bind (wpAny_pure (wpAny_ite (KPc.ite_no Bool.false_ne_true (wpAny_bind (wpAny_newTuple (hsz:=Nat.le_trans hl (sizeLine_eq▸by decide)) (wpAny_ite (KPc.ite_no ?_ (wpAny_bind (wpAny_alloc ?_)))))))))))
  ·exact Nat.not_lt.mpr (Nat.le_trans (hk.elim (λz=>z▸Nat.zero_le _) λz=>z.elim λk=>Exists.rec λv y=>y.1▸Nat.le_refl 1:kw.length<=1) (Nat.le_add_left 1 sizeLine))
  rcases hk with rfl|⟨k,v,rfl,hkn⟩
  ·exact wpAny_bind (wpAny_pure (wpAny_pure (pA.symm▸q _ _ _ _ hT hD uP hTg hDg aaT wm keep)))
  · refine wpAny_bind (wpAny_bind (wpAny_bind (zC (s:={s with heap:=(s.heap.push {cls:=.type "tuple",data:=.seq rest.toArray}).push emptyDict}) hDg λh' o tk g1 g2 g3=>wpAny_pure (wpAny_pure (wpAny_pure (pA.symm▸?_))))))
    exact q _ _ {s with heap:=h',toks:=tk} _ hT hD uP ((g3.2 _ uP).trans hTg) g1 aaT g2 ⟨λc o e=>(g3.2 c (λz=>ζ (hD.symm.trans (z▸e)))).trans (keep.keep c o e),rfl,rfl⟩
end
noncomputable def qQ(v:Option (Option Value))(w:Option Value):Bool:=v==some w
theorem bT{v:Option (Option Value)}{w:Option Value}(h:qQ v w=true):v=some w:=beq_iff_eq.mp h
noncomputable def aaU(d:Data):Option FuncData:=d.casesOn none (λ_=>none) (λ_ _=>none) (λ_ _=>none) (λ_ _ _=>none) (λ_ _=>none) (λ_=>none) some (λ_=>none) (λ_=>none) none
noncomputable def Jd(d:Data):Option (List Value):=d.casesOn none (λ_=>none) (λxs _=>some xs.toList) (λ_ _=>none) (λ_ _ _=>none) (λ_ _=>none) (λ_=>none) (λ_=>none) (λ_=>none) (λ_=>none) none
noncomputable def m7(v:Value):Option Addr:=v.casesOn none none none (λ_=>none) (λ_ _=>none) (λ_ _=>none) (λ_ _=>none) (λ_ _=>none) (λ_=>none) (λ_=>none) some
noncomputable def ml(v:Value):Bool:=v.casesOn true false false (λ_=>false) (λ_ _=>false) (λ_ _=>false) (λ_ _=>false) (λ_ _=>false) (λ_=>false) (λ_=>false) (λ_=>false)
noncomputable def Ck(v:Value):Option XV:=v.casesOn (some .none) none none (λb=>some (.bool b)) (λ_ _=>none) (λ_ _=>none) (λ_ _=>none) (λ_ _=>none) (λ_=>none) (λ_=>none) (λ_=>none)
theorem xO{d:Data}{fd}:aaU d=some fd->d=.func fd:=by cases d with
 |func g=>exact λe=>congrArg Data.func (Option.some.inj e)|_=>exact ζ
theorem Ea{d:Data}{l}:Jd d=some l->∃n,d=.seq l.toArray n:=by cases d with
 |seq xs n=>exact λe=>⟨n,Option.some.inj e▸rfl⟩|_=>exact ζ
theorem fV{v:Value}{a}:m7 v=some a->v=.ref a:=by cases v with
 |ref b=>exact λe=>congrArg Value.ref (Option.some.inj e)|_=>exact ζ
theorem ji{v:Value}:ml v=true->v=.none:=by cases v<;>first|exact λ_=>rfl|exact υ
def RO(K:Frag)(f:Nat):Option FuncData:=(K.lookup f).bind λo=>aaU o.data
def dfl(K:Frag)(v:Value):Option (List Value):=bif ml v then some []else(m7 v).bind λt=>(K.lookup t).bind λo=>Jd o.data
noncomputable def Bh:List Value->Option (List XV)
 |[]=>some []|v::r=>two (Ck v) (Bh r) λm q=>some (m::q)
def kwOk(n:Str)(ks:List (Str×XV)):Bool:=ks.casesOn true λp r=>ak r&&!Fast.sEq p.1 n
def bindSt(n0 a b:Str)(ms:List XV)(ks:List (Str×XV)):Option au:=ms.casesOn none λm0 r=>bif Nat.ble r.length 100&&kwOk n0 ks then some [(b,.dict ks),(a,.tuple r),(n0,m0)]else none
def XB(K:Frag)(N:List Str)(dv:Value)(ms:List XV)(ks:List (Str×XV)):Option au:=bif ak ks&&Nat.ble ms.length N.length then(dfl K dv).bind λD=>bif Nat.ble (N.length-ms.length) D.length&&Nat.ble D.length N.length then(Bh (D.drop (D.length-(N.length-ms.length)))).map λds=>(N.zip (ms++ds)).reverse else none else none
def Cm(K:Frag)(fd:FuncData)(ms:List XV)(ks:List (Str×XV)):Option au:=fd.params.vararg.elim (fd.params.kwarg.elim (XB K (fd.params.args.map (·.arg)) fd.defaults ms ks) λ_=>none) λa=>fd.params.kwarg.bind λb=>(cQ fd.params.args).bind λx=>bif ml fd.defaults then bindSt x.arg a.arg b.arg ms ks else none
noncomputable def Cn(b:FuncBody):Option (List Stmt):=b.casesOn some λ_=>none
def fnOf(K:Frag)(f:Nat):Option kK:=(RO K f).bind λfd=>(Cn fd.body).map λb=>⟨b,fd.scope.names,Cm K fd⟩
noncomputable def k_:List (Str×Addr)->Bool
 |[]=>true|p::r=>(r.all λq=>!Nat.beq q.2 p.2)&&k_ r
noncomputable def Eb(k:NameKind):Bool:=k.casesOn true true false true true
def G2(l:List (Str×NameKind)):Bool:=l.all λp=>Eb p.2
def XC(K:Frag)(fd:FuncData):Bool:=fb fd.scope.names&&(k_ fd.closure&&fd.closure.all λp=>(K.lookup p.2).isSome)
def XD(fd:FuncData):Bool:=ak fd.closure&&(G2 fd.scope.names&&cP (fd.scope.names.map (·.1)))
def vB(K:Frag)(fd:FuncData):Bool:=Nat.beq fd.scope.kind.ctorIdx 1&&(!fd.scope.isCoroutine&&(!fd.scope.isGenerator&&(Nat.beq fd.globals mainGlobals&&(Nat.beq fd.builtins builtinsNs&&(codeIn K fd.code fd.qualname&&((XC K fd||XD fd)&&(ak fd.params.posonlyargs&&(ak fd.params.kwonlyargs&&cP (fd.params.args.map (·.arg))))))))))
def Je(K:Frag)(f:Nat):Bool:=(RO K f).elim false (vB K)
section
variable{W:aE}{A:Around}{vol:List Addr}{s:Shared}
theorem Ec{h:Heap}{ms:List XV}:∀{N:List Str}{vs:List Value},Ξ W h ms vs->aY W h (N.zip ms) (N.zip vs):=by induction ms with
 |nil=>exact λ{N vs}x=>(show vs=[]from x)▸by rw[List.zip_nil_right,List.zip_nil_right];exact aL|cons m ms ih=>
  intro N vs x
  cases N with
  |nil=>exact aL|cons n r=>exact am x λv vs h1 h2=>cy h1 (ih h2)
theorem Ed{h:Heap}{a:List (Str×XV)}{x:List (Str×Value)}(F:aY W h a x):aY W h a.reverse x.reverse:=nT (P:=λa x=>aY W h a.reverse x.reverse) aL (λy m r v es hv _ i=>by rw[List.reverse_cons,List.reverse_cons];exact tJ i hv) F
theorem zE{v:Value}{m:XV}{h:Heap}:Ck v=some m->ω W h m v:=by cases v with
 |none=>exact λe=>θ (P:=λm=>ω W h m .none) e rfl|bool b=>exact λe=>θ (P:=λm=>ω W h m (.bool b)) e rfl|_=>exact ζ
theorem Ee{h:Heap}{l:List Value}:∀{ds:List XV},Bh l=some ds->Ξ W h ds l:=by induction l with
 |nil=>exact λe=>θ (P:=λds=>Ξ W h ds []) e aC|cons v r ih=>exact λe=>π e λm q e1 e2 e=>θ (P:=λds=>Ξ W h ds (v::r)) e (Δ (zE e1) (ih e2))
theorem rZ{l:List (Str×Addr)}:k_ l=true->∀p∈l,∀q∈l,p.2=q.2->p=q:=by induction l with
 |nil=>exact λ_ p m=>nomatch m|cons a r ih=>
  refine λh=>η h λh1 h2 p mp q mq e=>?_
  have far:∀q∈r,q.2≠a.2:=λq m z=>Nat.ne_of_beq_eq_false (aP (List.all_eq_true.mp h1 q m)) z
  exact(List.mem_cons.mp mp).elim (λz=>(List.mem_cons.mp mq).elim (λw=>z.trans w.symm) λm=>(far q m (e.symm.trans (congrArg Prod.snd z))).elim) λm=>(List.mem_cons.mp mq).elim (λw=>(far p m (e.trans (congrArg Prod.snd w))).elim) λm'=>ih h2 p m q m' e
theorem XG{h:Heap}{n:Str}{ks:List (Str×XV)}{kv:List (Str×Value)}(c:kwOk n ks=true)(hk:aY W h ks kv):kv=[]\/∃k v,kv=[(k,v)]/\k≠n:=by cases ks with
 |nil=>exact .inl hk|cons p r=>
  refine η c λc1 c2=>?_
  cases nil_of c1
  exact hk.elim λv=>Exists.rec λes y=>.inr ⟨p.1,v,y.1.trans (congrArg ((p.1,v)::·) (show es=[]from y.2.2)),λz=>Bool.noConfusion ((aP c2).symm.trans (Fast.sEq_iff.mpr z))⟩
theorem G3{k:ScopeKind}:Nat.beq k.ctorIdx 1=true->k=.function:=by cases k<;>first|exact λ_=>rfl|exact υ
theorem Ef{Q:Option (Array Value)->Shared->Prop}{E:Value->Shared->Prop}(q:Q none s):wpAny (Md W) A (seqItems? .none) Q E s:=wpAny_pure q
theorem XH{v:Value}{D:List Value}(e:dfl W.K v=some D)(X:W.K.In s.heap):∃o,(∀(E:Value->Shared->Prop)(Q:Option (Array Value)->Shared->Prop),Q o s->wpAny (Md W) A (seqItems? v) Q E s)/\(o.getD #[]).toList=D:=a9 e (λc e=>ji c▸θ (P:=λD=>∃o:Option (Array Value),(∀(E:Value->Shared->Prop)(Q:Option (Array Value)->Shared->Prop),Q o s->wpAny (Md W) A (seqItems? .none) Q E s)/\(o.getD #[]).toList=D) e ⟨none,λE Q q=>Ef q,rfl⟩) λ_ e=>O e λt e1 e=>O e λo e2 e=>(Ea e).elim λn z=>⟨some D.toArray,λE Q q=>fV e1▸wpAny_seqItems (X _ _ e2) z q,rfl⟩
theorem G4{fd:FuncData}(c8:fd.params.posonlyargs=[])(c9:fd.params.kwonlyargs=[])(hn:(fd.params.args.map (·.arg)).Nodup){ms:List XV}{ks:List (Str×XV)}{vs:List Value}{kv:List (Str×Value)}{ρ:au}(I:Inv W vol s)(hv:Ξ W (vis vol s.heap) ms vs)(hk:aY W (vis vol s.heap) ks kv)(h:Cm W.K fd ms ks=some ρ)(E:Value->Shared->Prop)(Q:List (Str×Value)->Shared->Prop)(k:∀binds s',aY W (vis vol s'.heap) ρ binds.reverse->Step s s'->Q binds s'):wpAny (Md W) A (bindArgs fd ⟨vs,kv⟩) Q E s:=by
 obtain⟨nm,qn,⟨po,as,va,ko,kd,kw,df⟩,bd,sc,gl,cl,dv,kdv,doc,pm,an,co,ct,bi⟩:=fd
 cases c8
 cases c9
 cases va with
 |none=>cases kw with
  |some b=>exact ζ h|none=>
   refine ξ h λc h=>η c λc1 c2=>O h λD e1 h=>ξ h λc h=>η c λc3 c4=>χ (P:=λρ=>(∀binds s',aY W (vis vol s'.heap) ρ binds.reverse->Step s s'->Q binds s')->_) h (λds e2 k=>?_) k
   cases nil_of c1
   cases(show kv=[]from hk)
   obtain⟨o,hd,ho⟩:=XH (A:=A) e1 I.k
   have hl:ms.length<=(as.map (·.arg)).length:=ble c2
   have hsp:(as.map (·.arg)).take ms.length++(as.map (·.arg)).drop ms.length=as.map (·.arg):=List.take_append_drop ..
   have b:=D' (W:=W) (A:=A) (E:=E) (Q:=Q) (s:=s) (fd:=⟨nm,qn,⟨[],as,none,[],kd,none,df⟩,bd,sc,gl,cl,dv,kdv,doc,pm,an,co,ct,bi⟩) (kd:=kd) (df:=df) (n1:=(as.map (·.arg)).take ms.length) (n2:=(as.map (·.arg)).drop ms.length) (vs:=vs) (D1:=D.take (D.length-((as.map (·.arg)).length-ms.length))) (D2:=D.drop (D.length-((as.map (·.arg)).length-ms.length))) hsp.symm (hsp.symm▸hn) ((List.length_take_of_le hl).trans hv.len.symm) (Nat.le_trans (List.length_take_le ..) (Nat.le_trans (Nat.sub_le_iff_le_add.mpr (Nat.le_trans (ble c4) (Nat.le_of_eq (Nat.add_sub_cancel' hl).symm))) (Nat.le_of_eq (List.length_take_of_le hl).symm))) ((List.length_drop ..).trans ((Nat.sub_sub_self (ble c3)).symm.trans (List.length_drop ..).symm)) (hd E) (ho.trans (List.take_append_drop ..).symm)
   exact b (hsp.symm▸k _ s (Ed (Ec (el hv (Ee e2)))) (.refl _))
 |some a=>
  refine O h λb hb h2=>O h2 λx hx h3=>ξ h3 λc h4=>?_
  cases(show kw=some b from hb)
  cases bX hx
  cases ji c
  cases ms with
  |nil=>exact ζ h4|cons m0 r=>
   refine ξ h4 λcc hh=>η cc λc1 c2=>am hv λv0 rest w1 w2=>?_
   cases hh
   obtain⟨os,hos⟩:=W.sys
   exact zD (fd:=⟨nm,qn,⟨[],[x],some a,[],kd,some b,df⟩,bd,sc,gl,cl,.none,kdv,doc,pm,an,co,ct,bi⟩) (kd:=kd) (df:=df) (Nat.le_trans (Nat.le_of_eq w2.len) (ble c1)) (XG c2 hk) (Heap.lt_size (I.keeps _ _ hos)) λT D s' oD t1 t2 t3 t4 t5 t6 t7 ks'=>k _ s' (cy (nL.mpr ⟨D,oD,kv,rfl,ι.mpr ⟨t5,I.fresh t2⟩,t6,t7,hk.step ks'⟩) (cy (fW.mpr ⟨T,rest,rfl,ι.mpr ⟨t4,I.fresh t1⟩,w2.step ks'⟩) (cy (w1.step ks') aL))) ks'
theorem zF{b:FuncBody}{l}:Cn b=some l->b=.stmts l:=by cases b with
 |stmts q=>exact λe=>congrArg FuncBody.stmts (Option.some.inj e)|_=>exact ζ
theorem zG{f:Addr}{ft:kK}(c:Je W.K f=true)(e:fnOf W.K f=some ft):fq W f ft:=by
 refine O e λfd h e=>χ (P:=λft=>fq W f ft) e λb hb=>⟨?_⟩
 have c:vB W.K fd=true:=a8 (C:=λo:Option FuncData=>o.elim false (vB W.K)=true) h.symm c
 obtain⟨c1,c⟩:=Bool.and_eq_true_iff.mp c
 obtain⟨c2,c⟩:=Bool.and_eq_true_iff.mp c
 obtain⟨c3,c⟩:=Bool.and_eq_true_iff.mp c
 obtain⟨c4,c⟩:=Bool.and_eq_true_iff.mp c
 obtain⟨c5,c⟩:=Bool.and_eq_true_iff.mp c
 obtain⟨c6,c⟩:=Bool.and_eq_true_iff.mp c
 obtain⟨c7,c⟩:=Bool.and_eq_true_iff.mp c
 obtain⟨c8,c⟩:=Bool.and_eq_true_iff.mp c
 obtain⟨c9,c10⟩:=Bool.and_eq_true_iff.mp c
 refine O h λo ho hd=>?_
 have ho:W.K.lookup f=some ⟨o.cls,o.dict,.func fd,o.slots⟩:=ho.trans (congrArg (λd=>some (⟨o.cls,o.dict,d,o.slots⟩:Obj)) (xO hd))
 refine⟨_,_,_,fd,ho,zF hb,rfl,G3 c1,aP c2,aP c3,Nat.eq_of_beq_eq_true c4,Nat.eq_of_beq_eq_true c5,c6,(Bool.or_eq_true_iff.mp c7).imp (λc=>?_) λc=>?_,λA vol s ms ks vs kv ρ I hv hk hb=>G4 (nil_of c8) (nil_of c9) (ez c10) I hv hk hb⟩
 ·exact η c λq1 c=>η c λq2 q3=>⟨q1,λx y c a b=>congrArg Prod.fst (rZ q2 _ (PySem.mem_of_lookup a) _ (PySem.mem_of_lookup b) rfl),λx c a=>(Option.isSome_iff_exists.mp (List.all_eq_true.mp q3 _ (PySem.mem_of_lookup a))).imp λo z=>W.w8 _ _ z⟩
 ·exact η c λq1 c=>η c λq2 q3=>⟨nil_of q1,λx a=>υ (List.all_eq_true.mp q2 _ (PySem.mem_of_lookup a)),ez q3⟩
end
theorem ac{α:Type}{o:Option α}{F:α->Bool}{P:Prop}(e:o.elim false F=true)(k:∀a,o=some a->F a=true->P):P:=by cases o with
 |none=>exact υ e|some a=>exact k a rfl e
noncomputable def yg(m:Mt):Str:=m.casesOn (Str.ofString "verify") (Str.ofString "type") (Str.ofString "properties") (Str.ofString "__str__") (Str.ofString "compile") (Str.ofString "__len__")
noncomputable def aaV(k:uQ):Option Addr:=k.casesOn none (λ_=>none) (λf _=>some f) λf _=>some f
def jb(T:iZ)(C:Addr)(m:Mt):Option Addr:=(lF T C (yg m)).bind aaV
noncomputable def mo(o:Option Nat)(n:Nat):Bool:=o.elim false (Nat.beq · n)
theorem n_{o:Option Nat}{n:Nat}(h:mo o n=true):o=some n:=ac h λa e c=>e.trans (congrArg some (Nat.eq_of_beq_eq_true c))
noncomputable def H_(o:Option Bool):Bool:=o.elim false id
theorem q_{o:Option Bool}(h:H_ o=true):o=some true:=ac h λa e c=>e.trans (congrArg some c)
def vC(T:iZ)(C:Addr)(f:Nat)(t:Option Mt):Bool:=t.elim true λm=>mo (jb T C m) f
noncomputable def xP(v:Value):Option Bool:=v.casesOn none none none some (λ_ _=>none) (λ_ _=>none) (λ_ _=>none) (λ_ _=>none) (λ_=>none) (λ_=>none) (λ_=>none)
noncomputable def Co(v:Value):Option Int:=v.casesOn none none none (λ_=>none) (λi _=>some i) (λ_ _=>none) (λ_ _=>none) (λ_ _=>none) (λ_=>none) (λ_=>none) (λ_=>none)
noncomputable def ra(v:Value):Option Str:=v.casesOn none none none (λ_=>none) (λ_ _=>none) (λ_ _=>none) (λx _=>some x) (λ_ _=>none) (λ_=>none) (λ_=>none) (λ_=>none)
noncomputable def Cp(v:Value):Option String:=v.casesOn none none none (λ_=>none) (λ_ _=>none) (λ_ _=>none) (λ_ _=>none) (λ_ _=>none) some (λ_=>none) (λ_=>none)
noncomputable def Cq(v:Value):Option String:=v.casesOn none none none (λ_=>none) (λ_ _=>none) (λ_ _=>none) (λ_ _=>none) (λ_ _=>none) (λ_=>none) some (λ_=>none)
theorem wn{v:Value}{b}:xP v=some b->v=.bool b:=by cases v with
 |bool c=>exact λe=>congrArg Value.bool (Option.some.inj e)|_=>exact ζ
theorem zH{v:Value}{b}:Co v=some b->∃t,v=.int b t:=by cases v with
 |int c t=>exact λe=>⟨t,congrArg (Value.int · t) (Option.some.inj e)⟩|_=>exact ζ
theorem lf{v:Value}{b}:ra v=some b->∃t,v=.str b t:=by cases v with
 |str c t=>exact λe=>⟨t,congrArg (Value.str · t) (Option.some.inj e)⟩|_=>exact ζ
theorem zI{v:Value}{b}:Cp v=some b->v=.type b:=by cases v with
 |type c=>exact λe=>congrArg Value.type (Option.some.inj e)|_=>exact ζ
theorem zJ{v:Value}{b}:Cq v=some b->v=.builtin b:=by cases v with
 |builtin c=>exact λe=>congrArg Value.builtin (Option.some.inj e)|_=>exact ζ
def rc(m:XV)(v:Value):Bool:=m.casesOn (ml v) (λb=>(xP v).elim false (·==b)) (λi=>(Co v).elim false (·==i)) (λ_ _=>false) (λ_=>false) (λ_ _=>false) (λx=>(aF x).elim false λl=>(ra v).elim false λy=>dk l y.cps.toList) (λ_=>false) (λ_=>false) (λ_=>false) (λ_=>false) (λ_=>false) (λ_ _=>false) (λ_=>false) (λa=>(m7 v).elim false (Nat.beq a)) (λk=>(Cp v).elim false (·==k.name)) (λk=>(Cq v).elim false (·==k.name)) (λ_=>false) (λ_=>false) (λ_=>false) (λ_=>false) false
theorem lg{W:aE}{m:XV}{v:Value}{hp:Heap}:rc m v=true->ω W hp m v:=by cases m with
 |none=>exact λh=>ji h|bool b=>exact λh=>ac h λc e q=>(wn e).trans (congrArg Value.bool (eq_of_beq q))|int i=>exact λh=>ac h λc e q=>(zH e).imp λt z=>z.trans (congrArg (Value.int · t) (eq_of_beq q))|str x=>exact λh=>ac h λl e1 h=>ac h λy e q=>(lf e).imp λt z=>z.trans (congrArg (Value.str · t) ((congrArg (λl:List Nat=>Str.mk l.toArray) (dY q)).symm.trans (congrArg aD (aJ e1).symm)))|addr a=>exact λh=>ac h λb e q=>(fV e).trans (congrArg Value.ref (Nat.eq_of_beq_eq_true q).symm)|ty k=>exact λh=>ac h λb e q=>(zI e).trans (congrArg Value.type (eq_of_beq q))|bi k=>exact λh=>ac h λb e q=>(zJ e).trans (congrArg Value.builtin (eq_of_beq q))|_=>exact υ
def rd(K:Frag)(C:Addr):Bool:=qQ (findIn K (.ref C) "__getattribute__") (some (.builtin "object.__getattribute__"))&&(qQ (findIn K (.ref C) "__getattr__") none&&(clsIn K C).elim false (·.hasDict))
noncomputable def wR(K:Frag)(f:Nat):Bool:=(typeIn K (.ref f)).elim false (·==.type "function")
noncomputable def Bj(K:Frag)(C:Addr)(x:Str):Option Value:=(findIn K (.ref C) x).bind id
theorem tQ{K:Frag}{C:Addr}{x:Str}{a}(h:Bj K C x=some a):findIn K (.ref C) x=some (some a):=O h λo e z=>e.trans (congrArg some z)
def xQ(o:Option (List Value)):Option Addr:=o.bind λl=>l.casesOn none λv _=>m7 v
theorem wo{o:Option (List Value)}{g}(h:xQ o=some g):∃r,o=some (.ref g::r):=O h λl e h=>by cases l with
 |nil=>exact ζ h|cons v r=>exact⟨r,e.trans (congrArg (λv=>some (v::r)) (fV h))⟩
def Cr(K:Frag)(T:iZ)(C:Addr)(x:Str)(k:uQ):Bool:=k.casesOn (qQ (findIn K (.ref C) x) none) (λm=>(Bj K C x).elim false λa=>qQ (specialIn K a "__get__") none&&(!copiedNames.contains x&&rc m a)) (λf t=>((Bj K C x).bind m7).elim false λp=>qQ (specialIn K (.ref p) "__get__") (some (.builtin "property.__get__"))&&(H_ (takesIn K (.ref p))&&(mo (xQ (recIn K p "property")) f&&vC T C f t))) λf t=>qQ (findIn K (.ref C) x) (some (.ref f))&&(wR K f&&(keepIn K (.ref f)&&vC T C f t))
def wS(K:Frag)(T:iZ):Bool:=T.all λp=>rd K p.1&&p.2.all λq=>Cr K T p.1 q.1 q.2
noncomputable def aaW(a b:Mt):Bool:=Nat.beq a.ctorIdx b.ctorIdx
theorem G5{a b:Mt}:aaW a b=true->a=b:=by cases a<;>cases b<;>first|exact λ_=>rfl|exact υ
def Bl(t:Option Mt)(m:Mt):Bool:=t.elim false (aaW · m)
noncomputable def qy(m:Mt):Bool:=m.casesOn false true true false false false
def aaX(m:Mt)(k:uQ):Bool:=k.casesOn false (λ_=>false) (λ_ t=>qy m&&Bl t m) λ_ t=>!qy m&&Bl t m
def uz(T:iZ)(C:Nat)(m:Mt):Bool:=(lF T C (yg m)).elim false (aaX m)
def Jf(T:iZ)(nt:List (Nat×Bool)):Bool:=nt.all λp=>uz T p.1 .v&&(uz T p.1 .t&&(uz T p.1 .p&&(uz T p.1 .s&&(uz T p.1 .c&&uz T p.1 .l))))
def Jg(K:Frag)(gl:List (Str×XV)):Bool:=nsOkIn K mainGlobals&&(nsOkIn K builtinsNs&&gl.all λp=>(nsIn K mainGlobals p.1).elim false λo=>o.elim (((nsIn K builtinsNs p.1).bind id).elim false (rc p.2)) (rc p.2))
def ie(K:Frag)(C:Addr):Bool:=plainGet K C "__class__"&&(hasDictIn K C&&(qQ (findIn K (.ref C) "__class__") (some (.builtin "object.__class__"))&&(qQ (specialIn K (.builtin "object.__class__") "__get__") (some (.builtin "getset_descriptor.__get__"))&&(H_ (takesIn K (.builtin "object.__class__"))&&H_ (mroIn K C (.type "object"))))))
noncomputable def fk(o:Option Bool)(b:Bool):Bool:=o.elim false (·==b)
theorem ku{o:Option Bool}{b:Bool}(h:fk o b=true):o=some b:=ac h λa e c=>e.trans (congrArg some (eq_of_beq c))
def Jh(K:Frag)(T:IsT)(iS wrap:Addr)(nt:List (Nat×Bool)):Bool:=(T.all λp=>fk (kitOne K (.type "str") (.ref p.1)) false&&(ie K p.1&&(fk (kitOne K (.ref p.1) (.type "str")) false&&p.2.all λq=>fk (kitOne K (.ref p.1) (.ref q.1)) q.2)))&&nt.all λp=>ie K p.1&&(fk (kitOne K (.ref p.1) (.ref iS)) true&&fk (kitOne K (.ref p.1) (.ref wrap)) p.2)
def Cs(K:Frag)(C:Addr):Bool:=rd K C&&((clsIn K C).elim false (λcd=>Nat.ble (cd.name.cps.foldl (λk c=>k+(Str.utf8Of c).length) 0) 100&&Nat.ble (Str.ofString cd.name.toString).length 1000)&&(qQ (findIn K (.ref C) HA.nm) none&&fk (subIn K (.ref C) (.type "module")) false))
noncomputable def Ji(f:CFound):Option ((Value×Value)×(Value×Value)):=match f with
 |.get g t c ty=>some ((g,t),(c,ty))|_=>none
def G6(o:Obj):Option Str:=((o.slots[2]?:Option (Option Value)).bind id).bind ra
def xR(K:Frag)(C:Addr)(n:Str):Bool:=readsIn K C (.type "type")&&(((findCls K (.ref C) (.type "type") "__name__").bind Ji).elim false (λq=>q.1.1==.builtin "getset_descriptor.__get__"&&(q.1.2==.builtin "type.__name__"&&(q.2.1==.ref C&&q.2.2==.type "type")))&&((typeIn K (.ref C)).elim false (·==.type "type")&&((K.lookup C).elim false λo=>(G6 o).elim false (·==n))))
def Ct(K:Frag)(C:Addr):Bool:=qQ (findIn K (.ref C) "__setattr__") (some (.builtin "object.__setattr__"))&&(plainOver K C&&(clsIn K C).any (·.hasDict))
def Jj(K:Frag)(C f:Addr):Bool:=makesIn K C&&(qQ (findIn K (.ref C) "__init__") (some (.ref f))&&(wR K f&&Ct K C))
noncomputable def aaY(d:Data):Option ClassData:=d.casesOn none (λ_=>none) (λ_ _=>none) (λ_ _=>none) (λ_ _ _=>none) (λ_ _=>none) (λ_=>none) (λ_=>none) some (λ_=>none) none
noncomputable def aaZ(d:Data):Option (Array Value):=d.casesOn none (λ_=>none) (λ_ _=>none) (λ_ _=>none) (λ_ _ _=>none) (λ_ _=>none) (λ_=>none) (λ_=>none) (λ_=>none) some none
def Cu(d:Data):Option Addr:=d.casesOn none (λ_=>none) (λ_ _=>none) (λ_ _=>none) (λ_ _ _=>none) (λ_ _=>none) (λo=>o.bind m7) (λ_=>none) (λ_=>none) (λ_=>none) none
noncomputable def Y4(l:List (Str×NameKind))(x:Str)(k:NameKind):Bool:=(l.lookup x).elim false (·==k)
def Bm(K:Frag)(main:Str)(C f2:Addr)(n:Str)(fd:FuncData):Bool:=((fd.params.posonlyargs++fd.params.args).head?).elim false (λar=>ar.arg==Str.ofString "self")&&((((m7 fd.code).bind λa=>K.lookup a).bind λo=>aaZ o.data).elim false (λvs=>((vs[2]?:Option Value).bind ra).elim false (main==·))&&((((fd.closure.lookup ("__class__":Str)).bind λa=>K.lookup a).bind λo=>Cu o.data).elim false (λD=>((K.lookup D).bind λo=>aaY o.data).isSome&&(H_ (mroIn K C (.ref D))&&qQ (ks_superIn K C D n) (some (.ref f2))))&&(Y4 fd.scope.names ("__class__":Str) .free&&(Y4 fd.scope.names ("super":Str) .globalImplicit&&(Y4 fd.scope.names (Str.ofString "self") .local&&fb fd.scope.names)))))
def vD(K:Frag)(main:Str)(f C f2:Addr)(n:Str):Bool:=(RO K f).elim false (Bm K main C f2 n)&&(wR K f2&&(fnIn K f2&&!(n==("__class__":Str))))
def xS(K:Frag)(p:Program):Bool:=nsOkIn K mainGlobals&&(nsOkIn K builtinsNs&&(qQ (nsIn K mainGlobals "super") none&&(qQ (nsIn K builtinsNs "super") (some (.type "super"))&&(qQ (nsIn K cStatics "thirdparty.any") none&&!(p.main.scope.names.lookup ("super":Str)).isSome))))
section
variable{W:aE}
theorem qo{C:Addr}(h:rd W.K C=true):iB W C:=η h λh1 h=>η h λh2 h3=>⟨bT h1,bT h2,ac h3 λcd e c=>⟨cd,e,c⟩⟩
theorem nW{K:Frag}{f:Addr}(h:wR K f=true):typeIn K (.ref f)=some (.type "function"):=ac h λt e c=>e.trans (congrArg some (eq_of_beq c))
theorem qp{T:iZ}{C:Addr}{f:Nat}{t:Option Mt}(hm:W.μ=jb T)(h:vC T C f t=true):∀t',t=some t'->W.μ C t'=some f:=λt' e=>(congrFun (congrFun hm C) t').trans (n_ (a8 (C:=λt:Option Mt=>t.elim true (λm=>mo (jb T C m) f)=true) e.symm h))
theorem lh{T:iZ}(h:wS W.K T=true){C:Addr}{x:Str}{k:uQ}(e:lF T C x=some k):rd W.K C=true/\Cr W.K T C x k=true:=O e λl e1 e2=>η (List.all_eq_true.mp h _ (cI e1)) λa b=>⟨a,List.all_eq_true.mp b _ (nq e2)⟩
theorem G7{m:Mt}{k:uQ}(h:aaX m k=true):∃f,k=bif qy m then .prop f (some m)else .μ f (some m):=by
 have tag:∀{t:Option Mt},Bl t m=true->t=some m:=λh=>ac h λa e c=>e.trans (congrArg some (G5 c))
 cases k with
 |prop f t=>exact η h λc h=>c▸⟨f,congrArg (uQ.prop f) (tag h)⟩|μ f t=>exact η h λc h=>(aP c)▸⟨f,congrArg (uQ.μ f) (tag h)⟩|_=>exact υ h
theorem r8{x:Str}{q:Mt×Bool}(h:kj x=some q):x=yg q.1/\q.2=qy q.1:=by
 have go:∀{c:Bool}{m:Mt}{b:Bool}{r:Option (Mt×Bool)},(bif c then some (m,b)else r)=some q->(c=true->x=yg m)->b=qy m->(r=some q->x=yg q.1/\q.2=qy q.1)->x=yg q.1/\q.2=qy q.1:=λh hx hb k=>a9 h (λc e=>Option.some.inj e▸⟨hx c,hb⟩) λ_ e=>k e
 exact go h aA rfl λh=>go h aA rfl λh=>go h aA rfl λh=>go h aA rfl λh=>go h aA rfl λh=>go h aA rfl λh=>ζ h
theorem G8{T:iZ}{nt:List (Nat×Bool)}(hm:W.μ=jb T)(hn:W.jD=iL nt)(h:wS W.K T=true)(h2:Jf T nt=true):oB W T:=by
  refine⟨λC x k e=>⟨qo (lh h e).1,?_⟩,λC wr q x m p e=>?_⟩
  · have c2:=(lh h e).2
    cases k with
|own=>exact bT c2|const m=>exact ac c2 λa q c=>η c λc1 c=>η c λc2 c3=>⟨a,tQ q,bT c1,aP c2,λhp _=>lg c3⟩|prop f t=>exact ac c2 λp q c=>η c λc1 c=>η c λc2 c=>η c λc3 c4=>O q λv q1 q2=>(wo (n_ c3)).elim λr hr=>⟨⟨p,r,(tQ q1).trans (congrArg (λv=>some (some v)) (fV q2)),bT c1,q_ c2,hr⟩,qp hm c4⟩|μ f t=>exact η c2 λc1 c=>η c λc2 c=>η c λ_ c4=>⟨bT c1,nW c2,qp hm c4⟩
  · obtain⟨rfl,z⟩:=r8 e
    cases(show p=qy m from z)
    have all:uz T C m=true:=η (List.all_eq_true.mp h2 (C,wr) (cI (hn▸q))) λt1 t=>η t λt2 t=>η t λt3 t=>η t λt4 t=>η t λt5 t6=>m.casesOn t1 t2 t3 t4 t5 t6
    exact ac all λk e1 c=>(G7 c).imp λf hf=>⟨(congrFun (congrFun hm C) m).trans ((congrArg (·.bind aaV) e1).trans (hf▸by cases qy m<;>rfl)),e1.trans (congrArg some hf)⟩
theorem Eg{T:iZ}(h:wS W.K T=true):∀C x f t,lF T C x=some (.μ f t)->keepIn W.K (.ref f)=true:=λC x f t e=>η (lh h e).2 λ_ c=>η c λ_ c=>η c λc _=>c
theorem jj{K:Frag}{h:Heap}{N:Addr}{mg:Str->Option Value}{n:Str}{v:Value}(X:K.In h)(G:h.Ns N mg)(e:nsIn K N n=some (some v)):mg n=some v:=by
  obtain⟨o,es,ep,ho,hd,_,hf⟩:=G
  unfold nsIn at e
  split at e
  · rename_i c d es' n' sl q
    cases Option.some.inj (ho.symm.trans (X _ _ q))
    cases hd
    split at e
    · rename_i en he
      cases e
      rw[<-hf]
      unfold nsFind findBy
      rw[<-Array.find?_toList,he]
      rfl
    ·split at e<;>cases e
  ·cases e
theorem G9{gl:List (Str×XV)}(h:Jg W.K gl=true):Ah W ⟨gl⟩:=λx m e=>η h λh1 h=>η h λh2 h=>by
 have n1:=Heap.Ns.of_isNs (isNs_of_in W.w8 h1)
 have n2:=Heap.Ns.of_isNs (isNs_of_in W.w8 h2)
 refine ac (List.all_eq_true.mp h _ (nq e)) λo q c=>?_
 cases o with
 |some u=>exact⟨u,λhp _=>lg c,_,n1,.inl (jj W.w8 n1 q)⟩|none=>exact ac c λu q2 c=>O q2 λv a b=>⟨u,λhp _=>lg c,_,n1,.inr ⟨ns_none_of W.w8 n1 q,_,n2,jj W.w8 n2 (a.trans (congrArg some b))⟩⟩
theorem lW{C:Addr}(h:ie W.K C=true):wK W C:=η h λh1 h=>η h λh2 h=>η h λh3 h=>η h λh4 h=>η h λh5 h6=>⟨h1,h2,bT h3,bT h4,q_ h5,q_ h6⟩
theorem G_{T:IsT}{iS wrap:Addr}{nt:List (Nat×Bool)}(hn:W.jD=iL nt)(h:Jh W.K T iS wrap nt=true):RJ W T iS wrap:=η h λh1 h2=>
 have a:∀{C l}{P:Prop},iL T C=some l->(kitOne W.K (.type "str") (.ref C)=some false->ie W.K C=true->kitOne W.K (.ref C) (.type "str")=some false->(∀q∈l,kitOne W.K (.ref C) (.ref q.1)=some q.2)->P)->P:=λe k=>η (List.all_eq_true.mp h1 _ (cI e)) λc1 c=>η c λc2 c=>η c λc3 c4=>k (ku c1) c2 (ku c3) λq m=>ku (List.all_eq_true.mp c4 q m)
 have b:∀{C wr},W.jD C=some wr->ie W.K C=true/\kitOne W.K (.ref C) (.ref iS)=some true/\kitOne W.K (.ref C) (.ref wrap)=some wr:=λe=>η (List.all_eq_true.mp h2 _ (cI (hn▸e))) λc1 c=>η c λc2 c3=>⟨c1,ku c2,ku c3⟩
 ⟨λC l e=>a e λ_ c d _=>⟨lW c,d⟩,λC D t e=>O e λl e1 e2=>a e1 λ_ _ _ c=>c _ (cI e2),λC wr e=>⟨lW (b e).1,(b e).2.1⟩,λC wr e=>(b e).2.2,λC l e=>a e λc _ _ _=>c⟩
theorem zK{C:Addr}(h:Cs W.K C=true):iB W C/\rK W C:=η h λh1 h=>η h λh2 h=>η h λh3 h4=>⟨qo h1,ac h2 λcd q c=>η c λa b=>⟨cd,q,ble a,ble b⟩,bT h3,ku h4⟩
theorem Eh{f:CFound}{q}:Ji f=some q->f=.get q.1.1 q.1.2 q.2.1 q.2.2:=by cases f with
 |get g t c ty=>exact λe=>θ (P:=λq:(Value×Value)×(Value×Value)=>CFound.get g t c ty=.get q.1.1 q.1.2 q.2.1 q.2.2) e rfl|_=>exact ζ
theorem wq{C:Addr}{n:Str}(h:xR W.K C n=true):jY W C n:=η h λh1 h=>η h λh2 h=>η h λh3 h4=>⟨h1,ac h2 λq e c=>O e λf e1 e2=>η c λc1 c=>η c λc2 c=>η c λc3 c4=>by rw[e1,Eh e2,eq_of_beq c1,eq_of_beq c2,eq_of_beq c3,eq_of_beq c4],ac h3 λt e c=>e.trans (congrArg some (eq_of_beq c)),ac h4 λo e c=>ac c λm e1 c=>O e1 λv e2 e3=>O e2 λw e4 e5=>(lf e3).elim λu z=>⟨o,u,e,e4.trans (congrArg some ((show w=some v from e5).trans (congrArg some (z.trans (congrArg (Value.str · u) (eq_of_beq c))))))⟩⟩
theorem zL{C:Addr}(h:Ct W.K C=true):mh W C:=η h λh1 h=>η h λh2 h3=>⟨bT h1,h2,h3⟩
theorem Ei{C f:Addr}(h:Jj W.K C f=true):q8 W C f:=η h λh1 h=>η h λh2 h=>η h λh3 h4=>⟨h1,bT h2,nW h3,zL h4⟩
theorem oy{l:List (Str×NameKind)}:fb l=true->∀x,l.lookup x≠some .cell:=by induction l with
 |nil=>exact λ_ x h=>nomatch h|cons p r ih=>
  refine λh=>η h λh1 h2 x e=>?_
  obtain⟨n,k⟩:=p
  rw[List.lookup_cons]at e
  cases c:x==n with
  |true=>rw[c]at e;cases e;exact υ h1|false=>rw[c]at e;exact ih h2 x e
theorem rf{l:List (Str×NameKind)}{x:Str}{k:NameKind}(h:Y4 l x k=true):l.lookup x=some k:=ac h λa e c=>e.trans (congrArg some (eq_of_beq c))
theorem G'{d:Data}{l}:aaZ d=some l->d=.fields l:=by cases d with
 |fields n=>exact λe=>congrArg Data.fields (Option.some.inj e)|_=>exact ζ
theorem Ha{d:Data}{l}:aaY d=some l->d=.cls l:=by cases d with
 |cls n=>exact λe=>congrArg Data.cls (Option.some.inj e)|_=>exact ζ
theorem zM{d:Data}{a}:Cu d=some a->d=.cell (some (.ref a)):=by cases d with
 |cell o=>exact λh=>O h λv e1 e2=>congrArg Data.cell (e1.trans (congrArg some (fV e2)))|_=>exact ζ
theorem qq{f C f2:Addr}{n:Str}{ft:kK}(h:vD W.K W.prog.main.file f C f2 n=true)(e:fnOf W.K f=some ft):∃D,gk W ft.names f C D f2 n:=by
 refine η h λh1 h=>η h λh2 h=>η h λh3 h4=>O e λfd H4 e=>χ (P:=λft:kK=>∃D,gk W ft.names f C D f2 n) e λb _=>?_
 have h1:Bm W.K W.prog.main.file C f2 n fd=true:=a8 (C:=λo:Option FuncData=>o.elim false (Bm W.K W.prog.main.file C f2 n)=true) H4.symm h1
 refine O H4 λo ho hd=>η h1 λa1 a=>η a λa2 a=>η a λa3 a=>η a λa4 a=>η a λa5 a=>η a λa6 a7=>ac a1 λar q1 a1=>ac a2 λvs q2 a2=>ac a3 λD q3 a3=>?_
 refine O q2 λZI r1 r2=>O r1 λZK r3 r4=>ac a2 λfile r5 a2=>O r5 λfv r6 r7=>(lf r7).elim λtf z=>O q3 λZJ s1 s2=>O s1 λcc s3 s4=>η a3 λb1 a3=>η a3 λb2 b3=>(Option.isSome_iff_exists.mp b1).elim λcdD t=>O t λoD t1 t2=>?_
 exact⟨D,⟨o,ZI,ZJ,oD,fd,ar,ZK,vs,file,tf,cc,cdD,ho,xO hd,q1,eq_of_beq a1,fV r3,r4,G' r2,r6.trans (congrArg some z),a2,s3,s4,zM s2,t1,Ha t2,rf a4⟩,q_ b2,bT b3,nW h2,h3,rf a5,rf a4,rf a6,oy a7,aP h4⟩
theorem wt(h:xS W.K W.prog=true):sm W:=η h λh1 h=>η h λh2 h=>η h λh3 h=>η h λh4 h=>η h λh5 h6=>have n1:=Heap.Ns.of_isNs (isNs_of_in W.w8 h1)
 have n2:=Heap.Ns.of_isNs (isNs_of_in W.w8 h2)
 ⟨⟨_,_,n1,ns_none_of W.w8 n1 (bT h3),n2,jj W.w8 n2 (bT h4)⟩,bT h5,aP h6⟩
end
open PySem.W.SL
noncomputable abbrev prog:Program:=PySem.Challenge.rw_kk0017_01.prog
noncomputable def kk{α:Type}(_:α):Bool:=true
noncomputable abbrev AST:Program:=PySem.Challenge.pw_kk0017_01
@[reducible]noncomputable def N0:Value:=.none
@[reducible]noncomputable def bt:Value:=.bool true
@[reducible]noncomputable def bf:Value:=.bool false
@[reducible]def I(i t:Nat):Value:=.int (.ofNat i) t
@[reducible]def S(s:Str)(t:Nat):Value:=.str s t
@[reducible]noncomputable def ty(s:String):Value:=.type s
@[reducible]noncomputable def bi(s:String):Value:=.builtin s
@[reducible]noncomputable def r(a:Nat):Value:=.ref a
@[reducible]noncomputable def E(P:Params)(x:Str)(t:Nat)(v:Value):DictEntry:=⟨PyData.keyHash P x,.str x t,v⟩
noncomputable def app{α:Type}:List α->List α->List α
 |[],l=>l|x::q,l=>x::app q l
noncomputable def om{α:Type}:List (List α)->List α
 |[]=>[]|x::q=>app x (om q)
noncomputable def alt{α:Type}:Bool->List α->List α
 |_,[]=>[]|true,x::q=>x::alt false q|false,_::q=>alt true q
noncomputable def ny:Nat->List Obj->BT
 |0,_=>.nil|_+1,[]=>.nil|n+1,x::q=>.node x (ny n (alt true q)) (ny n (alt false q))
def st(L:Params->List Obj)(n t:Nat)(w:World)(os:OsState):SharedT:=⟨ny 13 (L w.params),n,{},⟨[]⟩,{},t,os⟩
structure FD where
 a:Arguments
 b:List Stmt
 s:Scope deriving Inhabited
noncomputable def Ap:List Stmt->Nat->List Stmt
 |[],_=>[]|x::_,0=>[x]|_::q,n+1=>Ap q n
noncomputable def fdOf:List Stmt->FD
 |.FunctionDef _ a b _ _ _ sc _ _ _::_=>⟨a,b,sc⟩|_=>default
noncomputable def XI:List Stmt->List Stmt
 |.ClassDef _ _ _ b _ _ _ _ _ _ _::_=>b|_=>[]
def fa(i:Nat):FD:=fdOf (Ap AST.main.body i)
def fc(i j:Nat):FD:=fdOf (Ap (XI (Ap AST.main.body i)) j)
noncomputable def fu(d:FD)(name qual:Str)(g:Nat)(closure:List (Str×Nat))(dv kv doc pm:Value)(an:Option Nat)(code ct:Value)(b:Nat):FuncData:={name:=name,qualname:=qual,params:=d.a,body:=.stmts d.b,scope:=d.s,globals:=g,closure:=closure,defaults:=dv,kwdefaults:=kv,doc:=doc,pyModule:=pm,annotations:=an,code:=code,closureTuple:=ct,builtins:=b}
noncomputable def cl(name:Str)(bases mro:List Value)(ns:Nat)(q:Str)(hd:Bool)(sl:List Str)(sub:List Value)(ab:Bool)(co:Option Bool)(del:Bool):ClassData:={name:=name,bases:=bases,mro:=mro,ns:=ns,qualname:=q,hasDict:=hd,slotNames:=sl,subclasses:=sub,abstract:=ab,collection:=co,hasDel:=del}
@[reducible]noncomputable def tp(l:List Value):Obj:=⟨.type s2766695959194262286x5,none,.seq ⟨l⟩ 0,⟨[]⟩⟩
@[reducible]noncomputable def fl(c:Value)(l:List Value):Obj:=⟨c,none,.fields ⟨l⟩,⟨[]⟩⟩
noncomputable def z0:String:="builtins.__doc__:str#opaque"
noncomputable def z1:String:="builtins.__package__:str#opaque"
noncomputable def z2:String:="builtins.__loader__:shared#opaque"
noncomputable abbrev z3:String:=s11665532747177232413x24
noncomputable abbrev z4:String:=s15183661809925369436x15
noncomputable abbrev z5:String:=s13915890719876406383x10
noncomputable abbrev z6:String:=s13459172003223722735x3
noncomputable abbrev z7:String:=s10557405761357834076x3
noncomputable abbrev z8:String:=s4233737765568776869x3
noncomputable abbrev z9:String:=s2508922471967985374x5
noncomputable abbrev z10:String:=s15574269061696679450x3
noncomputable abbrev z11:String:=s6016482663378992977x10
noncomputable abbrev z12:String:=s5596568736180474577x8
noncomputable abbrev z13:String:=s2839554839881490554x3
noncomputable abbrev z14:String:=s725004073602090463x7
noncomputable abbrev z15:String:=s9436932552931045734x7
noncomputable abbrev z16:String:=s2754603736356183583x3
noncomputable abbrev z17:String:=s15185746759980889043x6
noncomputable abbrev z18:String:=s8192189862530294059x4
noncomputable abbrev z19:String:=s7038307821325472102x4
noncomputable abbrev z20:String:=s5662562618415449548x6
noncomputable abbrev z21:String:=s15281542589158584767x7
noncomputable abbrev z22:String:=s17651547275483570877x7
noncomputable abbrev z23:String:=s4036449017235975746x7
noncomputable abbrev z24:String:=s8879979712987360175x4
noncomputable abbrev z25:String:=s1801250619170735830x3
noncomputable abbrev z26:String:=s17659931425627118568x2
noncomputable abbrev z27:String:=s6063217899685152688x5
noncomputable abbrev z28:String:=s8008927332132565319x10
noncomputable abbrev z29:String:=s3544116645089599534x10
noncomputable abbrev z30:String:=s13761710972054866084x4
noncomputable abbrev z31:String:=s12896375587409280029x5
noncomputable abbrev z32:String:=s13014049009108672802x3
noncomputable abbrev z33:String:=s13935586738268321596x6
noncomputable abbrev z34:String:=s8200498257699607233x3
noncomputable abbrev z35:String:=s14114244577727609259x3
noncomputable abbrev z36:String:=s1499430450269397089x4
noncomputable abbrev z37:String:=s8755793994789770505x5
noncomputable abbrev z38:String:=s15725212667919936108x3
noncomputable abbrev z39:String:=s15791221867095933363x3
noncomputable abbrev z40:String:=s81309575031448614x3
noncomputable abbrev z41:String:=s8069831620301644142x5
noncomputable abbrev z42:String:=s10061844253413749634x4
noncomputable abbrev z43:String:=s9496514870978017513x5
noncomputable abbrev z44:String:=s8899691144933366716x7
noncomputable abbrev z45:String:=s15201008993051130160x6
noncomputable abbrev z46:String:=s741896355592496720x3
noncomputable abbrev z47:String:=s17925004256654032244x4
noncomputable abbrev z48:String:=s11695548795398191787x4
noncomputable abbrev z49:String:=s4156966113859768872x10
noncomputable abbrev z50:String:=s9501651726347032510x9
noncomputable abbrev z51:String:=s15722918466584999320x5
noncomputable abbrev ZN:String:=s591115383303110208x11
noncomputable abbrev z53:String:=s15721156781594690315x7
noncomputable abbrev bQ:String:=s14018661285674007319x4
noncomputable abbrev z55:String:=s14340494229221121180x9
noncomputable abbrev z56:String:=s13429844117177748173x6
noncomputable abbrev z57:String:=s16463266125957815391x5
noncomputable abbrev z58:String:=s4922535414793169389x9
noncomputable abbrev z59:String:=s8101838861749082086x8
noncomputable abbrev z60:String:=s7066276694103001551x3
noncomputable abbrev z61:String:=s9222952809800978799x4
noncomputable abbrev z62:String:=s462964344163437139x3
noncomputable abbrev eH:String:=s2742458400755230247x6
noncomputable abbrev z64:String:=s1438033511350832697x5
noncomputable abbrev z65:String:=s14365286008749172514x8
noncomputable abbrev z66:String:=s3642769012341782148x3
noncomputable abbrev z67:String:=s4674234679698826739x5
noncomputable abbrev z68:String:=s16656946322747308186x12
noncomputable abbrev z69:String:=s10796804682411823810x3
noncomputable abbrev z70:String:=s4290257624100764138x5
noncomputable abbrev z71:String:=s2766695959194262286x5
noncomputable abbrev fQ:String:=s17162191345867700912x4
noncomputable abbrev z73:String:=s14339709457334898076x3
noncomputable abbrev Ie:String:=s4278001404047624695x13
noncomputable abbrev z75:String:=s6585700554429387442x18
noncomputable abbrev Ad:String:=s5946037652744460706x9
noncomputable abbrev z77:String:=s7410770068591931388x13
noncomputable abbrev z78:String:=s11817881795495490833x17
noncomputable abbrev z79:String:=s15679963881808890155x10
noncomputable abbrev z80:String:=s3871700062485845797x15
noncomputable abbrev z81:String:=s7689518266570723881x14
noncomputable abbrev z82:String:=s9001593270443806431x14
noncomputable abbrev z83:String:=s6882542574934516792x11
noncomputable abbrev z84:String:=s14403400214490484960x8
noncomputable abbrev z85:String:=s14457978657717015782x11
noncomputable abbrev z86:String:=s1753610191782819921x11
noncomputable abbrev z87:String:=s14119380538032626715x11
noncomputable abbrev z88:String:=s11437920000406562045x9
noncomputable abbrev Y5:String:=s10852414792293593619x7
noncomputable abbrev z90:String:=s14816307405966870543x14
noncomputable abbrev z91:String:=s8682627914449686677x12
noncomputable abbrev z92:String:=s4428170145600203450x18
noncomputable abbrev z93:String:=s5991306692159431302x13
noncomputable abbrev z94:String:=s16067994140765818257x11
noncomputable abbrev z95:String:=s2327743974964600596x11
noncomputable abbrev z96:String:=s2804747833354056582x9
noncomputable abbrev z97:String:=s6070975301684473832x10
noncomputable abbrev z98:String:=s14270485950484850486x7
noncomputable abbrev z99:String:=s12041534306414923332x18
noncomputable abbrev ae4:String:=s2531307568338490285x13
noncomputable abbrev ae5:String:=s631175304937289666x17
noncomputable abbrev ae6:String:=s5144983644357021410x12
noncomputable abbrev ae7:String:=s18039099521571816885x18
noncomputable abbrev ae8:String:=s6011586214260557989x15
noncomputable abbrev ae9:String:=s5430567037509283100x13
noncomputable abbrev afa:String:=s8117915138073963741x13
noncomputable abbrev afb:String:=s3423317712779056401x25
noncomputable abbrev afc:String:=s2007317383269046180x15
noncomputable abbrev afd:String:=s17481586968713580700x14
noncomputable abbrev afe:String:=s2450899226349176912x13
noncomputable abbrev aff:String:=s16626165730633575011x14
noncomputable abbrev afg:String:=s14288496050688921416x11
noncomputable abbrev afh:String:=s5735081916595925998x15
noncomputable abbrev afi:String:=s3865607918536308442x17
noncomputable abbrev afj:String:=s13337502604062700212x15
noncomputable abbrev afk:String:=s13114017843053701147x15
noncomputable abbrev afl:String:=s17467278006356818441x17
noncomputable abbrev afm:String:=s17722149559621369488x16
noncomputable abbrev afn:String:=s7855274175708717672x17
noncomputable abbrev afo:String:=s13351283678309829046x18
noncomputable abbrev afp:String:=s6668348653404991179x15
noncomputable abbrev afq:String:=s12913350958174193794x18
noncomputable abbrev afr:String:=s16115879512475548326x12
noncomputable abbrev afs:String:=s15920661018069861047x16
noncomputable abbrev aft:String:=s10779130036587390575x21
noncomputable abbrev afu:String:=s7801419657504700863x10
noncomputable abbrev afv:String:=s1688129525768580628x8
noncomputable abbrev afw:String:=s1031832959479892071x19
noncomputable abbrev afx:String:=s8991790508128307865x19
noncomputable abbrev afy:String:=s14539662485746970245x23
noncomputable abbrev afz:String:=s11643622729373238714x14
noncomputable abbrev afA:String:=s3386828779285465597x17
noncomputable abbrev afB:String:=s13042696260734638735x12
noncomputable abbrev afC:String:=s18239426817015966623x15
noncomputable abbrev afD:String:=s1270395311379034370x22
noncomputable abbrev afE:String:=s10696252587037064777x22
noncomputable abbrev afF:String:=s7852717498200857586x20
noncomputable abbrev afG:String:=s6377248116197321094x8
noncomputable abbrev afH:String:=s3834378056692298002x18
noncomputable abbrev afI:String:=s17586630440231065808x18
noncomputable abbrev afJ:String:=s15234114252648025395x21
noncomputable abbrev afK:String:=s8496462677383758984x14
noncomputable abbrev afL:String:=s16789243406116112673x4
noncomputable abbrev afM:String:=s14400166428656793546x20
noncomputable abbrev afN:String:=s5857708277339239366x20
noncomputable def afO:String:="builtins.copyright#opaque"
noncomputable def afP:String:="builtins.credits#opaque"
noncomputable def afQ:String:="builtins.license#opaque"
noncomputable abbrev afR:String:=s7804999707787243718x20
noncomputable abbrev fZ:String:=s7097527257260152453x26
noncomputable abbrev afS:String:=s6658869562736209489x6
noncomputable abbrev RP:String:=s5856160107412720595x4
noncomputable abbrev afT:String:=s658472552662922059x5
noncomputable abbrev uA:String:=s7174869446012820540x8
noncomputable abbrev afU:String:=s10062305145149207511x16
noncomputable abbrev aa0:String:=s11030030927630378310x26
noncomputable abbrev dO:String:=s11443829558043349243x14
noncomputable abbrev afV:String:=s6511155373996960695x17
noncomputable abbrev afW:String:=s12411053484034534018x21
noncomputable abbrev aa1:String:=s14755015743595814543x17
noncomputable abbrev afX:String:=s10220274742760427390x26
noncomputable abbrev afY:String:=s4860613602091757760x24
noncomputable abbrev yh:String:=s5160863994218179198x17
noncomputable abbrev afZ:String:=s2438369993680799366x15
noncomputable abbrev af0:String:=s15660640913423913556x4
noncomputable def dgt(f:Nat):Nat->List Nat:=Nat.rec (λ_=>[]) (λ_ ih n=>bif Nat.beq n 0 then[]else Nat.mod n 128::ih (Nat.div n 128)) f
@[reducible]def Q(n:Nat):Str:=⟨⟨dgt 60 n⟩⟩
def s0:Str:=Q 0xbf7f2edc3bafdf
def s1:Str:=Q 0xe7bb4f4d9a7ae2
def s2:Str:=Q 421105403244511
def s3:Str:=Q 0x17efe5cf875e3c3c2fdf
def s4:Str:=Q 0x2fdfe597261dfb2fdf
def s5:Str:=Q 0xbf7f1e5e1cefdf
def s6:Str:=Q 0x17eff3e787663bf93669eb8afdf
def s7:Str:=Q 0x2fdfe9cb7f0dba6fdf
def s8:Str:=Q 1896801
def s9:Str:=Q 1783393
def s10:Str:=Q 1996641
def s11:Str:=Q 28407560673
def s12:Str:=Q 1815778
def s13:Str:=Q 0x3a6ed3bf86bc397962
def s14:Str:=Q 0xcbb3161d9b30e3
def s15:Str:=Q 1881187
def cB:Str:=Q 447941971769315
def s17:Str:=Q 505394375635684
def s18:Str:=Q 1881316
def s19:Str:=Q 3466000708836
def s20:Str:=Q 228096869
def s21:Str:=Q 209288293
def s22:Str:=Q 4011998361574
def s23:Str:=Q 505394375766759
def s24:Str:=Q 509512446113383
def s25:Str:=Q 505394375749864
def s26:Str:=Q 220000488
def s27:Str:=Q 1979112
def s28:Str:=Q 12905
def s29:Str:=Q 31385728873
def s30:Str:=Q 0x32e3dd87a73dda79e9
def s31:Str:=Q 0x39f3c3b31e2ebcf9e9
def s32:Str:=Q 240745065
def s33:Str:=Q 30815368417
def s34:Str:=Q 1815276
def s35:Str:=Q 3980566001644
def s36:Str:=Q 1978605
def s37:Str:=Q 1815789
def s38:Str:=Q 245248750
def s39:Str:=Q 31391840097
def s40:Str:=Q 1913327
def s41:Str:=Q 1653103
def s42:Str:=Q 1964016
def s43:Str:=Q 31370934640
def s44:Str:=Q 240923378
def s45:Str:=Q 27076163570
def s46:Str:=Q 505394375766771
def s47:Str:=Q 3463330969587
def s48:Str:=Q 1800947
def s49:Str:=Q 243052790
def s50:Str:=Q 213628878
def s51:Str:=Q 0xe7a79f0d3b3645
def s52:Str:=Q 0x3265e9bb2edcbb386d93d37ce
def s53:Str:=Q 27354935494
def s54:Str:=Q 213743956
def s55:Str:=Q 228325346
def s56:Str:=Q 0x3be5d3dbcf2dfb72ed
def s57:Str:=Q 0x79c3cb961cbd3ce2
def s58:Str:=Q 31083805922
def s59:Str:=Q 0x1937e8e9976f3e787663
def s60:Str:=Q 531265142618083
def s61:Str:=Q 244905188
def s62:Str:=Q 0x65e987965dbd7765
def s63:Str:=Q 3944367207654
def s64:Str:=Q 31343769190
def s65:Str:=Q 0x74cbcf765f5bf966
def s66:Str:=Q 0xf3d3965e1bf970
def s67:Str:=Q 1914729
def s68:Str:=Q 245167340
def s69:Str:=Q 1847533
def s70:Str:=Q 4012518322543
def s71:Str:=Q 27329802482
def s72:Str:=Q 0xc9979f2cbdb2f2
def s73:Str:=Q 1913587
def s74:Str:=Q 27321333363
def s75:Str:=Q 0xc9bf474cbb71e9e987a73
def s76:Str:=Q 1882739
def s77:Str:=Q 30815304435
def s78:Str:=Q 27340323572
def ch:Str:=Q 213662964
def s80:Str:=Q 1848570
def s81:Str:=Q 0x5fbf9fae2cb92fdf
def s82:Str:=Q 0x6edfa7a70cb8fc45cbcf0c2
def s83:Str:=Q 0x3875dfca3eedfa7a70cb8fc45cbcf0c2
def s84:Str:=Q 0x6edfa7a70cb8fc45
def s85:Str:=Q 0x74d3e22f2dfd30f2cbbb2c7
def s86:Str:=Q 0x74e1d7972cbd3749c9cb0efc5e72cb
def s87:Str:=Q 0x3a69f1176e5e9cfcd3
def s88:Str:=Q 0x1cb7f2e5171e9e9976e8e9a7941
def s89:Str:=Q 0x396fe5ca2eedfa7a72cbcf9c1
def s90:Str:=Q 0x396fe5ca2e5e9d7169e5d3a41
def s91:Str:=Q 0x1cb7f2e517965cd9bac2
def s92:Str:=Q 0xe5bf9728b1a7c5
def s93:Str:=Q 0x1cb7f2e517a72dfc36c9
def s94:Str:=Q 0x1cb7f2e517875d7bf7cc
def s95:Str:=Q 0x1cb7f2e517cf2dfb72cd
def s96:Str:=Q 0x72dfcb945cbb70ce
def s97:Str:=Q 505222075083215
def s98:Str:=Q 0x396fe5ca2e5c7bb2f2cb9b2d2
def s99:Str:=Q 0xe5bf9728b976e9e9bbad2
def af1:Str:=Q 0x376fd3d30f2cbd24e3dde79c1e1bfa53
def af2:Str:=Q 0x6edfa7a61e597a49e1bfa53
def af3:Str:=Q 0x1cb7f2e517c61e9bbcd3
def af4:Str:=Q 0x1cb7f2e5176e5e9cfcd3
def af5:Str:=Q 0x72dfcb945cbc3cd4
def af6:Str:=Q 0x396fe5ca2e5ebb30d6
def af7:Str:=Q 456806780154071
def af8:Str:=Q 0x396fe5ca2f4dda77d0cfbb4f4c3bf646
def af9:Str:=Q 0x72dfcb945efbf666e597b4f
def aga:Str:=Q 0x72dfcb945ddbf4f3d3db4c4dfcb2da
def agb:Str:=Q 0xcfbb4eee586bf3cbd3cc2
def agc:Str:=Q 0x33eed3bb961afbb7e9e9871e5e5c32c4
def agd:Str:=Q 0x19f769ddcb0d7cfbb4e4df8f745
def age:Str:=Q 0x67dda7772c35f2f2ebd3ac6
def agf:Str:=Q 0x67dda7772c35fa72dfc36c9
def agg:Str:=Q 0x67dda7772c35f76fd3d30e3cbcb865899f769c9bb2d0
def agh:Str:=Q 0x19f769ddcb0d7cb8f975dfcf2d2
def agi:Str:=Q 0x33eed3bb961af976e9e9bbad2
def agj:Str:=Q 0x67dda7772c35fc61e9bbcd3
def agk:Str:=Q 0x33eed3bb961af9726fc7a7755
def agl:Str:=Q 0x19f769ddcb0d7e5979d5
def agm:Str:=Q 0x1cb7f2e5167c9cfbb4ebc7bf642
def agn:Str:=Q 0x72dfcb945e7cf2e3dfca864d9a7443
def ago:Str:=Q 0x1cb7f2e51776fd3d31e5ddbb7c3
def agp:Str:=Q 0x1cb7f2e5179f4e7a7c45cbb34c6
def agq:Str:=Q 0x72dfcb945c9bbaef8dd37cecbb34c6
def agr:Str:=Q 0xe5bf9728b932f4e1d7972cbd3749
def ags:Str:=Q 0x72dfcb945f3cb7f4c79796989079c9
def agt:Str:=Q 0x396fe5ca2f9e5bfa63cbcb4c483d37ce
def agu:Str:=Q 0x1cb7f2e51776fd3cf9e9dbcb2d0
def agv:Str:=Q 0x396fe5ca2f0ebaf7ef99cf9e5c7bf950
def agw:Str:=Q 0xe5bf9728bd3aefcbb74d4
def agx:Str:=Q 0xe5bf9728bbb7e9e987a6ecb93749
def agy:Str:=Q 0x72dfcb945e9d786e9397a65d9c36efc7ba4df
def agz:Str:=Q 0x396fe5ca2f8cb93749
def agA:Str:=Q 0xe5bf9728be72cb
def agB:Str:=Q 0x1cb7f2e51726eebbe374df3b2eceb937cd
def agC:Str:=Q 0x1cb7f2e517265e9bb2edcbb386d93d37ce
def agD:Str:=Q 0x1cb7f2e51776fd3d30fad3b30eed31b76fd1d3cd0
def agE:Str:=Q 0x396fe5ca2eedfa79f2eb8f2d2
def agF:Str:=Q 0x72dfcb945d9871ef9993775df8b755
def agG:Str:=Q 0xe5bf9728b9726fc7a7755
def agH:Str:=Q 0x1cb7f2e5172f0d343765d7bf942
def agI:Str:=Q 0x396fe5ca2e4cbd396fc50776fd3d31e5ddbb7c3
def agJ:Str:=Q 0x396fe5ca2e4cbcfae6cb4b76fd3d31e5ddbb7c3
def agK:Str:=Q 0xe5bf9728bd32f3cb4b76fd3d31e5ddbb7c3
def agL:Str:=Q 0xe5bf9728b8b0d4
def agM:Str:=Q 0x396fe5ca2e5c9bf1e5899726fc7a7755
def agN:Str:=Q 0x396fe5ca2e5c9bf1ee8b9726fc7a7755
def agO:Str:=Q 0x72dfcb945cbd30ece7bb0f2a99726fc7a7755
def agP:Str:=Q 0x3875dfca3eedfa7a70cb8fc45
def agQ:Str:=Q 0xe5bf9728bd3765dbbb7f2d3db745
def agR:Str:=Q 505222075082697
def agS:Str:=Q 232355951
def agT:Str:=Q 245005041
def agU:Str:=Q 245005413
def agV:Str:=Q 0x74d19f4f2f3c37e3
def agW:Str:=Q 509789475535203
def agX:Str:=Q 448183808881900
def agY:Str:=Q 236663528
def Aq:Str:=Q 0xbf7f769c3b6fdf
def fH:Str:=Q 0x17eff3ddbf4f4c3d37eedd86fdf
def f6:Str:=Q 0xbf7f9eed3d3669eb8afdf
def f7:Str:=Q 0xbf7f2ecd39afdf
def dE:Str:=Q 0x79e0bba75c6bf6e9c3b31af
def f8:Str:=Q 0x2fdfc997463c38efdf
def aa2:Str:=Q 0x7d97675c9bf6bc
def agZ:Str:=Q 0xc176edfa7a70cb8fc455d7eff3cbcf9e1d98f175e77efaecbc3cf4
def ag0:Str:=Q 0x1b976edfa7a70cb8fc455d7eff3cbcf9e1d98f175e77efaecbc3cf4
def ag1:Str:=Q 0x305dcb7f2e5169cf5d7eff3cbcf9e1d98f175e77efaecbc3cf4
def ag2:Str:=Q 0x6e5dcb7f2e5169cf5d7eff3cbcf9e1d98f175e77efaecbc3cf4
def ax:Str:=Q 14313
def eA:Str:=Q 29219126239
def d0:Str:=Q 535696735351528
def d5:Str:=Q 0x79cda7678cba3775
def dP:Str:=Q 1869759411283
def gS:Str:=Q 0x18f9e9db7db356587453
def eR:Str:=Q 434645541646568
def eC:Str:=Q 0x306cc726dcbc34f2
def cR:Str:=Q 0x396fe5ca2f4d38b6c5
def eD:Str:=Q 447634053151711
def eE:Str:=Q 4150492116191
def dQ:Str:=Q 0xddbf4f4c3cb2f09f932f4e5bf870ebcf755
def cW:Str:=Q 3501408167881
def aa3:Str:=Q 107
def ju:Str:=Q 0x31f3d3b5774d38b6e5
def bw:Str:=Q 0x2fdfcbb3ae4dfb6fdf
def dR:Str:=Q 0xbf7f2edc3bb661ebc6fdf
def bB:Str:=Q 0x17efefdd97769d9d39f2d39afdf
def bC:Str:=Q 0xbf7fa69dda6fdf
def Ar:Str:=Q 3501677164661
def yi:Str:=Q 4016813241572
def bj:Str:=Q 0x5fbfcf2f4eb8b4f2e9d30dfc7a7a61e9cefdf
def ν:Str:=Q 215692019
def Fn:Str:=Q 205336804
def RQ:Str:=Q 0x17eff4d3bb4dfbeb9b356587453
def RT:Str:=Q 0x65e987270eab9b356587453
def aa4:Str:=Q 3944329476846
def RV:Str:=Q 0x74e7973e9c8b9b356587453
def As:Str:=Q 0xbf7fa63d392fdf
def yj:Str:=Q 0x17efe6cbcb5e1cbdefdf
def qz:Str:=Q 1869759411315
def Fo:Str:=Q 0x1b3565874735d8b4ecd1cf0e8
def aa5:Str:=Q 1702381
def cZ:Str:=Q 0x32f3c389774d38b6e5
def Au:Str:=Q 110
def aa6:Str:=Q 244872311
def Av:Str:=Q 421110751145951
def Aw:Str:=Q 1898083
def aW:Str:=Q 242874721
def kb:Str:=Q 3979259444203
def RW:Str:=Q 0x2fdfef9775fbebb2f3c30a7c9
def eS:Str:=Q 0x32f3c30a7c9c997965cd9bac2
def eU:Str:=Q 0x32f3c30a7c9e9e32d4
def f9:Str:=Q 349985019083970
def Fp:Str:=Q 1832159
def aa7:Str:=Q 0x1af1e5d18efdf9f279e5e9e615f
def aa8:Str:=Q 0x32eed3b2fdf9f279e5e9e615f
def lK:Str:=Q 3463328822883
def oG:Str:=Q 27354986083
def oH:Str:=Q 0x5fbfcb2f4dd96fdf
def oJ:Str:=Q 0xbf7fa69f196fdf
def oK:Str:=Q 0xcbb3161c9872f2
def oL:Str:=Q 0xcbb3161e9a7977
def oM:Str:=Q 0xcbb3161d7972f3
def oN:Str:=Q 4188911729129
def oO:Str:=Q 28160390758
def oP:Str:=Q 3843672454374
def oQ:Str:=Q 3600193237732
def oR:Str:=Q 0xcbd7661edd32e7
def Ax:Str:=Q 0x72cb9b375c5d32e7
def oU:Str:=Q 228274932
def oV:Str:=Q 226063091
def oW:Str:=Q 0xcbd30e3ddd7974
def oY:Str:=Q 211317490
def Ay:Str:=Q 13364654834
def Az:Str:=Q 0xdfd3769c9872f2
def AA:Str:=Q 0x31dfd3769c9872f2
def oZ:Str:=Q 0xcbbb4ecc9872f2
def o4:Str:=Q 0x73cbbb4ecc9872f2
def o5:Str:=Q 0xbf7f965e9a6fdf
def o6:Str:=Q 0xbf7fa78cbbafdf
def o7:Str:=Q 27356985719
def o8:Str:=Q 0x39e5dda7665e9a7977
def o9:Str:=Q 0xbf7f970cbcafdf
def ag3:Str:=Q 0x73cbd3ce2bfb30e9e9a7769
def RX:Str:=Q 0xbf7fa69dda6fdf5d3e4f3cbd3cc2
def yk:Str:=Q 474019922505695
def RY:Str:=Q 0x1af1e5d18efdf5d3e4f3cbd3cc2
def aa9:Str:=Q 31360513260
def uB:Str:=Q 31379192435
def Fq:Str:=Q 236714611
def Fs:Str:=Q 105
def yl:Str:=Q 3500083458015
def RZ:Str:=Q 0x32eed3b2fdf5d3e4f3cbd3cc2
def R0:Str:=Q 0x3265e7bf6635d3e4f3cbd3cc2
def R1:Str:=Q 0x65e7bf6635d3e4f3cbd3cc2
def R2:Str:=Q 0x5fbfcb2f4dd96fdf5d3e4f3cbd3cc2
def R4:Str:=Q 0xbf7fa69f196fdf5d3e4f3cbd3cc2
def R5:Str:=Q 0xcbb3161c9872f25d3e4f3cbd3cc2
def R6:Str:=Q 0xcbb3161e9a79775d3e4f3cbd3cc2
def R7:Str:=Q 0xcbb3161d7972f35d3e4f3cbd3cc2
def R8:Str:=Q 0x3cf4e9879e95d3e4f3cbd3cc2
def R9:Str:=Q 0x68e7d76665d3e4f3cbd3cc2
def R_:Str:=Q 0x37eecbb34e65d3e4f3cbd3cc2
def Sa:Str:=Q 0x3463c3d32e45d3e4f3cbd3cc2
def Sb:Str:=Q 0xcbd7661edd32e75d3e4f3cbd3cc2
def Sc:Str:=Q 0x72cb9b375c5d32e75d3e4f3cbd3cc2
def Sd:Str:=Q 0xd9b32f45d3e4f3cbd3cc2
def Se:Str:=Q 1898480
def aba:Str:=Q 3497141040247
def Sf:Str:=Q 0xd7972f35d3e4f3cbd3cc2
def uC:Str:=Q 213824755
def Sg:Str:=Q 0xcbd30e3ddd79745d3e4f3cbd3cc2
def Si:Str:=Q 0xc9872f25d3e4f3cbd3cc2
def Sj:Str:=Q 0x31c9872f25d3e4f3cbd3cc2
def abb:Str:=Q 3944337750754
def Sk:Str:=Q 0xdfd3769c9872f25d3e4f3cbd3cc2
def Sl:Str:=Q 0x31dfd3769c9872f25d3e4f3cbd3cc2
def Sm:Str:=Q 0xcbbb4ecc9872f25d3e4f3cbd3cc2
def Sn:Str:=Q 0x73cbbb4ecc9872f25d3e4f3cbd3cc2
def So:Str:=Q 0xbf7f965e9a6fdf5d3e4f3cbd3cc2
def abc:Str:=Q 213628140
def Sp:Str:=Q 0xbf7fa78cbbafdf5d3e4f3cbd3cc2
def abd:Str:=Q 98
def Sq:Str:=Q 0x65e9a79775d3e4f3cbd3cc2
def abe:Str:=Q 31083705580
def Sr:Str:=Q 0x39e5dda7665e9a79775d3e4f3cbd3cc2
def Ss:Str:=Q 0xbf7f970cbcafdf5d3e4f3cbd3cc2
def abf:Str:=Q 27627401183
def abg:Str:=Q 31104708575
def gT:Str:=Q 0x9f273eed3cba53
def abh:Str:=Q 0x64cbd30ece7bb0f2e97efcf939f769e5d29df
def abi:Str:=Q 0xd78f2e8c77efcf939f769e5d29df
def abj:Str:=Q 0xe9bf25fd78f2e8c77efcf939f769e5d29df
def abk:Str:=Q 0x197769d97efcf939f769e5d29df
def ym:Str:=Q 0x33eed3cb2e6cdd715fcbbb4ec
def yn:Str:=Q 0xe797769d9df2ee
def yo:Str:=Q 0xcfbb4e4df8f765
def yp:Str:=Q 3982206220645
def ag4:Str:=Q 0
def ag5:Str:=Q 10
def ag6:Str:=Q 0x65ebb30f6bfb30e9e9a7769
def Su:Str:=Q 448010683020014
def Sw:Str:=Q 0x5fbfd34eed37efae9f273eed3cba53
def AB:Str:=Q 115
def Sx:Str:=Q 0xc997a61d9cf761e5d2fdf
def Sy:Str:=Q 0x64cbd30ece7bb0f2e97efae9f273eed3cba53
def Sz:Str:=Q 0xd78f2e8c77efae9f273eed3cba53
def SA:Str:=Q 0x1d37e4bfaf1e5d18efdf
def SD:Str:=Q 0xe9bf25fd78f2e8c77efae9f273eed3cba53
def ag7:Str:=Q 1915619
def ag8:Str:=Q 106
def ag9:Str:=Q 1652581
def SE:Str:=Q 0x197769d97efae9f273eed3cba53
def SG:Str:=Q 0x1932f3dfb31ae9f273eed3cba53
def SH:Str:=Q 0x19f769e597366eb8afe5dda762e9f273eed3cba53
def SI:Str:=Q 0x73cbbb4ecef9772e9f273eed3cba53
def SJ:Str:=Q 0x67dda726fc7bb2ae9f273eed3cba53
def SK:Str:=Q 0x1cf96fe5cb2ae9f273eed3cba53
def SM:Str:=Q 0x32f3dfb31ae9f273eed3cba53
def SN:Str:=Q 0x2fdfe597a6ecb7efae9f273eed3cba53
def SP:Str:=Q 0x5fbfd34f8cb7efae9f273eed3cba53
def SQ:Str:=Q 0x65d98b0e4c39792e9f273eed3cba53
def SR:Str:=Q 0x65d98b0f4d3cbbae9f273eed3cba53
def SU:Str:=Q 0x65d98b0ebcb979ae9f273eed3cba53
def SV:Str:=Q 0x1e7a74c3cf4ae9f273eed3cba53
def SX:Str:=Q 0x3473ebb332e9f273eed3cba53
def SY:Str:=Q 0x1bf765d9a732e9f273eed3cba53
def S2:Str:=Q 0x1a31e1e99722e9f273eed3cba53
def S3:Str:=Q 0x65ebb30f6e9973ae9f273eed3cba53
def S4:Str:=Q 0x6cd997a2e9f273eed3cba53
def S5:Str:=Q 0x6bcb979ae9f273eed3cba53
def S6:Str:=Q 0x65e9871eeebcba2e9f273eed3cba53
def S7:Str:=Q 0x64c39792e9f273eed3cba53
def S8:Str:=Q 0x65dda7664c39792e9f273eed3cba53
def aha:Str:=Q 245085416
def S9:Str:=Q 0x39e5dda7664c39792e9f273eed3cba53
def S_:Str:=Q 0x5fbfcb2f4d37efae9f273eed3cba53
def Ta:Str:=Q 0x5fbfd3c65dd7efae9f273eed3cba53
def ahb:Str:=Q 109
def ahc:Str:=Q 1686242
def Tc:Str:=Q 0x32f4d3cbbae9f273eed3cba53
def Te:Str:=Q 0x1cf2eed3b32f4d3cbbae9f273eed3cba53
def Tf:Str:=Q 0x5fbfcb865e57efae9f273eed3cba53
def ahd:Str:=Q 0x65dda7677cbbafdf
def o_:Str:=Q 0x1cf96fe5cb2aee5bfa70d3cb1f3cb91774d38b6e5
def dS:Str:=Q 0x65e786174d38b6c5
def gU:Str:=Q 0xf3965f4d38b6c5
def dT:Str:=Q 0x1cb7f2e51796fe9c34f2c7cf2c4
def yq:Str:=Q 0x6ddfcb35fc9872f2
def yr:Str:=Q 27355033840
def pa:Str:=Q 0xdfd2fe5e9a7977
def c_:Str:=Q 0x65f5a7661d3cb2f3
def eF:Str:=Q 0x67dda7974e77f7f4
def lL:Str:=Q 0x19f769e5d39dfdbbf966
def aS:Str:=Q 421109440507871
def pb:Str:=Q 3289915158495
def AC:Str:=Q 3289890140127
def yt:Str:=Q 3771463416435
def Ft:Str:=Q 0x1b77f2cd7f261cbc9765e786174d38b6c5
def abl:Str:=Q 1897202
def Fu:Str:=Q 0x1979f2c3c1765e786174d38b6c5
def Tg:Str:=Q 0x37f4bf97a69e5dd765e786174d38b6c5
def Th:Str:=Q 0x197d69d9874f2cbcd765e786174d38b6c5
def Ti:Str:=Q 0x19f769e5d39dfdfd1765e786174d38b6c5
def Fv:Str:=Q 0x67dda7974e77f6efe599765e786174d38b6c5
def Tj:Str:=Q 0x5fbfcba73bf7d765e786174d38b6c5
def sq:Str:=Q 30815173231
def Tl:Str:=Q 0xbf7f8e5bf7d765e786174d38b6c5
def Tn:Str:=Q 0xbf7f2eebf7d765e786174d38b6c5
def abm:Str:=Q 0xbf7f473c3a2fdf
def gV:Str:=Q 1635059
def iT:Str:=Q 32708999160
def lM:Str:=Q 0x32f4c3db4f2e17f9e9
def pc:Str:=Q 3289921564639
def pd:Str:=Q 3289921482719
def To:Str:=Q 0xc7979aef3965f4d38b6c5
def Tp:Str:=Q 0x3cecddbfc2ef3965f4d38b6c5
def Tq:Str:=Q 0x197a61eda7970bfcf4aef3965f4d38b6c5
def Ts:Str:=Q 0x17eff4d97efaef3965f4d38b6c5
def Tt:Str:=Q 0x17eff4cf7efaef3965f4d38b6c5
def jv:Str:=Q 0xc795774d38b6e5
def fI:Str:=Q 0x1cb7f2e517a70d3cb1f3d3bb4cd
def f_:Str:=Q 0x72dfcb945e9bb2edeb9f941
def eV:Str:=Q 0x32f3c30b96fe9c34f2c7cf2c4
def jw:Str:=Q 0x448b4e9c5a5426cf877e1c5
def jx:Str:=Q 0x1122d3a7169509b3e1ceab7e1c5
def f':Str:=Q 0x197d69d9874f2cbceff9cbaf175e17f1e5
def uD:Str:=Q 0x65e78712ee5bfa70d3cb1f3cb91774d38b6e5
def Fw:Str:=Q 0x33eed3cba73bfb77f2ccbb2f3c30b96fe9c34f2c7cf2c4
def Tu:Str:=Q 0xcbeb4ecc3a7965e6bb2f3c30b96fe9c34f2c7cf2c4
def Tv:Str:=Q 0xcfbb4f2e9cefefe8bb2f3c30b96fe9c34f2c7cf2c4
def abn:Str:=Q 31370934256
def abo:Str:=Q 217609830
def ahe:Str:=Q 0x63adb3565c31e5e6bb669e9d5774d38b6e5
def bE:Str:=Q 0x39f4dd976f5cfcb0aee5bfa70d3cb1f3cb91774d38b6e5
def iv:Str:=Q 0x79cb2f1e9d98bad0
def gY:Str:=Q 0xe797a79c57f7f4
def iw:Str:=Q 0xc1b31d1cf0e8
def lN:Str:=Q 0x3265e7cf2f2e1b77e3
def Tw:Str:=Q 0x2fdfe9a7769bf7d779cb2f1e9d98bad0
def Tz:Str:=Q 0x63cbcd779cb2f1e9d98bad0
def TA:Str:=Q 0x1e766edfe1779cb2f1e9d98bad0
def TC:Str:=Q 0x37f4bf97a69e5dd779cb2f1e9d98bad0
def TF:Str:=Q 0x197d69d9874f2cbcd779cb2f1e9d98bad0
def TG:Str:=Q 0xcbd30f6d3cb85fe7a5779cb2f1e9d98bad0
def TH:Str:=Q 0x19f769e5d39dfdfd1779cb2f1e9d98bad0
def TJ:Str:=Q 0xbf7fa6cbf7d779cb2f1e9d98bad0
def TL:Str:=Q 0xbf7fa67bf7d779cb2f1e9d98bad0
def TM:Str:=Q 0xbf7f8e5bf7d779cb2f1e9d98bad0
def mL:Str:=Q 4015479584863
def ahf:Str:=Q 30815107439
def ahg:Str:=Q 0x74c78786ddf8d774d38b6e5
def ahh:Str:=Q 0xe797473c3a1774d38b6e5
def iU:Str:=Q 1995467
def iV:Str:=Q 461374398296779
def σ:Str:=Q 421108335194079
def uE:Str:=Q 0x376fd3d30f6d3cb2e4
def sr:Str:=Q 4151569906032
def yu:Str:=Q 4151569922803
def yv:Str:=Q 0x32f6d3cb2e4bfbb0e3
def yw:Str:=Q 0xe797463dd87962
def yx:Str:=Q 0xe797463dd87962bfb7aee
def yy:Str:=Q 0x193961c793669ef7f9e9
def su:Str:=Q 1995499
def uF:Str:=Q 3807974685039
def a_:Str:=Q 514017363505396
def uG:Str:=Q 0x3970cbcaff9d9bb7f8
def TN:Str:=Q 0xbf7fa69dda6fdf5de72cb
def TQ:Str:=Q 0x17efeecbb2fdf5de72cb
def TR:Str:=Q 0x376fd3d30f6d3cb2e45de72cb
def TS:Str:=Q 438907906716363
def TU:Str:=Q 0x79d9bb7f85de72cb
def TV:Str:=Q 0x65f5a7661d3cb2f35de72cb
def abp:Str:=Q 100
def TX:Str:=Q 0x197669e1b77e35de72cb
def TY:Str:=Q 0x3c69cd979705de72cb
def TZ:Str:=Q 0x3c69cd9baf35de72cb
def T_:Str:=Q 0x32f6d3cb2e4bfbb0e35de72cb
def T':Str:=Q 0xe797463dd879625de72cb
def Ua:Str:=Q 0xe797463dd87962bfb7aee5de72cb
def Ub:Str:=Q 0x193961c793669ef7f9e95de72cb
def ahi:Str:=Q 487627475956470
def Uc:Str:=Q 0x67dda7974e77f7f45de72cb
def yz:Str:=Q 0x376fd3d30f6d3cb2e4bf932f7dfb3661
def Ud:Str:=Q 0x65f5a7661d3cb2f35da39e191e72cb
def Ue:Str:=Q 0x17efeecbb2fdf5da39e191e72cb
def Uf:Str:=Q 0x197669e1b77e35da39e191e72cb
def φ:Str:=Q 0x1d3869e58f9e9dda76aee5bfa70d3cb1f3cb91774d38b6e5
def jy:Str:=Q 3944329476814
def kc:Str:=Q 1962194
def jz:Str:=Q 13530689746
def ca:Str:=Q 0x3a70d3cb1f3d3bb4cd
def yA:Str:=Q 1800942
def Ug:Str:=Q 0x17eff4d3bb4dfbebb965c5b7ace
def Uh:Str:=Q 0x32ecd3c36efc6bb965c5b7ace
def Ui:Str:=Q 0x2fdfdd9765fbebb965c5b7ace
def Uj:Str:=Q 0x2fdfe5d39dfbebb965c5b7ace
def AD:Str:=Q 1286860
def AE:Str:=Q 1962226
def Uk:Str:=Q 0xbf7fa69dda6fdf5ddf0d2
def Ul:Str:=Q 0x17eff2e9cefdf5ddf0d2
def Um:Str:=Q 0x197669e1b77e35ddf0d2
def Un:Str:=Q 0x17efeecbb2fdf5ddf0d2
def Uo:Str:=Q 0x5fbfbb2ecbf7d73267df0d2
def ah:Str:=Q 4185130840822
def Ω:Str:=Q 0x39e5d3d3965e1bf970
def b_:Str:=Q 0xe79f961bfbb2ec
def Up:Str:=Q 0x17eff4d3bb4dfbebba70d3cb1f3d3bb4cd
def Uq:Str:=Q 0x32ecd3c36efc6bba70d3cb1f3d3bb4cd
def dF:Str:=Q 1702241
def Ur:Str:=Q 0x79cda7965ecbba70d3cb1f3d3bb4cd
def Us:Str:=Q 0x73cba7a72cbc37f2e0bba70d3cb1f3d3bb4cd
def Ut:Str:=Q 0x197879e8bba70d3cb1f3d3bb4cd
def Uu:Str:=Q 0x2fdfe5d39dfbebba70d3cb1f3d3bb4cd
def Uv:Str:=Q 0x2fdfdd9765fbebba70d3cb1f3d3bb4cd
def Uw:Str:=Q 0x1cf3f2c37f765d8bba70d3cb1f3d3bb4cd
def d6:Str:=Q 3569792677711
def kf:Str:=Q 1242576
def kg:Str:=Q 1193424
def jA:Str:=Q 30815106639
def d7:Str:=Q 217886947
def Ux:Str:=Q 0x33f2c2bb3f2839774f
def Uy:Str:=Q 0x19f961c6bb3f2839774f
def cG:Str:=Q 145973454
def Uz:Str:=Q 225965552
def bP:Str:=Q 146025684
def yB:Str:=Q 75
def jB:Str:=Q 22449219920
def qA:Str:=Q 247019375
def Θ:Str:=Q 0x65d9a786ddf8eff2cbbb769
def UA:Str:=Q 0x65d9a786ddf8eff2cbbb7695d2f5d0
def UB:Str:=Q 0x17efeecbb2fdf5d2f5d0
def UC:Str:=Q 219674096
def qB:Str:=Q 1929838
def UD:Str:=Q 0x65d9a786ddf8eff2cbbb7695d235d0
def UE:Str:=Q 0x17efeecbb2fdf5d235d0
def Fx:Str:=Q 30815106671
def br:Str:=Q 66
def Fy:Str:=Q 122
def yC:Str:=Q 0x5fbfb3665c7cf9e1d98efdf
def UF:Str:=Q 0x197669e1b77e3bfcb2eedda5772cb9364f
def eW:Str:=Q 0x5fbfcf9e1d98efdf
def UG:Str:=Q 0xf39b4f2cbd9772cb9364f
def UH:Str:=Q 0x5fbfbb2ecbf7d772cb9364f
def lO:Str:=Q 30815368001
def qC:Str:=Q 0x74e1a7963e7a7769db7db356587453
def lP:Str:=Q 30768969537
def UI:Str:=Q 30815368033
def UJ:Str:=Q 0x197669e1b77e3bfcb2eedda5772cbd3341
def UK:Str:=Q 0xcbb34f0dbbf1dfe59776ed2b9b356587453
def UL:Str:=Q 0x2fdfdd9765fbeb9b356587453
def UM:Str:=Q 30836078433
def UN:Str:=Q 0x32f0f3d17729f93741
def kh:Str:=Q 15472
def UO:Str:=Q 0xf39b4f2cbd97729f93741
def UP:Str:=Q 0xe7974f4e59786fe5c17729f93741
def UQ:Str:=Q 0x197669e1b77e3bfcb2eedda57729f93741
def UR:Str:=Q 0x5fbfbb2ecbf7d7729f93741
def mM:Str:=Q 182007617
def mN:Str:=Q 140064577
def mO:Str:=Q 165230401
def US:Str:=Q 31876265825
def UT:Str:=Q 0x32ecd3c36efc77f965ddbb4aead93741
def UU:Str:=Q 0xbf7f765d97efaead93741
def UV:Str:=Q 0x1e7369e597b2ead93741
def UW:Str:=Q 0x65e1e7a2ead93741
def UX:Str:=Q 0x1cf2e9e9cb2f0dfcb82ead93741
def UY:Str:=Q 26507556705
def UZ:Str:=Q 0x32ecd3c36efc77f965ddbb4ae8593741
def U0:Str:=Q 0xbf7f765d97efae8593741
def U1:Str:=Q 0x1e7369e597b2e8593741
def U2:Str:=Q 0x1cf2e9e9cb2f0dfcb82e8593741
def U3:Str:=Q 29728782177
def U4:Str:=Q 0x32ecd3c36efc77f965ddbb4ae9d93741
def U5:Str:=Q 0xbf7f765d97efae9d93741
def U6:Str:=Q 0x65e1e7a2e9d93741
def U7:Str:=Q 0x1e7369e597b2e9d93741
def U8:Str:=Q 0x1cf2e9e9cb2f0dfcb82e9d93741
def pe:Str:=Q 1096015
def pf:Str:=Q 1112399
def pg:Str:=Q 1128783
def U9:Str:=Q 207092079
def U_:Str:=Q 0x65d9a786ddf8eff2cbbb7695d0b94f
def U':Str:=Q 0x17efeecbb2fdf5d0b94f
def Va:Str:=Q 0x3ce6d3cb2f65d0b94f
def Vb:Str:=Q 0x39e5d3d3965e1bf9705d0b94f
def Vc:Str:=Q 209189231
def lQ:Str:=Q 86
def Vd:Str:=Q 0x65d9a786ddf8eff2cbbb7695d0f94f
def Ve:Str:=Q 0x17efeecbb2fdf5d0f94f
def Vf:Str:=Q 0x3ce6d3cb2f65d0f94f
def Vg:Str:=Q 0x39e5d3d3965e1bf9705d0f94f
def Vh:Str:=Q 211286383
def Vi:Str:=Q 0x65d9a786ddf8eff2cbbb7695d1394f
def Vj:Str:=Q 0x17efeecbb2fdf5d1394f
def Vk:Str:=Q 0x3ce6d3cb2f65d1394f
def Vl:Str:=Q 0x39e5d3d3965e1bf9705d1394f
def qD:Str:=Q 1210703
def qE:Str:=Q 3604496561236
def qF:Str:=Q 28430777037
def Vm:Str:=Q 221772143
def Vn:Str:=Q 0x65d9a786ddf8eff2cbbb7695d2794f
def Vo:Str:=Q 0x17efeecbb2fdf5d2794f
def Vp:Str:=Q 0x3ce6d3cb2f65d2794f
def Vq:Str:=Q 0xcbc3cf45d2794f
def Vr:Str:=Q 0x39e5d3d3965e1bf9705d2794f
def Vs:Str:=Q 3604496561268
def Vt:Str:=Q 0xcbb34f0dbbf1dfe59776ed2bb473cbcb454
def Vu:Str:=Q 0x2fdfdd9765fbebb473cbcb454
def AG:Str:=Q 112
def Vw:Str:=Q 0x79cda7965ecbb473cbcb454
def Vx:Str:=Q 0x73cba7a72cbc37f2e0bb473cbcb454
def Vy:Str:=Q 28430777069
def Vz:Str:=Q 0x74dfbf970c3d2fe4cbd31e5e1e32df
def VA:Str:=Q 0x2fdfe9a7769bf7d769e9b3acd
def VB:Str:=Q 0x197669e1b77e3bfcb2eedda5769e9b3acd
def VC:Str:=Q 0x5fbfbb2ecbf7d769e9b3acd
def VD:Str:=Q 0xf39b4f2cbd9769e9b3acd
def sw:Str:=Q 13776
def sx:Str:=Q 1717712
def fJ:Str:=Q 504877937097047
def sy:Str:=Q 65
def Fz:Str:=Q 13808
def VE:Str:=Q 0xcbb34f0dbbf1dfe59776ed2bb5d0
def VF:Str:=Q 0x2fdfdd9765fbebb5d0
def VG:Str:=Q 1717744
def VH:Str:=Q 0x65d9a786ddf8eff2cbbb7695da35d0
def VI:Str:=Q 0x17efeecbb2fdf5da35d0
def ix:Str:=Q 14447
def VJ:Str:=Q 0x386f5dcb2f0e187957
def VK:Str:=Q 0x17eff2e9cefdf5dcb2f0e187957
def yD:Str:=Q 87
def VM:Str:=Q 0x197669e1b77e3bfcb2eedda5741
def VN:Str:=Q 0x5fbfbb2ecbf7d741
def VP:Str:=Q 0xf39b4f2cbd9741
def qG:Str:=Q 31106791792
def VQ:Str:=Q 0xe7974f4e59786fe5c1741
def uH:Str:=Q 83
def uI:Str:=Q 67
def uJ:Str:=Q 84
def VR:Str:=Q 0x197669e1b77e3bfcb2eedda5753
def VS:Str:=Q 0x5fbfbb2ecbf7d753
def VT:Str:=Q 0xf39b4f2cbd9753
def VU:Str:=Q 0xe7974f4e59786fe5c1753
def VW:Str:=Q 0x197669e1b77e3bfcb2eedda5743
def VX:Str:=Q 0x5fbfbb2ecbf7d743
def VY:Str:=Q 0xf39b4f2cbd9743
def VZ:Str:=Q 0xe7974f4e59786fe5c1743
def V0:Str:=Q 0x197669e1b77e3bfcb2eedda5754
def V3:Str:=Q 0x5fbfbb2ecbf7d754
def ahj:Str:=Q 15600
def V4:Str:=Q 0xe7974f4e59786fe5c1754
def yE:Str:=Q 68
def yF:Str:=Q 74
def V5:Str:=Q 0x197669e1b77e3bfcb2eedda5744
def V6:Str:=Q 0x5fbfbb2ecbf7d744
def V7:Str:=Q 0xf39b4f2cbd9744
def V8:Str:=Q 0xe7974f4e59786fe5c1744
def V9:Str:=Q 0x197669e1b77e3bfcb2eedda5756
def V_:Str:=Q 0xf39b4f2cbd9756
def V':Str:=Q 0xe7974f4e59786fe5c1756
def Wa:Str:=Q 0x197669e1b77e3bfcb2eedda574a
def Wb:Str:=Q 0xf39b4f2cbd974a
def Wc:Str:=Q 0xe7974f4e59786fe5c174a
def mQ:Str:=Q 0x31617dbb160c35ebbfdf0ec
def AH:Str:=Q 78
def sA:Str:=Q 76
def sD:Str:=Q 85
def yG:Str:=Q 0x39e4dda75dfef8765f
def yH:Str:=Q 0x1cb2e2dbd775fef8765f
def yI:Str:=Q 0xe7cb2f4e99765fef8765f
def uK:Str:=Q 0x3265e1e7a5fef8765f
def yJ:Str:=Q 0x39f0dfcb85fef8765f
def yK:Str:=Q 0x65c9bf1dfef8765f
def iy:Str:=Q 0x65c9bf75fef8765f
def yL:Str:=Q 0x32ecc587a5fef8765f
def ph:Str:=Q 0xc9979f5cd9795fef8765f
def AI:Str:=Q 1962220
def Wd:Str:=Q 0x197669e1b77e3bfcb2eedda574e
def We:Str:=Q 0x5fbfbb2ecbf7d74e
def Wf:Str:=Q 0xf39b4f2cbd974e
def Wg:Str:=Q 0xe7974f4e59786fe5c174e
def Wh:Str:=Q 0x197669e1b77e3bfcb2eedda574c
def Wi:Str:=Q 0x5fbfbb2ecbf7d74c
def Wj:Str:=Q 0xf39b4f2cbd974c
def ahk:Str:=Q 15728
def Wl:Str:=Q 0xe7974f4e59786fe5c174c
def Wm:Str:=Q 0x197669e1b77e3bfcb2eedda5755
def Wn:Str:=Q 0x5fbfbb2ecbf7d755
def ahl:Str:=Q 4016016503283
def ahm:Str:=Q 27321202288
def ahn:Str:=Q 226030832
def aho:Str:=Q 1847540
def ahp:Str:=Q 220003056
def ahq:Str:=Q 211597303
def ahr:Str:=Q 28126639223
def ahs:Str:=Q 213465059
def abq:Str:=Q 213465070
def aht:Str:=Q 211383022
def ahu:Str:=Q 31081674743
def ahv:Str:=Q 3978701896432
noncomputable def up(l:List Obj):List (Nat×Obj)->List Obj
 |[]=>l|p::r=>up (l.set p.1 p.2) r
@[reducible]noncomputable def T0:Obj:=tp []
@[reducible]noncomputable def T1:Obj:=fl N0 []
@[reducible]noncomputable def T2(a b:Nat)(c d:Str):Obj:=⟨N0,none,(.func (fu (fc a b) c d 0 [] N0 N0 N0 N0 none N0 N0 0)),⟨[]⟩⟩
@[reducible]noncomputable def T3(a b c d e f g:Nat)(h i:Str):Obj:=fl (ty RP) [(S h a),(S i (a+1)),(S dE (a+2)),(I b 0),(I c 0),(I d 0),(I 0 0),(I e 0),(r f),bt,(I 181 0),(r (f+1)),N0,(r (f+2)),(r (f+3)),(r (f+4)),(I g 0),(I b 0),(S dE (g+1))]
@[reducible]noncomputable def T4(a b c d:Nat)(e f g:Str):Obj:=⟨(ty uA),none,(.func (fu (fc a b) e f 3 [] N0 N0 N0 (S g c) none (r d) N0 0)),⟨[]⟩⟩
@[reducible]noncomputable def T5(a:Nat)(b:Str):Obj:=tp [(S b a)]
@[reducible]noncomputable def T6(a:Nat):Obj:=tp [(r a)]
@[reducible]noncomputable def T7(a b c d:Nat)(e:Str):Obj:=fl (ty RP) [(S e a),(S e (a+1)),(S dE (a+2)),(I b 0),(I 0 0),(I 0 0),(I 0 0),(I 0 0),(r c),bf,(I d 0),(r (c+1)),N0,N0,N0,N0,(I (a+3) 0),(I b 0),(S dE (a+4))]
@[reducible]noncomputable def T8(a b c:Nat)(d:Str):Obj:=⟨(ty afT),none,.plain,⟨[(some (r a)),(some (r 3)),(some (r b)),none,(some (S d c)),none,(some (r 0))]⟩⟩
@[reducible]noncomputable def T9:Obj:=fl (ty aa0) [(bi afU),(ty fQ)]
@[reducible]noncomputable def de(a:Nat):Obj:=fl (ty z70) [(r a),(r a),(r a)]
@[reducible]noncomputable def dg(a:Nat):Obj:=fl (ty aa0) [(bi afY),(r a)]
@[reducible]noncomputable def dW(a:Nat)(b c:Str):Obj:=tp [(S b a),(S c (a+1))]
@[reducible]noncomputable def eI(a b:Nat)(c:Str):Obj:=fl (ty z59) [(r a),N0,N0,N0,(S c b),bf]
@[reducible]noncomputable def oq(a b c d:Nat)(e f:Str):Obj:=fl (ty RP) [(S e a),(S f (a+1)),(S dE (a+2)),(I b 0),(I c 0),(I 0 0),(I 0 0),(I 3 0),(r d),bt,(I 181 0),(r (d+1)),N0,N0,N0,(r (d+2)),(I (a+3) 0),(I b 0),(S dE (a+4))]
@[reducible]noncomputable def pi(a b c d:Nat)(e f:Str):Obj:=⟨(ty uA),none,(.func (fu (fc a b) e f 3 [(eW,c)] N0 N0 N0 (S φ 1716) none (r (d+6)) (r d) 0)),⟨[]⟩⟩
@[reducible]noncomputable def pC(a:Nat)(b:Str):Obj:=⟨N0,none,(.func (fu (fa a) b b 0 [] N0 N0 N0 N0 none N0 N0 0)),⟨[]⟩⟩
@[reducible]noncomputable def pD(a:Nat):Obj:=⟨(ty af0),none,(.cell (some (r a))),⟨[]⟩⟩
@[reducible]noncomputable def qR(a b c:Nat)(d e:Str):Obj:=⟨(ty uA),none,(.func (fu (fa a) d d 3 [] N0 N0 N0 (S e b) none (r c) N0 0)),⟨[]⟩⟩
@[reducible]noncomputable def se(a b c d:Nat)(e f g:Str):Obj:=⟨(ty uA),none,(.func (fu (fc a b) e f 3 [] (r c) N0 N0 (S g d) none (r (c+6)) N0 0)),⟨[]⟩⟩
@[reducible]noncomputable def sH(a:Nat)(b c d:Str):Obj:=tp [(S b a),(S c (a+1)),(S d (a+2))]
@[reducible]noncomputable def sI(a:Nat)(b c d e:Str):Obj:=tp [(S b a),(S c (a+1)),(S d (a+2)),(S e (a+3))]
@[reducible]noncomputable def uW(a b c d e f g h:Nat):Obj:=fl N0 [(I a 0),(I 4 0),(r b),(I c 0),(I 4 0),(r d),(I e 0),(I 4 0),(r f),(I g 0),(I 4 0),(r h)]
@[reducible]noncomputable def yV(a b c d:Nat)(e:Str):Obj:=⟨(ty fQ),none,(.cls (cl e [(r a)] [(r (b+1)),(r a),(r 866),(r 744),(ty eH)] b e true [] [] false none false)),⟨[(some (r c)),none,(some (S e d)),(some (S e (d+8))),(some (bi dO)),(some bt)]⟩⟩
@[reducible]noncomputable def EW(a b c d:Nat)(e:Str):Obj:=⟨(ty fQ),none,(.cls (cl e [(r a)] [(r (b+1)),(r a),(r 1317),(r 1289),(r 866),(r 744),(ty eH)] b e true [] [] false none false)),⟨[(some (r c)),none,(some (S e d)),(some (S e (d+8))),(some (bi dO)),(some bt)]⟩⟩
@[reducible]noncomputable def Ig(a b c d:Nat):Obj:=fl N0 [(I a 0),(I 4 0),(r b),(I c 0),(I 4 0),(r d)]
@[reducible]noncomputable def Rn(a b c d e:Nat):Obj:=fl N0 [(I a 0),(I 4 0),(r b),(I c 0),(I 4 0),(r d),(I e 0),(I 4 0),(r (d+7))]
@[reducible]noncomputable def Ro(P:Params)(a b c d e:Nat)(f g:Str):Obj:=⟨(ty bQ),none,(.dict ⟨[E P bw a (S f b),E P dR (a+2) (S g (a+1)),E P bB (a+4) (I c (a+3)),E P bj d (r e)]⟩ 4),⟨[]⟩⟩
@[reducible]noncomputable def Y6:Obj:=⟨(ty bQ),none,(.dict ⟨[]⟩ 0),⟨[]⟩⟩
@[reducible]noncomputable def Y7(a b:Nat):Obj:=fl (ty aa1) [(S yj a),(r b),(bi afX),N0]
@[reducible]noncomputable def Y8(a:Nat):Obj:=tp [(.int (.negSucc 0) a)]
@[reducible]noncomputable def Y9(a b c:Nat)(d:Str):Obj:=⟨(ty fQ),none,(.cls (cl d [(r 1317)] [(r (a+1)),(r 1317),(r 1289),(r 866),(r 744),(ty eH)] a d true [] [] false none false)),⟨[(some (r b)),none,(some (S d c)),(some (S d (c+8))),(some (bi dO)),(some bt)]⟩⟩
@[reducible]noncomputable def Y_(P:Params)(a b c d:Nat)(e f:Str):Obj:=⟨(ty bQ),none,(.dict ⟨[E P bw a (S φ 1716),E P dR (a+2) (S e (a+1)),E P bB (a+4) (I b (a+3)),E P bP (a+6) (S f (a+5)),E P Θ (a+13) (r (c+11)),E P σ (a+20) (r (c+18)),E P ah (a+28) (r (c+26)),E P Ω d (r (c+34)),E P bj (d+1) (r (c+35)),E P yC (d+2) (r c)]⟩ 10),⟨[]⟩⟩
@[reducible]noncomputable def Y'(P:Params)(a b c d:Nat)(e:Str):Obj:=⟨(ty bQ),none,(.dict ⟨[E P bw a (S φ 1716),E P bB (a+4) (I b (a+3)),E P bP (a+6) (S e (a+5)),E P Θ (a+13) (r c),E P σ (a+20) (r (c+7)),E P ah (a+28) (r (c+15)),E P Ω d (r (c+23)),E P bj (d+1) (r (c+24)),E P s2 (d+3) N0]⟩ 3),⟨[]⟩⟩
@[reducible]noncomputable def ZO(P:Params)(a b c:Nat)(d e f:Str):Obj:=⟨(ty bQ),none,(.dict ⟨[E P bw a (S d b),E P s0 (a+3) (S e (a+2)),E P dR (a+6) (S f (a+5)),E P s2 (a+8) N0,E P fH (a+10) (r c)]⟩ 5),⟨[]⟩⟩
@[reducible]noncomputable def ZP(a:Nat)(b:String):Obj:=⟨(ty b),(some (a+1)),(.fields ⟨[(r a),bf]⟩),⟨[]⟩⟩
@[reducible]noncomputable def ZQ(P:Params)(a b c d e:Nat)(f:Str):Obj:=⟨(ty bQ),none,(.dict ⟨[E P bw a (S f b),E P bB (a+4) (I c (a+3)),E P bj d (r e),E P s2 (d+1) N0]⟩ 2),⟨[]⟩⟩
@[reducible]noncomputable def ZR:Obj:=tp [N0]
@[reducible]noncomputable def ZT(a b c d e f g h i:Nat):Obj:=fl N0 [(I a 0),(I 4 0),(r b),(I (a+3) 0),(I 4 0),(r c),(I d 0),(I 4 0),(r e),(I f 0),(I 4 0),(r g),(I h 0),(I 4 0),(r i)]
@[reducible]noncomputable def ZU(P:Params)(a b c:Nat)(d e f g:Str):Obj:=⟨(ty bQ),none,(.dict ⟨[E P bw a (S φ 1716),E P dR (a+2) (S d (a+1)),E P bB (a+4) (I b (a+3)),E P cG (a+6) (S e (a+5)),E P bP (a+8) (S f (a+7)),E P jB (a+10) (S g (a+9)),E P Θ (a+17) (r c),E P σ (a+24) (r (c+7)),E P bj (a+25) (r (c+8))]⟩ 9),⟨[]⟩⟩
@[reducible]noncomputable def ZV(P:Params)(a b c:Nat)(d e f:Str):Obj:=⟨(ty bQ),none,(.dict ⟨[E P bw a (S φ 1716),E P bB (a+4) (I b (a+3)),E P cG (a+6) (S d (a+5)),E P bP (a+8) (S e (a+7)),E P jB (a+10) (S f (a+9)),E P Θ (a+17) (r c),E P σ (a+24) (r (c+7)),E P bj (a+25) (r (c+8)),E P s2 (a+26) N0]⟩ 2),⟨[]⟩⟩
@[reducible]noncomputable def ZW(P:Params)(a b c d e f:Nat)(g h i:Str):Obj:=⟨(ty bQ),none,(.dict ⟨[E P bw a (S φ 1716),E P dR (a+2) (S g (a+1)),E P bB (a+4) (I b (a+3)),E P cG (a+6) (S h (a+5)),E P bP (a+8) (S i (a+7)),E P Θ c (r d),E P σ (c+7) (r (d+7)),E P ah e (r (d+15)),E P Ω (e+7) (r (d+21)),E P bj (e+8) (r (d+22)),E P yC (e+9) (r f)]⟩ 11),⟨[]⟩⟩
@[reducible]noncomputable def ZX(P:Params)(a b c d e:Nat)(f g:Str):Obj:=⟨(ty bQ),none,(.dict ⟨[E P bw a (S φ 1716),E P bB (a+4) (I b (a+3)),E P cG (a+6) (S f (a+5)),E P bP (a+8) (S g (a+7)),E P Θ c (r d),E P σ (c+7) (r (d+7)),E P ah e (r (d+15)),E P Ω (e+7) (r (d+21)),E P bj (e+8) (r (d+22)),E P s2 (e+10) N0]⟩ 3),⟨[]⟩⟩
@[reducible]noncomputable def T43(a b:Nat):Obj:=fl (ty aa1) [(S As a),(r b),(bi afV),(bi afW)]
@[reducible]noncomputable def T44(a b:Nat):Obj:=fl N0 [(I a 0),(I 4 0),(r b)]
@[reducible]noncomputable def T45(P:Params)(a b c d e f g h i j k:Nat)(m n p q u:Str):Obj:=⟨(ty bQ),none,(.dict ⟨[E P bw a (S m b),E P bB (a+4) (I c (a+3)),E P n d (r e),E P p f (r g),E P q h (r i),E P u j (r (i+1)),E P s2 (j+1) N0]⟩ k),⟨[]⟩⟩
@[reducible]noncomputable def T46(a b c d:Nat)(e f g:Str):Obj:=⟨(ty uA),none,(.func (fu (fc a b) e f 3 [] N0 N0 N0 (S g c) (some (d+4)) (r d) N0 0)),⟨[]⟩⟩
@[reducible]noncomputable def T47(P:Params)(a b c d e f g h i j:Nat)(k m n p q u v:Str):Obj:=⟨(ty bQ),none,(.dict ⟨[E P bw a (S φ 1716),E P dR (a+2) (S k (a+1)),E P bB (a+4) (I b (a+3)),E P cG (a+6) (S m (a+5)),E P n c (r d),E P p e (r f),E P q g (r (h+26)),E P u i (r j),E P v (i+7) (r (h+40)),E P bj (i+8) (r (h+41)),E P yC (i+9) (r h)]⟩ 11),⟨[]⟩⟩
@[reducible]noncomputable def T48(P:Params)(a b c d e f g h i j:Nat)(k m n p q u:Str):Obj:=⟨(ty bQ),none,(.dict ⟨[E P bw a (S φ 1716),E P bB (a+4) (I b (a+3)),E P cG (a+6) (S k (a+5)),E P m c (r d),E P n e (r f),E P p g (r h),E P q i (r j),E P u (i+7) (r (h+14)),E P bj (i+8) (r (h+15)),E P s2 (i+10) N0]⟩ 3),⟨[]⟩⟩
@[reducible]noncomputable def T49(P:Params)(a b c d e f g h i:Nat)(j k m n p:Str):Obj:=⟨(ty bQ),none,(.dict ⟨[E P bw a (S j b),E P dR (a+2) (S k (a+1)),E P bB (a+4) (I c (a+3)),E P m d (r e),E P n f (r g),E P p h (r (g+7)),E P bj i (r (g+8))]⟩ 7),⟨[]⟩⟩
@[reducible]noncomputable def T50(a:Nat)(b c d e f:Str):Obj:=tp [(S b a),(S c (a+1)),(S d (a+2)),(S e (a+3)),(S f (a+4))]
@[reducible]noncomputable def T51(a b:Nat):Obj:=tp [(I a b)]
@[reducible]noncomputable def T52(a:Nat)(b c d e f g:Str):Obj:=tp [(S b a),(S c (a+1)),(S d (a+2)),(S e (a+3)),(S f (a+4)),(S g (a+5))]
@[reducible]noncomputable def T53(a b c d:Nat)(e:Str):Obj:=⟨(ty fQ),none,(.cls (cl e [(r a)] [(r (b+1)),(r a),(r 744),(ty eH)] b e true [] [] false none false)),⟨[(some (r c)),none,(some (S e d)),(some (S e (d+8))),(some (bi dO)),(some bt)]⟩⟩
@[reducible]noncomputable def T54(a b c d:Nat)(e:Str):Obj:=⟨(ty fQ),none,(.cls (cl e [(r 866)] [(r (a+1)),(r 866),(r 744),(ty eH)] a e true [] [(r b)] false none false)),⟨[(some (r c)),none,(some (S e d)),(some (S e (d+8))),(some (bi dO)),(some bt)]⟩⟩
@[reducible]noncomputable def T55(P:Params)(a b c d e f:Nat)(g h i:Str):Obj:=⟨(ty bQ),none,(.dict ⟨[E P bw a (S φ 1716),E P dR (a+2) (S g (a+1)),E P bB (a+4) (I b (a+3)),E P h c (r d),E P i e (r f),E P bj (e+1) (r (f+1))]⟩ 6),⟨[]⟩⟩
@[reducible]noncomputable def T56(P:Params)(a b c d e f:Nat)(g h:Str):Obj:=⟨(ty bQ),none,(.dict ⟨[E P bw a (S φ 1716),E P bB (a+4) (I b (a+3)),E P g c (r d),E P h e (r f),E P bj (e+1) (r (f+1)),E P s2 (e+2) N0]⟩ 2),⟨[]⟩⟩
@[reducible]noncomputable def T57(P:Params)(a b c d e f g:Nat)(h i:Str):Obj:=⟨(ty bQ),none,(.dict ⟨[E P bw a (S φ 1716),E P bB (a+4) (I b (a+3)),E P bP (a+6) (S h (a+5)),E P Θ (a+13) (r c),E P i d (r e),E P Ω (d+11) (r (e+8)),E P bj (d+12) (r (e+9)),E P s2 f N0]⟩ g),⟨[]⟩⟩
@[reducible]noncomputable def T58(a:Nat):Obj:=⟨(ty afS),(some a),.plain,⟨[]⟩⟩
@[reducible]noncomputable def T59(a:Nat):Obj:=tp [(.bytes ⟨[]⟩ a)]
@[reducible]noncomputable def T60(P:Params)(a b c d e f g h i j k m n:Nat)(p q u v w x y:Str):Obj:=⟨(ty bQ),none,(.dict ⟨[E P bw a (S p b),E P bB (a+4) (I c (a+3)),E P q d (r e),E P u f (r (e+7)),E P v (f+8) (r g),E P w h (r i),E P x j (r k),E P y m (r (k+1)),E P s2 (m+1) N0]⟩ n),⟨[]⟩⟩
@[reducible]noncomputable def T61(a b:Nat)(c:Str):Obj:=⟨(ty fQ),none,(.cls (cl c [(ty eH)] [(r (a+1)),(ty eH)] a c true [] [] false none false)),⟨[none,none,(some (S c b)),(some (S c (b+8))),(some (bi dO)),(some bt)]⟩⟩
@[reducible]noncomputable def T62(P:Params)(a b c d e f:Nat)(g h i:Str):Obj:=⟨(ty bQ),none,(.dict ⟨[E P bw a (S g b),E P dR (a+2) (S h (a+1)),E P bB (a+4) (I c (a+3)),E P i d (r e),E P bj (d+1) (r f)]⟩ 5),⟨[]⟩⟩
@[reducible]noncomputable def T63(P:Params)(a b c d e:Nat)(f:Str):Obj:=⟨(ty bQ),none,(.dict ⟨[E P bw a (S f b),E P bB (a+4) (I c (a+3)),E P bj d (r e),E P yj (d+2) (r (e+3)),E P s2 (d+3) N0]⟩ 3),⟨[]⟩⟩
@[reducible]noncomputable def T64(a b:Nat)(c:Str):Obj:=⟨(ty fQ),none,(.cls (cl c [(r 156)] [(r (a+9)),(r 156),(ty eH)] (a+8) c true [] [] false none false)),⟨[(some (r a)),none,(some (S c b)),(some (S c (b+8))),(some N0),(some bt)]⟩⟩
@[reducible]noncomputable def T65(a b c d e f g h i j k m n p q u v w x y A B C:Nat):Obj:=fl N0 [(I a 0),(I b 0),(r c),(I d 0),(I b 0),(r e),(I f 0),(I b 0),(r g),(I (d+7) 0),(I b 0),(r h),(I i 0),(I b 0),(r j),(I k 0),(I b 0),(r m),(I (i+8) 0),(I b 0),(r (m+7)),(I n 0),(I b 0),(r p),(I q 0),(I b 0),(r u),(I (i+23) 0),(I b 0),(r v),(I (n+14) 0),(I b 0),(r w),(I x 0),(I b 0),(r y),(I A 0),(I b 0),(r B),(I (n+25) 0),(I b 0),(r C)]
@[reducible]noncomputable def T66(a b c:Nat)(d:Str):Obj:=⟨(ty fQ),none,(.cls (cl d [(r 156)] [(r (a+9)),(r 156),(ty eH)] (a+8) d true [] [(r b)] false none false)),⟨[(some (r a)),none,(some (S d c)),(some (S d (c+8))),(some N0),(some bt)]⟩⟩
@[reducible]noncomputable def T67(a b c d:Nat)(e:Str):Obj:=⟨(ty fQ),none,(.cls (cl e [(r a)] [(r (b+1)),(r a),(r 156),(ty eH)] b e true [] [] false none false)),⟨[(some (r c)),none,(some (S e d)),(some (S e (d+8))),(some N0),(some bt)]⟩⟩
@[reducible]noncomputable def T68(a b c:Nat)(d:Str):Obj:=⟨(ty fQ),none,(.cls (cl d [(r 744)] [(r (a+1)),(r 744),(ty eH)] a d true [] [] false none false)),⟨[(some (r b)),none,(some (S d c)),(some (S d (c+8))),(some (bi dO)),(some bt)]⟩⟩
@[reducible]noncomputable def T69(a b c d:Nat)(e:Str):Obj:=⟨(ty fQ),none,(.cls (cl e [(r 744)] [(r (a+1)),(r 744),(ty eH)] a e true [] [(r b)] false none false)),⟨[(some (r c)),none,(some (S e d)),(some (S e (d+8))),(some (bi dO)),(some bt)]⟩⟩
@[reducible]noncomputable def T70(a b c d:Nat)(e:Str):Obj:=⟨(ty fQ),none,(.cls (cl e [(r 1317)] [(r (a+1)),(r 1317),(r 1289),(r 866),(r 744),(ty eH)] a e true [] [(r b)] false none false)),⟨[(some (r c)),none,(some (S e d)),(some (S e (d+8))),(some (bi dO)),(some bt)]⟩⟩
@[reducible]noncomputable def T71(P:Params)(a b c:Nat)(d e:Str):Obj:=⟨(ty bQ),none,(.dict ⟨[E P bw a (S φ 1716),E P dR (a+2) (S d (a+1)),E P bB (a+4) (I b (a+3)),E P bP (a+6) (S e (a+5)),E P Θ (a+13) (r (c+11)),E P ah (a+21) (r (c+19)),E P Ω (a+32) (r (c+27)),E P bj (a+33) (r (c+28)),E P yC (a+34) (r c)]⟩ 9),⟨[]⟩⟩
def o0(P:Params):Obj:=⟨(ty bQ),none,(.dict ⟨[E P s0 1 (S s1 160),E P s2 2 (bi z0),E P s3 3 (bi z1),E P s4 4 (bi z2),E P s5 5 (bi z3),E P s6 6 (bi z4),E P s7 7 (bi z5),E P s8 8 (bi z6),E P s9 9 (bi z7),E P s10 10 (bi z8),E P s11 11 (bi z9),E P s12 12 (bi z10),E P s13 13 (bi z11),E P s14 14 (bi z12),E P s15 15 (bi z13),E P cB 16 (bi z14),E P s17 17 (bi z15),E P s18 18 (bi z16),E P s19 19 (bi z17),E P s20 20 (bi z18),E P s21 21 (bi z19),E P s22 22 (bi z20),E P s23 23 (bi z21),E P s24 24 (bi z22),E P s25 25 (bi z23),E P s26 26 (bi z24),E P s27 27 (bi z25),E P s28 28 (bi z26),E P s29 29 (bi z27),E P s30 30 (bi z28),E P s31 31 (bi z29),E P s32 32 (bi z30),E P s33 33 (bi z31),E P s34 34 (bi z32),E P s35 35 (bi z33),E P s36 36 (bi z34),E P s37 37 (bi z35),E P s38 38 (bi z36),E P s39 39 (bi z37),E P s40 40 (bi z38),E P s41 41 (bi z39),E P s42 42 (bi z40),E P s43 43 (bi z41),E P s44 44 (bi z42),E P s45 45 (bi z43),E P s46 46 (bi z44),E P s47 47 (bi z45),E P s48 48 (bi z46),E P s49 49 (bi z47),E P s50 50 N0,E P s51 51 .ellipsis,E P s52 52 .notImplemented,E P s53 53 bf,E P s54 54 bt,E P s55 55 (ty z48),E P s56 56 (ty z49),E P s57 57 (ty z50),E P s58 58 (ty z51),E P s59 59 (ty ZN),E P s60 60 (ty z53),E P s61 61 (ty bQ),E P s62 62 (ty z55),E P s63 63 (ty z56),E P s64 64 (ty z57),E P s65 65 (ty z58),E P s66 66 (ty z59),E P s67 67 (ty z60),E P s68 68 (ty z61),E P s69 69 (ty z62),E P s70 70 (ty eH),E P s71 71 (ty z64),E P s72 72 (ty z65),E P s73 73 (ty z66),E P s74 74 (ty z67),E P s75 75 (ty z68),E P s76 76 (ty z69),E P s77 77 (ty z70),E P s78 78 (ty z71),E P ch 79 (ty fQ),E P s80 80 (ty z73),E P s81 81 bt,E P s82 82 (ty Ie),E P s83 83 (ty z75),E P s84 84 (ty Ad),E P s85 85 (ty z77),E P s86 86 (ty z78),E P s87 87 (ty z79),E P s88 88 (ty z80),E P s89 89 (ty z81),E P s90 90 (ty z82),E P s91 91 (ty z83),E P s92 92 (ty z84),E P s93 93 (ty z85),E P s94 94 (ty z86),E P s95 95 (ty z87),E P s96 96 (ty z88),E P s97 97 (ty Y5),E P s98 98 (ty z90),E P s99 99 (ty z91),E P af1 100 (ty z92),E P af2 101 (ty z93),E P af3 102 (ty z94),E P af4 103 (ty z95),E P af5 104 (ty z96),E P af6 105 (ty z97),E P af7 106 (ty z98),E P af8 107 (ty z99),E P af9 108 (ty ae4),E P aga 109 (ty ae5),E P agb 110 (ty ae6),E P agc 111 (ty ae7),E P agd 112 (ty ae8),E P age 113 (ty ae9),E P agf 114 (ty afa),E P agg 115 (ty afb),E P agh 116 (ty afc),E P agi 117 (ty afd),E P agj 118 (ty afe),E P agk 119 (ty aff),E P agl 120 (ty afg),E P agm 121 (ty afh),E P agn 122 (ty afi),E P ago 123 (ty afj),E P agp 124 (ty afk),E P agq 125 (ty afl),E P agr 126 (ty afm),E P ags 127 (ty afn),E P agt 128 (ty afo),E P agu 129 (ty afp),E P agv 130 (ty afq),E P agw 131 (ty afr),E P agx 132 (ty afs),E P agy 133 (ty aft),E P agz 134 (ty afu),E P agA 135 (ty afv),E P agB 136 (ty afw),E P agC 137 (ty afx),E P agD 138 (ty afy),E P agE 139 (ty afz),E P agF 140 (ty afA),E P agG 141 (ty afB),E P agH 142 (ty afC),E P agI 143 (ty afD),E P agJ 144 (ty afE),E P agK 145 (ty afF),E P agL 146 (ty afG),E P agM 147 (ty afH),E P agN 148 (ty afI),E P agO 149 (ty afJ),E P agP 150 (ty afK),E P agQ 151 (ty Y5),E P agR 152 (ty Y5),E P agS 153 (bi afL),E P agT 154 (bi afM),E P agU 155 (bi afN),E P agV 156 (bi afO),E P agW 157 (bi afP),E P agX 158 (bi afQ),E P agY 159 (bi afR)]⟩ 159),⟨[]⟩⟩
noncomputable def c0(P:Params):List Obj:=[o0 P,⟨(ty bQ),none,(.dict ⟨[E P s1 162 (r 4),E P Aq 163 (r 5)]⟩ 2),⟨[]⟩⟩,⟨N0,none,(.dict ⟨[]⟩ 0),⟨[]⟩⟩,⟨(ty bQ),none,(.dict ⟨[E P s0 165 (S Aq 164),E P s2 166 N0,E P s3 167 N0,E P s4 168 (bi fZ),E P s5 169 N0,E P fH 170 (r 6),E P f6 171 (r 4),E P f7 173 (S dE 172),E P f8 174 N0]⟩ 9),⟨[]⟩⟩,T58 0,T58 3,Y6,T0,T1,T7 176 1 7 175 aa2,T8 9 3 164 Aq,T0,T1,T7 182 1 11 181 aa2,T8 13 3 164 Aq]
noncomputable def L0(P:Params):List Obj:=om [c0 P]
def abr(P:Params):Obj:=⟨N0,none,(.dict ⟨[E P agZ 320 (I 109 0),E P ag0 321 (I 1 0),E P ag1 360 (I 136 0),E P ag2 361 (I 1 0)]⟩ 4),⟨[]⟩⟩
def o25:Obj:=oq 196 5 1 22 d0 d0
def o26:Obj:=qR 2 194 25 d0 ju
def o30:Obj:=oq 202 8 1 27 d5 d5
def o31:Obj:=qR 3 194 30 d5 ju
def abt(P:Params):Obj:=T63 P 311 302 32 316 107 cZ
noncomputable def abu(P:Params):List Obj:=up (c0 P) [(2,abr P),(3,⟨(ty bQ),none,(.dict ⟨[E P s0 165 (S ax 324),E P s2 166 N0,E P s3 167 N0,E P s4 168 (bi fZ),E P s5 169 N0,E P fH 170 (r 6),E P f6 171 (r 4),E P f7 173 (S dE 172),E P f8 174 N0,E P eA 193 (r 21),E P d0 201 (r 26),E P d5 207 (r 31),E P dP 253 (r 63),E P gS 254 (r 63),E P eR 294 (r 88),E P eC 301 (r 99),E P cR 323 (r 109),E P eD 333 (r 119),E P eE 341 (r 126),E P dQ 363 (r 136),E P cW 395 (r 156)]⟩ 21),⟨[]⟩⟩),(12,fl N0 [(I 1 0),(I 0 0),(r 20),(I 5 0),(I 0 0),(r 25),(I 8 0),(I 0 0),(r 30),(I 12 0),(I 0 0),(r 37),(I 24 0),(I 0 0),(r 73),(I 29 0),(I 0 0),(r 98),(I 32 0),(I 0 0),(r 105),(I 35 0),(I 0 0),(r 118),(I 40 0),(I 0 0),(r 125),(I 47 0),(I 0 0),(r 132),(I 49 0),(I 0 0),(r 145)])]
noncomputable def c1(P:Params):List Obj:=[T0,T1,T5 190 aa3,T0,pC 0 eA,T3 187 1 1 0 3 15 191 eA eA,qR 0 164 20 eA Aq,T0,T1,pC 2 d0,o25,o26,T0,T1,pC 3 d5,o30,o31,T0,T9,T49 P 215 194 12 228 46 236 53 244 246 ju dP bC Ar yi,T0,Rn 14 45 17 52 20,T7 210 12 35 181 dP,T8 37 34 194 ju,T59 220,T0,T1,dW 224 ν Fn,T0,T2 4 0 bC RQ,T3 221 14 2 0 3 40 226 bC RQ,se 4 0 39 194 bC RQ ju,T0,T1,dW 232 ν Fn,T0,T2 4 1 Ar RT,T3 229 17 2 0 3 47 234 Ar RT,T4 4 1 194 52 Ar RT ju,T0,T1,dW 240 ν aa4,T0,T2 4 2 yi RV,T3 237 20 1 0 3 54 242 yi RV,T4 4 2 194 59 yi RV ju,T5 245 Fn,T60 P 215 194 12 228 46 236 60 246 61 248 64 250 4 ju bC Ar yi bj As yj,T61 62 208 dP,T43 247 63,Y7 249 63,de 63,dg 63,T0,T9,T62 P 262 194 24 286 84 86 ju eR qz,T0,T44 27 81,T7 257 24 71 181 eR,T8 73 70 194 ju,T59 267,T0,T1,T5 271 Fn,T0,T2 6 0 qz Fo,T3 268 26 1 0 3 76 272 qz Fo,⟨(ty uA),none,(.func (fu (fc 6 0) qz Fo 3 [] (r 75) N0 N0 (S ju 194) (some 85) (r 81) N0 0)),⟨[]⟩⟩,ZO P 275 194 85 ju qz Fo,ZP 82 z68,Y6,T0,T45 P 262 194 24 286 84 287 86 289 89 291 4 ju qz bj As yj,T61 87 255 eR,T43 288 88,Y7 290 88,de 88,dg 88,T0,T1,T5 298 aa5,T0,pC 7 eC,T3 295 29 1 0 3 93 299 eC eC,qR 7 194 98 eC ju,tp [(ty Ad)],T9,Ro P 311 302 32 316 107 cZ cR,T0,T1,T7 306 32 103 181 cR,T8 105 102 302 cZ,T0,abt P,⟨(ty fQ),none,(.cls (cl cR [(ty Ad)] [(r 109),(ty Ad),(ty Ie),(ty eH)] 108 cR true [] [] false none false)),⟨[(some (r 100)),none,(some (S cR 304)),(some (S cR 312)),(some (bi yh)),(some bt)]⟩⟩,Y7 317 109,de 109,dg 109,T0,T1,dW 329 Au aa6,T0,pC 11 eD,T3 326 35 2 0 3 113 331 eD eD,qR 11 324 118 eD ax,T0,T1,dW 337 Au aa6,T0,pC 12 eE,T3 334 40 2 0 3 120 339 eE eE,qR 12 324 125 eE ax,tp [(ty Y5),(ty z97)],T9,Ro P 349 354 47 356 134 ax dQ,T0,T1,T7 344 47 130 181 dQ,T8 132 129 324 ax,T0,T63 P 349 354 47 356 134 ax,⟨(ty fQ),none,(.cls (cl dQ [(ty Y5),(ty z97)] [(r 136),(ty Y5),(ty z97),(ty Ad),(ty Ie),(ty eH)] 135 dQ true [] [] false none false)),⟨[(some (r 127)),none,(some (S dQ 342)),(some (S dQ 350)),(some (bi afZ)),(some bt)]⟩⟩,Y7 357 136,de 136,dg 136,T0,T9,T62 P 371 376 49 386 153 154 ax cW Av,T0,T44 52 152,T7 366 49 143 181 cW,T8 145 142 324 ax,T0,T1,sH 381 Aw aW kb,T0,T2 14 1 Av RW,T3 378 52 1 1 15 147 384 Av RW,T4 14 1 324 152 Av RW ax,T0,T45 P 371 376 49 386 157 387 154 390 158 392 4 ax Av bj As yj,⟨(ty fQ),none,(.cls (cl cW [(ty eH)] [(r 156),(ty eH)] 155 cW true [] [] false none false)),⟨[none,none,(some (S cW 364)),(some (S cW 372)),(some N0),(some bt)]⟩⟩,fl (ty z68) [(r 153)],T43 389 156,Y7 391 156,de 156,dg 156]
noncomputable def L1(P:Params):List Obj:=om [abu P,c1 P]
noncomputable def abv(P:Params):List Obj:=up (abu P) [(3,⟨(ty bQ),none,(.dict ⟨[E P s0 165 (S ax 324),E P s2 166 N0,E P s3 167 N0,E P s4 168 (bi fZ),E P s5 169 N0,E P fH 170 (r 6),E P f6 171 (r 4),E P f7 173 (S dE 172),E P f8 174 N0,E P eA 193 (r 21),E P d0 201 (r 26),E P d5 207 (r 31),E P dP 253 (r 63),E P gS 254 (r 63),E P eR 294 (r 88),E P eC 301 (r 99),E P cR 323 (r 109),E P eD 333 (r 119),E P eE 341 (r 126),E P dQ 363 (r 136),E P cW 395 (r 156),E P eS 413 (r 171),E P eU 431 (r 183)]⟩ 23),⟨[]⟩⟩),(12,fl N0 [(I 1 0),(I 0 0),(r 20),(I 5 0),(I 0 0),(r 25),(I 8 0),(I 0 0),(r 30),(I 12 0),(I 0 0),(r 37),(I 24 0),(I 0 0),(r 73),(I 29 0),(I 0 0),(r 98),(I 32 0),(I 0 0),(r 105),(I 35 0),(I 0 0),(r 118),(I 40 0),(I 0 0),(r 125),(I 47 0),(I 0 0),(r 132),(I 49 0),(I 0 0),(r 145),(I 56 0),(I 0 0),(r 167),(I 58 0),(I 0 0),(r 179)])]
noncomputable def FA(P:Params):List Obj:=up (c1 P) [(141,⟨(ty fQ),none,(.cls (cl cW [(ty eH)] [(r 156),(ty eH)] 155 cW true [] [(r 171),(r 183)] false none false)),⟨[none,none,(some (S cW 364)),(some (S cW 372)),(some N0),(some bt)]⟩⟩)]
noncomputable def c2(P:Params):List Obj:=[T6 156,T9,Ro P 403 408 56 410 169 ax eS,T0,T1,T7 398 56 165 181 eS,T8 167 164 324 ax,T0,ZQ P 403 408 56 410 169 ax,T64 162 396 eS,de 171,dg 171,T6 156,T9,Ro P 421 426 58 428 181 ax eU,T0,T1,T7 416 58 177 181 eU,T8 179 176 324 ax,T0,ZQ P 421 426 58 428 181 ax,T64 174 414 eU,de 183,dg 183]
noncomputable def L2(P:Params):List Obj:=om [abv P,FA P,c2 P]
noncomputable def abw(P:Params):List Obj:=up (abv P) [(3,⟨(ty bQ),none,(.dict ⟨[E P s0 165 (S ax 324),E P s2 166 N0,E P s3 167 N0,E P s4 168 (bi fZ),E P s5 169 N0,E P fH 170 (r 6),E P f6 171 (r 4),E P f7 173 (S dE 172),E P f8 174 N0,E P eA 193 (r 21),E P d0 201 (r 26),E P d5 207 (r 31),E P dP 253 (r 63),E P gS 254 (r 63),E P eR 294 (r 88),E P eC 301 (r 99),E P cR 323 (r 109),E P eD 333 (r 119),E P eE 341 (r 126),E P dQ 363 (r 136),E P cW 395 (r 156),E P eS 413 (r 171),E P eU 431 (r 183),E P f9 693 (r 413)]⟩ 24),⟨[]⟩⟩),(12,T65 1 0 20 5 25 8 30 37 24 73 29 98 35 118 40 125 132 145 56 167 58 179 191)]
noncomputable def abx(P:Params):List Obj:=up (c2 P) [(9,T66 162 413 396 eS)]
noncomputable def c3(P:Params):List Obj:=[T6 171,T9,⟨(ty bQ),none,(.dict ⟨[E P bw 439 (S Fp 444),E P dR 441 (S f9 440),E P bB 443 (I 60 442),E P bC 453 (r 200),E P aa7 460 (r 207),E P aa8 471 (r 214),E P lK 479 (r 222),E P oG 486 (r 229),E P oH 493 (r 236),E P oJ 501 (r 243),E P oK 508 (r 250),E P oL 515 (r 257),E P oM 522 (r 264),E P oN 529 (r 271),E P oO 536 (r 278),E P oP 543 (r 285),E P oQ 550 (r 292),E P oR 557 (r 299),E P Ax 564 (r 306),E P oU 571 (r 313),E P oV 581 (r 321),E P oW 589 (r 329),E P oY 601 (r 337),E P Ay 611 (r 345),E P Az 621 (r 352),E P AA 629 (r 359),E P oZ 639 (r 367),E P o4 647 (r 375),E P o5 654 (r 382),E P o6 662 (r 389),E P o7 672 (r 396),E P o8 680 (r 403),E P o9 687 (r 410),E P bj 690 (r 411)]⟩ 34),⟨[]⟩⟩,T0,fl N0 [(I 63 0),(I 4 0),(r 199),(I 69 0),(I 4 0),(r 206),(I 73 0),(I 4 0),(r 213),(I 87 0),(I 4 0),(r 220),(I 90 0),(I 4 0),(r 228),(I 93 0),(I 4 0),(r 235),(I 97 0),(I 4 0),(r 242),(I 100 0),(I 4 0),(r 249),(I 104 0),(I 4 0),(r 256),(I 108 0),(I 4 0),(r 263),(I 112 0),(I 4 0),(r 270),(I 116 0),(I 4 0),(r 277),(I 119 0),(I 4 0),(r 284),(I 122 0),(I 4 0),(r 291),(I 125 0),(I 4 0),(r 298),(I 129 0),(I 4 0),(r 305),(I 132 0),(I 4 0),(r 312),(I 136 0),(I 4 0),(r 320),(I 153 0),(I 4 0),(r 328),(I 156 0),(I 4 0),(r 336),(I 170 0),(I 4 0),(r 344),(I 173 0),(I 4 0),(r 351),(I 187 0),(I 4 0),(r 358),(I 190 0),(I 4 0),(r 366),(I 197 0),(I 4 0),(r 374),(I 200 0),(I 4 0),(r 381),(I 203 0),(I 4 0),(r 388),(I 210 0),(I 4 0),(r 395),(I 226 0),(I 4 0),(r 402),(I 229 0),(I 4 0),(r 409)],T7 434 60 189 181 f9,T8 191 188 324 ax,ZR,T0,T1,dW 449 ν ag3,T0,T2 17 1 bC RX,T3 446 63 2 0 3 194 451 bC RX,se 17 1 193 324 bC RX ax,T0,T1,T5 457 ν,T0,T2 17 2 yk RY,T3 454 69 1 0 3 201 458 yk RY,T4 17 2 324 206 yk RY ax,T0,T1,T50 464 ν aa9 uB Fq Fs,T0,T2 17 3 yl RZ,T3 461 73 2 0 3 208 469 yl RZ,T4 17 3 324 213 yl RZ ax,T0,T1,T5 475 ν,T0,T2 17 4 lK R0,T3 472 86 1 0 3 215 476 lK R0,T4 17 4 324 220 lK R0 ax,eI 221 479 lK,T0,T1,T5 483 ν,T0,T2 17 5 oG R1,T3 480 90 1 0 3 223 484 oG R1,T4 17 5 324 228 oG R1 ax,T0,T1,T5 490 ν,T0,T2 17 6 oH R2,T3 487 93 1 0 3 230 491 oH R2,T4 17 6 324 235 oH R2 ax,T0,T1,dW 497 ν aW,T0,T2 17 7 oJ R4,T3 494 97 1 0 7 237 499 oJ R4,T4 17 7 324 242 oJ R4 ax,T0,T1,T5 505 ν,T0,T2 17 8 oK R5,T3 502 100 1 0 3 244 506 oK R5,T4 17 8 324 249 oK R5 ax,T0,T1,T5 512 ν,T0,T2 17 9 oL R6,T3 509 104 1 0 3 251 513 oL R6,T4 17 9 324 256 oL R6 ax,T0,T1,T5 519 ν,T0,T2 17 10 oM R7,T3 516 108 1 0 3 258 520 oM R7,T4 17 10 324 263 oM R7 ax,T0,T1,T5 526 ν,T0,T2 17 11 oN R8,T3 523 112 1 0 3 265 527 oN R8,T4 17 11 324 270 oN R8 ax,T0,T1,T5 533 ν,T0,T2 17 12 oO R9,T3 530 116 1 0 3 272 534 oO R9,T4 17 12 324 277 oO R9 ax,T0,T1,T5 540 ν,T0,T2 17 13 oP R_,T3 537 119 1 0 3 279 541 oP R_,T4 17 13 324 284 oP R_ ax,T0,T1,T5 547 ν,T0,T2 17 14 oQ Sa,T3 544 122 1 0 3 286 548 oQ Sa,T4 17 14 324 291 oQ Sa ax,T0,T1,T5 554 ν,T0,T2 17 15 oR Sb,T3 551 125 1 0 3 293 555 oR Sb,T4 17 15 324 298 oR Sb ax,T0,T1,T5 561 ν,T0,T2 17 16 Ax Sc,T3 558 129 1 0 3 300 562 Ax Sc,T4 17 16 324 305 Ax Sc ax,T0,T1,T5 568 ν,T0,T2 17 17 oU Sd,T3 565 132 1 0 3 307 569 oU Sd,T4 17 17 324 312 oU Sd ax,T51 0 572,T0,T1,sH 576 ν Se aba,T0,T2 17 18 oV Sf,T3 573 136 3 3 3 315 579 oV Sf,se 17 18 314 324 oV Sf ax,ZR,T0,T1,dW 585 ν uC,T0,T2 17 19 oW Sg,T3 582 153 2 2 3 323 587 oW Sg,se 17 19 322 324 oW Sg ax,Y8 591,T0,T1,sI 595 ν uC uB Fq,T0,T2 17 20 oY Si,T3 592 156 2 2 3 331 599 oY Si,se 17 20 330 324 oY Si ax,Y8 603,T0,T1,dW 607 ν uC,T0,T2 17 21 Ay Sj,T3 604 170 2 2 3 339 609 Ay Sj,se 17 21 338 324 Ay Sj ax,T0,T1,sI 615 ν abb uB Au,T0,T2 17 22 Az Sk,T3 612 173 2 2 3 346 619 Az Sk,T4 17 22 324 351 Az Sk ax,T0,T1,dW 625 ν abb,T0,T2 17 23 AA Sl,T3 622 187 2 2 3 353 627 AA Sl,T4 17 23 324 358 AA Sl ax,Y8 631,T0,T1,dW 635 ν uC,T0,T2 17 24 oZ Sm,T3 632 190 2 2 3 361 637 oZ Sm,se 17 24 360 324 oZ Sm ax,ZR,T0,T1,dW 643 ν uC,T0,T2 17 25 o4 Sn,T3 640 197 2 2 3 369 645 o4 Sn,se 17 25 368 324 o4 Sn ax,T0,T1,T5 651 ν,T0,T2 17 26 o5 So,T3 648 200 1 0 3 376 652 o5 So,T4 17 26 324 381 o5 So ax,T0,T1,dW 658 ν abc,T0,T2 17 27 o6 Sp,T3 655 203 1 0 3 383 660 o6 Sp,T4 17 27 324 388 o6 Sp ax,T0,T1,sI 666 ν abd Au uB,T0,T2 17 28 o7 Sq,T3 663 210 2 2 3 390 670 o7 Sq,T4 17 28 324 395 o7 Sq ax,T0,T1,dW 676 ν abe,T0,T2 17 29 o8 Sr,T3 673 226 2 2 3 397 678 o8 Sr,T4 17 29 324 402 o8 Sr ax,T0,T1,T5 684 ν,T0,T2 17 30 o9 Ss,T3 681 229 1 0 3 404 685 o9 Ss,T4 17 30 324 409 o9 Ss ax,dW 688 abf abg,⟨(ty bQ),none,(.dict ⟨[E P bw 439 (S Fp 444),E P bB 443 (I 60 442),E P bC 453 (r 200),E P aa7 460 (r 207),E P aa8 471 (r 214),E P lK 479 (r 222),E P oG 486 (r 229),E P oH 493 (r 236),E P oJ 501 (r 243),E P oK 508 (r 250),E P oL 515 (r 257),E P oM 522 (r 264),E P oN 529 (r 271),E P oO 536 (r 278),E P oP 543 (r 285),E P oQ 550 (r 292),E P oR 557 (r 299),E P Ax 564 (r 306),E P oU 571 (r 313),E P oV 581 (r 321),E P oW 589 (r 329),E P oY 601 (r 337),E P Ay 611 (r 345),E P Az 621 (r 352),E P AA 629 (r 359),E P oZ 639 (r 367),E P o4 647 (r 375),E P o5 654 (r 382),E P o6 662 (r 389),E P o7 672 (r 396),E P o8 680 (r 403),E P o9 687 (r 410),E P bj 690 (r 411),E P s2 691 N0]⟩ 2),⟨[]⟩⟩,T67 171 412 186 432 f9,de 413,dg 413]
noncomputable def L3(P:Params):List Obj:=om [abw P,FA P,abx P,c3 P]
noncomputable def aby(P:Params):List Obj:=up (abw P) [(3,⟨(ty bQ),none,(.dict ⟨[E P s0 165 (S cZ 981),E P s2 166 N0,E P s3 167 N0,E P s4 168 (bi fZ),E P s5 169 N0,E P fH 170 (r 6),E P f6 171 (r 4),E P f7 173 (S dE 172),E P f8 174 N0,E P eA 193 (r 21),E P d0 201 (r 26),E P d5 207 (r 31),E P dP 253 (r 63),E P gS 254 (r 63),E P eR 294 (r 88),E P eC 301 (r 99),E P cR 323 (r 109),E P eD 333 (r 119),E P eE 341 (r 126),E P dQ 363 (r 136),E P cW 395 (r 156),E P eS 413 (r 171),E P eU 431 (r 183),E P f9 693 (r 413),E P gT 980 (r 660)]⟩ 25),⟨[]⟩⟩),(12,fl N0 [(I 1 0),(I 0 0),(r 20),(I 5 0),(I 0 0),(r 25),(I 8 0),(I 0 0),(r 30),(I 12 0),(I 0 0),(r 37),(I 24 0),(I 0 0),(r 73),(I 29 0),(I 0 0),(r 98),(I 32 0),(I 0 0),(r 105),(I 35 0),(I 0 0),(r 118),(I 40 0),(I 0 0),(r 125),(I 47 0),(I 0 0),(r 132),(I 49 0),(I 0 0),(r 145),(I 56 0),(I 0 0),(r 167),(I 58 0),(I 0 0),(r 179),(I 60 0),(I 0 0),(r 191),(I 231 0),(I 0 0),(r 421)])]
noncomputable def iW(P:Params):List Obj:=up (abx P) [(21,T66 174 660 414 eU)]
noncomputable def c4(P:Params):List Obj:=[T6 183,T9,⟨(ty bQ),none,(.dict ⟨[E P bw 701 (S Fp 706),E P dR 703 (S gT 702),E P bB 705 (I 231 704),E P bC 718 (r 430),E P abh 727 (r 437),E P abi 734 (r 444),E P abj 741 (r 451),E P abk 756 (r 458),E P lK 764 (r 466),E P ym 772 (r 474),E P yn 780 (r 482),E P yo 788 (r 490),E P yp 796 (r 498),E P oG 803 (r 505),E P oH 810 (r 512),E P oJ 818 (r 519),E P oK 825 (r 526),E P oL 832 (r 533),E P oM 839 (r 540),E P oN 846 (r 547),E P oO 853 (r 554),E P oP 860 (r 561),E P oQ 867 (r 568),E P oR 874 (r 575),E P oU 881 (r 582),E P oV 891 (r 590),E P oW 899 (r 598),E P oY 911 (r 606),E P oZ 921 (r 614),E P o4 931 (r 622),E P o5 938 (r 629),E P o6 946 (r 636),E P o7 958 (r 643),E P o8 966 (r 650),E P o9 973 (r 657),E P bj 977 (r 658)]⟩ 36),⟨[]⟩⟩,T0,fl N0 [(I 234 0),(I 4 0),(r 429),(I 247 0),(I 4 0),(r 436),(I 255 0),(I 4 0),(r 443),(I 259 0),(I 4 0),(r 450),(I 263 0),(I 4 0),(r 457),(I 296 0),(I 4 0),(r 464),(I 300 0),(I 4 0),(r 472),(I 304 0),(I 4 0),(r 480),(I 308 0),(I 4 0),(r 488),(I 312 0),(I 4 0),(r 496),(I 315 0),(I 4 0),(r 504),(I 318 0),(I 4 0),(r 511),(I 322 0),(I 4 0),(r 518),(I 325 0),(I 4 0),(r 525),(I 329 0),(I 4 0),(r 532),(I 333 0),(I 4 0),(r 539),(I 337 0),(I 4 0),(r 546),(I 341 0),(I 4 0),(r 553),(I 344 0),(I 4 0),(r 560),(I 347 0),(I 4 0),(r 567),(I 350 0),(I 4 0),(r 574),(I 354 0),(I 4 0),(r 581),(I 358 0),(I 4 0),(r 589),(I 375 0),(I 4 0),(r 597),(I 378 0),(I 4 0),(r 605),(I 392 0),(I 4 0),(r 613),(I 399 0),(I 4 0),(r 621),(I 402 0),(I 4 0),(r 628),(I 406 0),(I 4 0),(r 635),(I 413 0),(I 4 0),(r 642),(I 432 0),(I 4 0),(r 649),(I 435 0),(I 4 0),(r 656)],T7 696 231 419 181 gT,T8 421 418 324 ax,dW 708 ag4 ag5,T0,T1,sH 713 ν ag6 Su,T0,T2 18 1 bC Sw,T3 710 234 3 0 3 424 716 bC Sw,se 18 1 423 324 bC Sw ax,T0,T1,sH 722 ν AB Su,T0,T2 18 2 Sx Sy,T3 719 247 2 0 3 431 725 Sx Sy,T4 18 2 324 436 Sx Sy ax,T0,T1,T5 731 ν,T0,T2 18 3 yk Sz,T3 728 255 1 0 3 438 732 yk Sz,T4 18 3 324 443 yk Sz ax,T0,T1,T5 738 ν,T0,T2 18 4 SA SD,T3 735 259 1 0 3 445 739 SA SD,T4 18 4 324 450 SA SD ax,T0,T1,tp [(S ν 745),(S aa9 746),(S uB 747),(S Fq 748),(S ag7 749),(S Su 750),(S Fs 751),(S ag8 752),(S ag9 753)],T0,T2 18 5 yl SE,T3 742 263 2 0 3 452 754 yl SE,T4 18 5 324 457 yl SE ax,T0,T1,T5 760 ν,T0,T2 18 6 lK SG,T3 757 295 1 0 3 459 761 lK SG,T4 18 6 324 464 lK SG ax,eI 465 764 lK,T0,T1,T5 768 ν,T0,T2 18 7 ym SH,T3 765 299 1 0 3 467 769 ym SH,T4 18 7 324 472 ym SH ax,eI 473 772 ym,T0,T1,T5 776 ν,T0,T2 18 8 yn SI,T3 773 303 1 0 3 475 777 yn SI,T4 18 8 324 480 yn SI ax,eI 481 780 yn,T0,T1,T5 784 ν,T0,T2 18 9 yo SJ,T3 781 307 1 0 3 483 785 yo SJ,T4 18 9 324 488 yo SJ ax,eI 489 788 yo,T0,T1,T5 792 ν,T0,T2 18 10 yp SK,T3 789 311 1 0 3 491 793 yp SK,T4 18 10 324 496 yp SK ax,eI 497 796 yp,T0,T1,T5 800 ν,T0,T2 18 11 oG SM,T3 797 315 1 0 3 499 801 oG SM,T4 18 11 324 504 oG SM ax,T0,T1,T5 807 ν,T0,T2 18 12 oH SN,T3 804 318 1 0 3 506 808 oH SN,T4 18 12 324 511 oH SN ax,T0,T1,dW 814 ν aW,T0,T2 18 13 oJ SP,T3 811 322 1 0 7 513 816 oJ SP,T4 18 13 324 518 oJ SP ax,T0,T1,T5 822 ν,T0,T2 18 14 oK SQ,T3 819 325 1 0 3 520 823 oK SQ,T4 18 14 324 525 oK SQ ax,T0,T1,T5 829 ν,T0,T2 18 15 oL SR,T3 826 329 1 0 3 527 830 oL SR,T4 18 15 324 532 oL SR ax,T0,T1,T5 836 ν,T0,T2 18 16 oM SU,T3 833 333 1 0 3 534 837 oM SU,T4 18 16 324 539 oM SU ax,T0,T1,T5 843 ν,T0,T2 18 17 oN SV,T3 840 337 1 0 3 541 844 oN SV,T4 18 17 324 546 oN SV ax,T0,T1,T5 850 ν,T0,T2 18 18 oO SX,T3 847 341 1 0 3 548 851 oO SX,T4 18 18 324 553 oO SX ax,T0,T1,T5 857 ν,T0,T2 18 19 oP SY,T3 854 344 1 0 3 555 858 oP SY,T4 18 19 324 560 oP SY ax,T0,T1,T5 864 ν,T0,T2 18 20 oQ S2,T3 861 347 1 0 3 562 865 oQ S2,T4 18 20 324 567 oQ S2 ax,T0,T1,T5 871 ν,T0,T2 18 21 oR S3,T3 868 350 1 0 3 569 872 oR S3,T4 18 21 324 574 oR S3 ax,T0,T1,T5 878 ν,T0,T2 18 22 oU S4,T3 875 354 1 0 3 576 879 oU S4,T4 18 22 324 581 oU S4 ax,T51 0 882,T0,T1,sH 886 ν Se aba,T0,T2 18 23 oV S5,T3 883 358 3 3 3 584 889 oV S5,se 18 23 583 324 oV S5 ax,ZR,T0,T1,dW 895 ν Se,T0,T2 18 24 oW S6,T3 892 375 2 2 3 592 897 oW S6,se 18 24 591 324 oW S6 ax,Y8 901,T0,T1,sI 905 ν uC uB Fq,T0,T2 18 25 oY S7,T3 902 378 2 2 3 600 909 oY S7,se 18 25 599 324 oY S7 ax,Y8 913,T0,T1,dW 917 ν uC,T0,T2 18 26 oZ S8,T3 914 392 2 2 3 608 919 oZ S8,se 18 26 607 324 oZ S8 ax,Y8 923,T0,T1,dW 927 ν aha,T0,T2 18 27 o4 S9,T3 924 399 2 2 3 616 929 o4 S9,se 18 27 615 324 o4 S9 ax,T0,T1,T5 935 ν,T0,T2 18 28 o5 S_,T3 932 402 1 0 3 623 936 o5 S_,T4 18 28 324 628 o5 S_ ax,T0,T1,dW 942 ν abc,T0,T2 18 29 o6 Ta,T3 939 406 1 0 3 630 944 o6 Ta,T4 18 29 324 635 o6 Ta ax,T0,T1,T52 950 ν AB Au ahb uB ahc,T0,T2 18 30 o7 Tc,T3 947 413 2 2 3 637 956 o7 Tc,T4 18 30 324 642 o7 Tc ax,T0,T1,dW 962 ν abe,T0,T2 18 31 o8 Te,T3 959 432 2 2 3 644 964 o8 Te,T4 18 31 324 649 o8 Te ax,T0,T1,T5 970 ν,T0,T2 18 32 o9 Tf,T3 967 435 1 0 3 651 971 o9 Tf,T4 18 32 324 656 o9 Tf ax,sH 974 abf ahd abg,⟨(ty bQ),none,(.dict ⟨[E P bw 701 (S Fp 706),E P bB 705 (I 231 704),E P bC 718 (r 430),E P abh 727 (r 437),E P abi 734 (r 444),E P abj 741 (r 451),E P abk 756 (r 458),E P lK 764 (r 466),E P ym 772 (r 474),E P yn 780 (r 482),E P yo 788 (r 490),E P yp 796 (r 498),E P oG 803 (r 505),E P oH 810 (r 512),E P oJ 818 (r 519),E P oK 825 (r 526),E P oL 832 (r 533),E P oM 839 (r 540),E P oN 846 (r 547),E P oO 853 (r 554),E P oP 860 (r 561),E P oQ 867 (r 568),E P oR 874 (r 575),E P oU 881 (r 582),E P oV 891 (r 590),E P oW 899 (r 598),E P oY 911 (r 606),E P oZ 921 (r 614),E P o4 931 (r 622),E P o5 938 (r 629),E P o6 946 (r 636),E P o7 958 (r 643),E P o8 966 (r 650),E P o9 973 (r 657),E P bj 977 (r 658),E P s2 978 N0]⟩ 2),⟨[]⟩⟩,T67 183 659 416 694 gT,de 660,dg 660]
noncomputable def L4(P:Params):List Obj:=om [aby P,FA P,iW P,c3 P,c4 P]
def Cv:Obj:=⟨(ty fQ),none,(.cls (cl cR [(ty Ad)] [(r 109),(ty Ad),(ty Ie),(ty eH)] 108 cR true [] [(r 806)] false none false)),⟨[(some (r 100)),none,(some (S cR 304)),(some (S cR 312)),(some (bi yh)),(some bt)]⟩⟩
def abz:Obj:=T3 1093 472 1 0 3 721 1097 aS Tj
def abA:Obj:=T4 20 6 981 726 aS Tj cZ
def abB(P:Params):Obj:=⟨(ty bQ),none,(.dict ⟨[E P bw 990 (S cZ 981),E P bB 994 (I 438 993),E P yq 1016 (r 678),E P yr 1040 (r 688),E P pa 1050 (r 696),E P c_ 1060 (r 703),E P eF 1070 (r 710),E P lL 1092 (r 719),E P aS 1099 (r 727),E P pb 1107 (r 734),E P AC 1115 (r 741),E P bj 1116 (r 742),E P As 1118 (r 745),E P yj 1120 (r 746),E P s2 1121 N0,E P abm 1122 N0]⟩ 5),⟨[]⟩⟩
def abC(P:Params):Obj:=T60 P 1132 981 482 1143 762 1150 777 1166 784 1174 791 1175 2 cZ gV iT lM pc pd bj
def abD(P:Params):Obj:=ZQ P 1188 1179 500 1193 804 o_
noncomputable def abE(P:Params):List Obj:=up (aby P) [(3,⟨(ty bQ),none,(.dict ⟨[E P s0 165 (S o_ 1179),E P s2 166 N0,E P s3 167 N0,E P s4 168 (bi fZ),E P s5 169 N0,E P fH 170 (r 6),E P f6 171 (r 4),E P f7 173 (S dE 172),E P f8 174 N0,E P eA 193 (r 21),E P d0 201 (r 26),E P d5 207 (r 31),E P dP 253 (r 63),E P gS 254 (r 63),E P eR 294 (r 88),E P eC 301 (r 99),E P cR 323 (r 109),E P eD 333 (r 119),E P eE 341 (r 126),E P dQ 363 (r 136),E P cW 395 (r 156),E P eS 413 (r 171),E P eU 431 (r 183),E P f9 693 (r 413),E P gT 980 (r 660),E P dS 1124 (r 744),E P gU 1178 (r 794),E P dT 1196 (r 806)]⟩ 28),⟨[]⟩⟩),(12,fl N0 [(I 1 0),(I 0 0),(r 20),(I 5 0),(I 0 0),(r 25),(I 8 0),(I 0 0),(r 30),(I 12 0),(I 0 0),(r 37),(I 24 0),(I 0 0),(r 73),(I 29 0),(I 0 0),(r 98),(I 32 0),(I 0 0),(r 105),(I 35 0),(I 0 0),(r 118),(I 40 0),(I 0 0),(r 125),(I 47 0),(I 0 0),(r 132),(I 49 0),(I 0 0),(r 145),(I 56 0),(I 0 0),(r 167),(I 58 0),(I 0 0),(r 179),(I 60 0),(I 0 0),(r 191),(I 231 0),(I 0 0),(r 421),(I 438 0),(I 0 0),(r 668),(I 482 0),(I 0 0),(r 754),(I 500 0),(I 0 0),(r 802)])]
noncomputable def jC(P:Params):List Obj:=up (FA P) [(94,Cv)]
noncomputable def c5(P:Params):List Obj:=[T0,T9,⟨(ty bQ),none,(.dict ⟨[E P bw 990 (S cZ 981),E P dR 992 (S dS 991),E P bB 994 (I 438 993),E P yq 1016 (r 678),E P yr 1040 (r 688),E P pa 1050 (r 696),E P c_ 1060 (r 703),E P eF 1070 (r 710),E P lL 1092 (r 719),E P aS 1099 (r 727),E P pb 1107 (r 734),E P AC 1115 (r 741),E P bj 1116 (r 742)]⟩ 13),⟨[]⟩⟩,T0,fl N0 [(I 441 0),(I 4 0),(r 675),(I 445 0),(I 4 0),(r 685),(I 452 0),(I 4 0),(r 695),(I 455 0),(I 4 0),(r 702),(I 460 0),(I 4 0),(r 709),(I 469 0),(I 4 0),(r 716),(I 472 0),(I 4 0),(r 726),(I 475 0),(I 4 0),(r 733),(I 480 0),(I 4 0),(r 740)],T7 985 438 666 181 dS,T8 668 665 981 cZ,T0,T1,sI 998 Aw yt aW kb,T0,T2 20 0 yq Ft,T3 995 440 2 0 15 670 1002 yq Ft,T46 20 0 981 675 yq Ft cZ,ZO P 1005 981 679 cZ yq Ft,ZP 676 ZN,Y6,T0,T1,T52 1020 Aw AB aW kb yt abl,T0,T2 20 1 yr Fu,T3 1017 444 2 0 15 680 1026 yr Fu,T46 20 1 981 685 yr Fu cZ,ZO P 1029 981 689 cZ yr Fu,ZP 686 ZN,Y6,T0,T1,sI 1044 ν yt aW kb,T0,T2 20 2 pa Tg,T3 1041 452 2 0 15 690 1048 pa Tg,T4 20 2 981 695 pa Tg cZ,T0,T1,sI 1054 ν aW kb yt,T0,T2 20 3 c_ Th,T3 1051 455 1 0 15 697 1058 c_ Th,T4 20 3 981 702 c_ Th cZ,T0,T1,sI 1064 ν aW kb abl,T0,T2 20 4 eF Ti,T3 1061 460 1 0 15 704 1068 eF Ti,T4 20 4 981 709 eF Ti cZ,T0,T1,sI 1074 Aw AB aW kb,T0,T2 20 5 lL Fv,T3 1071 468 2 0 15 711 1078 lL Fv,T46 20 5 981 716 lL Fv cZ,ZO P 1081 981 720 cZ lL Fv,ZP 717 ZN,Y6,T0,T1,T5 1096 ν,T0,T2 20 6 aS Tj,abz,abA,T0,T1,dW 1103 ν sq,T0,T2 20 7 pb Tl,T3 1100 475 2 0 3 728 1105 pb Tl,T4 20 7 981 733 pb Tl cZ,T0,T1,dW 1111 ν sq,T0,T2 20 8 AC Tn,T3 1108 480 2 0 3 735 1113 AC Tn,T4 20 8 981 740 AC Tn cZ,T0,abB P,⟨(ty fQ),none,(.cls (cl dS [(ty eH)] [(r 744),(ty eH)] 743 dS true [] [(r 794)] false none false)),⟨[none,none,(some (S dS 983)),(some (S dS 991)),(some (bi dO)),(some bt)]⟩⟩,T43 1117 744,Y7 1119 744,de 744,dg 744,T6 744,T9,⟨(ty bQ),none,(.dict ⟨[E P bw 1132 (S cZ 981),E P dR 1134 (S gU 1133),E P bB 1136 (I 482 1135),E P gV 1143 (r 762),E P iT 1150 (r 769),E P lM 1158 (r 777),E P pc 1166 (r 784),E P pd 1174 (r 791),E P bj 1175 (r 792)]⟩ 9),⟨[]⟩⟩,T0,ZT 484 761 768 491 775 494 783 497 790,T7 1127 482 752 181 gU,T8 754 751 981 cZ,T0,T1,T5 1140 ν,T0,T2 21 0 gV To,T3 1137 484 1 0 3 756 1141 gV To,T4 21 0 981 761 gV To cZ,T0,T1,T5 1147 ν,T0,T2 21 1 iT Tp,T3 1144 487 1 0 3 763 1148 iT Tp,T4 21 1 981 768 iT Tp cZ,T0,T1,T5 1154 ν,T0,T2 21 2 lM Tq,T3 1151 490 1 0 3 770 1155 lM Tq,T4 21 2 981 775 lM Tq cZ,eI 776 1158 lM,T0,T1,dW 1162 ν sq,T0,T2 21 3 pc Ts,T3 1159 494 2 0 3 778 1164 pc Ts,T4 21 3 981 783 pc Ts cZ,T0,T1,dW 1170 ν sq,T0,T2 21 4 pd Tt,T3 1167 497 2 0 3 785 1172 pd Tt,T4 21 4 981 790 pd Tt cZ,T0,abC P,T68 793 749 1125 gU,de 794,dg 794,T6 109,T9,Ro P 1188 1179 500 1193 804 o_ dT,T0,T1,T7 1183 500 800 181 dT,T8 802 799 1179 o_,T0,abD P,⟨(ty fQ),none,(.cls (cl dT [(r 109)] [(r 806),(r 109),(ty Ad),(ty Ie),(ty eH)] 805 dT true [] [] false none false)),⟨[(some (r 797)),none,(some (S dT 1181)),(some (S dT 1189)),(some (bi yh)),(some bt)]⟩⟩,de 806,dg 806]
noncomputable def L5(P:Params):List Obj:=om [abE P,jC P,iW P,c3 P,c4 P,c5 P]
def Cw:Obj:=⟨(ty fQ),none,(.cls (cl dS [(ty eH)] [(r 744),(ty eH)] 743 dS true [] [(r 794),(r 866)] false none false)),⟨[none,none,(some (S dS 983)),(some (S dS 991)),(some (bi dO)),(some bt)]⟩⟩
def Cy:Obj:=⟨(ty fQ),none,(.cls (cl dT [(r 109)] [(r 806),(r 109),(ty Ad),(ty Ie),(ty eH)] 805 dT true [] [(r 818)] false none false)),⟨[(some (r 797)),none,(some (S dT 1181)),(some (S dT 1189)),(some (bi yh)),(some bt)]⟩⟩
def abG(P:Params):Obj:=ZQ P 1204 1179 502 1209 816 o_
def abH:Obj:=⟨(ty fQ),none,(.cls (cl fI [(r 806)] [(r 818),(r 806),(r 109),(ty Ad),(ty Ie),(ty eH)] 817 fI true [] [(r 830)] false none false)),⟨[(some (r 809)),none,(some (S fI 1197)),(some (S fI 1205)),(some (bi yh)),(some bt)]⟩⟩
def abI(P:Params):Obj:=T45 P 1238 1229 507 1264 848 1274 856 1283 863 1284 2 uD lL c_ eF bj
def abJ:Obj:=T51 258 1290
def abK:Obj:=T3 1294 523 2 0 3 870 1299 f' f'
def abL:Obj:=⟨(ty uA),none,(.func (fu (fa 31) f' f' 3 [] (r 869) N0 N0 (S ahe 1288) none (r 875) N0 0)),⟨[]⟩⟩
noncomputable def abM(P:Params):List Obj:=up (abE P) [(3,⟨(ty bQ),none,(.dict ⟨[E P s0 165 (S jv 1302),E P s2 166 N0,E P s3 167 N0,E P s4 168 (bi fZ),E P s5 169 N0,E P fH 170 (r 6),E P f6 171 (r 4),E P f7 173 (S dE 172),E P f8 174 N0,E P eA 193 (r 21),E P d0 201 (r 26),E P d5 207 (r 31),E P dP 253 (r 63),E P gS 254 (r 63),E P eR 294 (r 88),E P eC 301 (r 99),E P cR 323 (r 109),E P eD 333 (r 119),E P eE 341 (r 126),E P dQ 363 (r 136),E P cW 395 (r 156),E P eS 413 (r 171),E P eU 431 (r 183),E P f9 693 (r 413),E P gT 980 (r 660),E P dS 1124 (r 744),E P gU 1178 (r 794),E P dT 1196 (r 806),E P fI 1212 (r 818),E P f_ 1228 (r 830),E P eV 1287 (r 866),E P jw 1291 (I 258 1290),E P jx 1293 (I 2 1292),E P f' 1301 (r 876)]⟩ 34),⟨[]⟩⟩),(12,fl N0 [(I 1 0),(I 0 0),(r 20),(I 5 0),(I 0 0),(r 25),(I 8 0),(I 0 0),(r 30),(I 12 0),(I 0 0),(r 37),(I 24 0),(I 0 0),(r 73),(I 29 0),(I 0 0),(r 98),(I 32 0),(I 0 0),(r 105),(I 35 0),(I 0 0),(r 118),(I 40 0),(I 0 0),(r 125),(I 47 0),(I 0 0),(r 132),(I 49 0),(I 0 0),(r 145),(I 56 0),(I 0 0),(r 167),(I 58 0),(I 0 0),(r 179),(I 60 0),(I 0 0),(r 191),(I 231 0),(I 0 0),(r 421),(I 438 0),(I 0 0),(r 668),(I 482 0),(I 0 0),(r 754),(I 500 0),(I 0 0),(r 802),(I 502 0),(I 0 0),(r 814),(I 504 0),(I 0 0),(r 826),(I 507 0),(I 0 0),(r 838),(I 523 0),(I 0 0),(r 875)])]
noncomputable def abN(P:Params):List Obj:=up (c5 P) [(81,Cw),(143,Cy)]
noncomputable def c6(P:Params):List Obj:=[T6 806,T9,Ro P 1204 1179 502 1209 816 o_ fI,T0,T1,T7 1199 502 812 181 fI,T8 814 811 1179 o_,T0,abG P,abH,de 818,dg 818,T6 818,T9,Ro P 1220 1179 504 1225 828 o_ f_,T0,T1,T7 1215 504 824 181 f_,T8 826 823 1179 o_,T0,ZQ P 1220 1179 504 1225 828 o_,⟨(ty fQ),none,(.cls (cl f_ [(r 818)] [(r 830),(r 818),(r 806),(r 109),(ty Ad),(ty Ie),(ty eH)] 829 f_ true [] [] false none false)),⟨[(some (r 821)),none,(some (S f_ 1213)),(some (S f_ 1221)),(some (bi yh)),(some bt)]⟩⟩,de 830,dg 830,T6 744,T9,T49 P 1238 1229 507 1264 848 1274 856 1283 1284 uD eV lL c_ eF,T0,Rn 510 845 513 855 518,T7 1233 507 836 181 eV,T8 838 835 1229 uD,T0,T1,sI 1246 Aw AB aW kb,T0,T2 27 0 lL Fw,T3 1243 509 2 0 15 840 1250 lL Fw,T46 27 0 1229 845 lL Fw uD,ZO P 1253 1229 849 uD lL Fw,ZP 846 ZN,Y6,T0,T1,sI 1268 ν aW kb yt,T0,T2 27 1 c_ Tu,T3 1265 513 1 0 15 850 1272 c_ Tu,T4 27 1 1229 855 c_ Tu uD,T0,T1,sH 1278 ν aW kb,T0,T2 27 2 eF Tv,T3 1275 518 1 0 15 857 1281 eF Tv,T4 27 2 1229 862 eF Tv uD,T0,abI P,T68 865 833 1231 eV,de 866,dg 866,abJ,T0,T1,dW 1297 abn abo,T0,pC 31 f',abK,abL]
noncomputable def L6(P:Params):List Obj:=om [abM P,jC P,iW P,c3 P,c4 P,abN P,c6 P]
def Cz:Obj:=T69 793 958 749 1125 gU
def abO:Obj:=tp [bt]
def abP:Obj:=T3 1316 528 3 0 3 885 1322 bC Tw
def abQ:Obj:=se 33 0 884 1302 bC Tw jv
def abR:Obj:=T3 1325 532 1 0 3 892 1330 gV Tz
def abS:Obj:=T4 33 1 1302 897 gV Tz jv
def abT(P:Params):Obj:=⟨(ty bQ),none,(.dict ⟨[E P bw 1311 (S jv 1302),E P bB 1315 (I 526 1314),E P bC 1324 (r 891),E P gV 1332 (r 898),E P iT 1339 (r 905),E P pa 1347 (r 912),E P c_ 1354 (r 919),E P lM 1362 (r 927),E P eF 1369 (r 934),E P pc 1377 (r 941),E P pd 1385 (r 948),E P pb 1393 (r 955),E P bj 1396 (r 956),E P s2 1397 N0,E P abm 1398 N0]⟩ 3),⟨[]⟩⟩
def abU:Obj:=T53 794 957 877 1304 iv
def abV:Obj:=T3 1403 561 1 0 3 961 1408 gY gY
def abW:Obj:=qR 35 1401 966 gY ahg
noncomputable def abX(P:Params):List Obj:=up (abM P) [(3,⟨(ty bQ),none,(.dict ⟨[E P s0 165 (S bE 1420),E P s2 166 N0,E P s3 167 N0,E P s4 168 (bi fZ),E P s5 169 N0,E P fH 170 (r 6),E P f6 171 (r 4),E P f7 173 (S dE 172),E P f8 174 N0,E P eA 193 (r 21),E P d0 201 (r 26),E P d5 207 (r 31),E P dP 253 (r 63),E P gS 254 (r 63),E P eR 294 (r 88),E P eC 301 (r 99),E P cR 323 (r 109),E P eD 333 (r 119),E P eE 341 (r 126),E P dQ 363 (r 136),E P cW 395 (r 156),E P eS 413 (r 171),E P eU 431 (r 183),E P f9 693 (r 413),E P gT 980 (r 660),E P dS 1124 (r 744),E P gU 1178 (r 794),E P dT 1196 (r 806),E P fI 1212 (r 818),E P f_ 1228 (r 830),E P eV 1287 (r 866),E P jw 1291 (I 258 1290),E P jx 1293 (I 2 1292),E P f' 1301 (r 876),E P iv 1400 (r 958),E P gY 1410 (r 967),E P iw 1419 (r 974)]⟩ 37),⟨[]⟩⟩),(12,fl N0 [(I 1 0),(I 0 0),(r 20),(I 5 0),(I 0 0),(r 25),(I 8 0),(I 0 0),(r 30),(I 12 0),(I 0 0),(r 37),(I 24 0),(I 0 0),(r 73),(I 29 0),(I 0 0),(r 98),(I 32 0),(I 0 0),(r 105),(I 35 0),(I 0 0),(r 118),(I 40 0),(I 0 0),(r 125),(I 47 0),(I 0 0),(r 132),(I 49 0),(I 0 0),(r 145),(I 56 0),(I 0 0),(r 167),(I 58 0),(I 0 0),(r 179),(I 60 0),(I 0 0),(r 191),(I 231 0),(I 0 0),(r 421),(I 438 0),(I 0 0),(r 668),(I 482 0),(I 0 0),(r 754),(I 500 0),(I 0 0),(r 802),(I 502 0),(I 0 0),(r 814),(I 504 0),(I 0 0),(r 826),(I 507 0),(I 0 0),(r 838),(I 523 0),(I 0 0),(r 875),(I 526 0),(I 0 0),(r 882),(I 561 0),(I 0 0),(r 966),(I 575 0),(I 0 0),(r 973)])]
noncomputable def lR(P:Params):List Obj:=up (abN P) [(131,Cz)]
noncomputable def c7(P:Params):List Obj:=[T6 794,T9,⟨(ty bQ),none,(.dict ⟨[E P bw 1311 (S jv 1302),E P dR 1313 (S iv 1312),E P bB 1315 (I 526 1314),E P bC 1324 (r 891),E P gV 1332 (r 898),E P iT 1339 (r 905),E P pa 1347 (r 912),E P c_ 1354 (r 919),E P lM 1362 (r 927),E P eF 1369 (r 934),E P pc 1377 (r 941),E P pd 1385 (r 948),E P pb 1393 (r 955),E P bj 1396 (r 956)]⟩ 14),⟨[]⟩⟩,T0,fl N0 [(I 528 0),(I 4 0),(r 890),(I 532 0),(I 4 0),(r 897),(I 536 0),(I 4 0),(r 904),(I 539 0),(I 4 0),(r 911),(I 542 0),(I 4 0),(r 918),(I 546 0),(I 4 0),(r 925),(I 549 0),(I 4 0),(r 933),(I 552 0),(I 4 0),(r 940),(I 555 0),(I 4 0),(r 947),(I 558 0),(I 4 0),(r 954)],T7 1306 526 880 181 iv,T8 882 879 1302 jv,abO,T0,T1,sH 1319 ν abn lN,T0,T2 33 0 bC Tw,abP,abQ,T0,T1,dW 1328 ν abo,T0,T2 33 1 gV Tz,abR,abS,T0,T1,T5 1336 ν,T0,T2 33 2 iT TA,T3 1333 536 1 0 3 899 1337 iT TA,T4 33 2 1302 904 iT TA jv,T0,T1,dW 1343 ν yt,T0,T2 33 3 pa TC,T3 1340 539 2 0 3 906 1345 pa TC,T4 33 3 1302 911 pa TC jv,T0,T1,T5 1351 ν,T0,T2 33 4 c_ TF,T3 1348 542 1 0 3 913 1352 c_ TF,T4 33 4 1302 918 c_ TF jv,T0,T1,T5 1358 ν,T0,T2 33 5 lM TG,T3 1355 545 1 0 3 920 1359 lM TG,T4 33 5 1302 925 lM TG jv,eI 926 1362 lM,T0,T1,T5 1366 ν,T0,T2 33 6 eF TH,T3 1363 549 1 0 3 928 1367 eF TH,T4 33 6 1302 933 eF TH jv,T0,T1,dW 1373 ν sq,T0,T2 33 7 pc TJ,T3 1370 552 2 0 3 935 1375 pc TJ,T4 33 7 1302 940 pc TJ jv,T0,T1,dW 1381 ν sq,T0,T2 33 8 pd TL,T3 1378 555 2 0 3 942 1383 pd TL,T4 33 8 1302 947 pd TL jv,T0,T1,dW 1389 ν sq,T0,T2 33 9 pb TM,T3 1386 558 2 0 3 949 1391 pb TM,T4 33 9 1302 954 pb TM jv,dW 1394 mL lN,abT P,abU,de 958,dg 958,T0,T1,dW 1406 Fs ahf,T0,pC 35 gY,abV,abW,T0,T1,T5 1416 aa5,T0,pC 37 iw,T3 1413 575 1 0 3 968 1417 iw iw,qR 37 1411 973 iw ahh]
noncomputable def L7(P:Params):List Obj:=om [abX P,jC P,iW P,c3 P,c4 P,lR P,c6 P,c7 P]
def abY:Obj:=tp [N0,N0,bf,bf]
def abZ:Obj:=T3 1434 580 6 0 3 983 1443 bC TN
def ab0:Obj:=se 39 0 982 1420 bC TN bE
def ab1:Obj:=T3 1446 589 1 0 3 990 1450 σ TQ
def ab2:Obj:=T4 39 1 1420 995 σ TQ bE
def Jk:Obj:=T3 1461 596 1 0 3 1005 1465 gV TS
def Jl:Obj:=T4 39 3 1420 1010 gV TS bE
def Jn:Obj:=T3 1475 602 1 0 3 1019 1479 c_ TV
def Jo:Obj:=T4 39 5 1420 1024 c_ TV bE
def Jp:Obj:=T3 1482 607 1 0 3 1026 1487 cB TX
def Jq:Obj:=T4 39 6 1420 1031 cB TX bE
def Jr:Obj:=T3 1490 611 1 0 3 1033 1494 sr TY
def Js:Obj:=T4 39 7 1420 1038 sr TY bE
def Jt:Obj:=eI 1039 1497 sr
def Ju:Obj:=ZR
def Jv:Obj:=T3 1538 637 2 0 3 1082 1544 eF Uc
def Jw:Obj:=se 39 13 1081 1420 eF Uc bE
def Jx(P:Params):Obj:=⟨(ty bQ),none,(.dict ⟨[E P bw 1429 (S bE 1420),E P bB 1433 (I 578 1432),E P bC 1445 (r 989),E P σ 1452 (r 996),E P uE 1460 (r 1004),E P gV 1467 (r 1011),E P iT 1474 (r 1018),E P c_ 1481 (r 1025),E P cB 1489 (r 1032),E P sr 1497 (r 1040),E P yu 1505 (r 1048),E P yv 1513 (r 1056),E P yw 1521 (r 1064),E P yx 1529 (r 1072),E P yy 1537 (r 1080),E P eF 1546 (r 1088),E P bj 1552 (r 1089),E P s2 1553 N0]⟩ 2),⟨[]⟩⟩
def Jy:Obj:=T54 1090 1124 975 1422 iU
def Jz:Obj:=T3 1568 644 1 0 15 1101 1574 c_ Ud
def JA:Obj:=T4 40 0 1420 1106 c_ Ud bE
def JB:Obj:=T3 1577 651 1 0 3 1108 1581 σ Ue
def JC:Obj:=T4 40 1 1420 1113 σ Ue bE
def JD:Obj:=T3 1584 654 1 0 3 1115 1589 cB Uf
def JE:Obj:=T4 40 2 1420 1120 cB Uf bE
def JF(P:Params):Obj:=T45 P 1563 1420 642 1576 1107 1583 1114 1591 1121 1592 2 bE c_ σ cB bj
def JG:Obj:=yV 1091 1123 1094 1556 iV
noncomputable def ab3(P:Params):List Obj:=up (abX P) [(3,⟨(ty bQ),none,(.dict ⟨[E P s0 165 (S bE 1420),E P s2 166 N0,E P s3 167 N0,E P s4 168 (bi fZ),E P s5 169 N0,E P fH 170 (r 6),E P f6 171 (r 4),E P f7 173 (S dE 172),E P f8 174 N0,E P eA 193 (r 21),E P d0 201 (r 26),E P d5 207 (r 31),E P dP 253 (r 63),E P gS 254 (r 63),E P eR 294 (r 88),E P eC 301 (r 99),E P cR 323 (r 109),E P eD 333 (r 119),E P eE 341 (r 126),E P dQ 363 (r 136),E P cW 395 (r 156),E P eS 413 (r 171),E P eU 431 (r 183),E P f9 693 (r 413),E P gT 980 (r 660),E P dS 1124 (r 744),E P gU 1178 (r 794),E P dT 1196 (r 806),E P fI 1212 (r 818),E P f_ 1228 (r 830),E P eV 1287 (r 866),E P jw 1291 (I 258 1290),E P jx 1293 (I 2 1292),E P f' 1301 (r 876),E P iv 1400 (r 958),E P gY 1410 (r 967),E P iw 1419 (r 974),E P iU 1555 (r 1091),E P iV 1595 (r 1124)]⟩ 39),⟨[]⟩⟩),(12,fl N0 [(I 1 0),(I 0 0),(r 20),(I 5 0),(I 0 0),(r 25),(I 8 0),(I 0 0),(r 30),(I 12 0),(I 0 0),(r 37),(I 24 0),(I 0 0),(r 73),(I 29 0),(I 0 0),(r 98),(I 32 0),(I 0 0),(r 105),(I 35 0),(I 0 0),(r 118),(I 40 0),(I 0 0),(r 125),(I 47 0),(I 0 0),(r 132),(I 49 0),(I 0 0),(r 145),(I 56 0),(I 0 0),(r 167),(I 58 0),(I 0 0),(r 179),(I 60 0),(I 0 0),(r 191),(I 231 0),(I 0 0),(r 421),(I 438 0),(I 0 0),(r 668),(I 482 0),(I 0 0),(r 754),(I 500 0),(I 0 0),(r 802),(I 502 0),(I 0 0),(r 814),(I 504 0),(I 0 0),(r 826),(I 507 0),(I 0 0),(r 838),(I 523 0),(I 0 0),(r 875),(I 526 0),(I 0 0),(r 882),(I 561 0),(I 0 0),(r 966),(I 575 0),(I 0 0),(r 973),(I 578 0),(I 0 0),(r 980),(I 642 0),(I 0 0),(r 1099)])]
noncomputable def ab4(P:Params):List Obj:=up (c6 P) [(57,T69 865 1091 833 1231 eV)]
noncomputable def c8(P:Params):List Obj:=[T6 866,T9,⟨(ty bQ),none,(.dict ⟨[E P bw 1429 (S bE 1420),E P dR 1431 (S iU 1430),E P bB 1433 (I 578 1432),E P bC 1445 (r 989),E P σ 1452 (r 996),E P uE 1460 (r 1004),E P gV 1467 (r 1011),E P iT 1474 (r 1018),E P c_ 1481 (r 1025),E P cB 1489 (r 1032),E P sr 1497 (r 1040),E P yu 1505 (r 1048),E P yv 1513 (r 1056),E P yw 1521 (r 1064),E P yx 1529 (r 1072),E P yy 1537 (r 1080),E P eF 1546 (r 1088),E P bj 1552 (r 1089)]⟩ 18),⟨[]⟩⟩,T0,T65 580 4 988 589 995 593 1002 1010 599 1017 602 1024 612 1038 618 1046 1054 1062 630 1070 634 1078 1087,T7 1424 578 978 181 iU,T8 980 977 1420 bE,abY,T0,T1,T52 1437 ν su uF uE a_ uG,T0,T2 39 0 bC TN,abZ,ab0,T0,T1,T5 1449 ν,T0,T2 39 1 σ TQ,ab1,ab2,T0,T1,T5 1456 ν,T0,T2 39 2 uE TR,T3 1453 592 1 0 3 997 1457 uE TR,T4 39 2 1420 1002 uE TR bE,eI 1003 1460 uE,T0,T1,T5 1464 ν,T0,T2 39 3 gV TS,Jk,Jl,T0,T1,T5 1471 ν,T0,T2 39 4 iT TU,T3 1468 599 1 0 3 1012 1472 iT TU,T4 39 4 1420 1017 iT TU bE,T0,T1,T5 1478 ν,T0,T2 39 5 c_ TV,Jn,Jo,T0,T1,dW 1485 ν abp,T0,T2 39 6 cB TX,Jp,Jq,T0,T1,T5 1493 ν,T0,T2 39 7 sr TY,Jr,Js,Jt,T0,T1,T5 1501 ν,T0,T2 39 8 yu TZ,T3 1498 617 1 0 3 1041 1502 yu TZ,T4 39 8 1420 1046 yu TZ bE,eI 1047 1505 yu,T0,T1,T5 1509 ν,T0,T2 39 9 yv T_,T3 1506 621 1 0 3 1049 1510 yv T_,T4 39 9 1420 1054 yv T_ bE,eI 1055 1513 yv,T0,T1,T5 1517 ν,T0,T2 39 10 yw T',T3 1514 625 1 0 3 1057 1518 yw T',T4 39 10 1420 1062 yw T' bE,eI 1063 1521 yw,T0,T1,T5 1525 ν,T0,T2 39 11 yx Ua,T3 1522 629 1 0 3 1065 1526 yx Ua,T4 39 11 1420 1070 yx Ua bE,eI 1071 1529 yx,T0,T1,T5 1533 ν,T0,T2 39 12 yy Ub,T3 1530 633 1 0 3 1073 1534 yy Ub,T4 39 12 1420 1078 yy Ub bE,eI 1079 1537 yy,Ju,T0,T1,sH 1541 ν ahi aa3,T0,T2 39 13 eF Uc,Jv,Jw,T50 1547 yz su uF a_ uG,Jx P,Jy,de 1091,dg 1091,T6 1091,T9,T49 P 1563 1420 642 1576 1107 1583 1114 1591 1592 bE iV c_ σ cB,T0,Rn 644 1106 651 1113 654,T7 1558 642 1097 181 iV,T8 1099 1096 1420 bE,T0,T1,sH 1571 ν aW kb,T0,T2 40 0 c_ Ud,Jz,JA,T0,T1,T5 1580 ν,T0,T2 40 1 σ Ue,JB,JC,T0,T1,dW 1587 ν abp,T0,T2 40 2 cB Uf,JD,JE,T0,JF P,JG,de 1124,dg 1124]
noncomputable def L8(P:Params):List Obj:=om [ab3 P,jC P,iW P,c3 P,c4 P,lR P,ab4 P,c7 P,c8 P]
def CA:Obj:=⟨(ty fQ),none,(.cls (cl eV [(r 744)] [(r 866),(r 744),(ty eH)] 865 eV true [] [(r 1091),(r 1164),(r 1204),(r 1289)] false none false)),⟨[(some (r 833)),none,(some (S eV 1231)),(some (S eV 1239)),(some (bi dO)),(some bt)]⟩⟩
def JH:Obj:=T3 1608 659 2 0 3 1134 1613 bC Ug
def JI:Obj:=T4 41 0 1420 1139 bC Ug bE
def JJ:Obj:=T3 1616 662 1 0 3 1141 1621 cB Uh
def JK:Obj:=T4 41 1 1420 1146 cB Uh bE
def JL:Obj:=T3 1624 672 1 0 3 1148 1628 σ Ui
def JM:Obj:=T4 41 2 1420 1153 σ Ui bE
def JN:Obj:=T3 1631 675 1 0 3 1155 1635 aS Uj
def JO:Obj:=T4 41 3 1420 1160 aS Uj bE
def JP(P:Params):Obj:=⟨(ty bQ),none,(.dict ⟨[E P bw 1603 (S bE 1420),E P bB 1607 (I 657 1606),E P bC 1615 (r 1140),E P cB 1623 (r 1147),E P σ 1630 (r 1154),E P aS 1637 (r 1161),E P bj 1639 (r 1162),E P s2 1640 N0]⟩ 2),⟨[]⟩⟩
def JQ:Obj:=T53 866 1163 1127 1596 jy
def JR:Obj:=T3 1657 680 2 0 3 1174 1662 bC Uk
def JS:Obj:=T4 42 1 1420 1179 bC Uk bE
def JT:Obj:=T3 1665 685 1 0 3 1181 1669 aS Ul
def JU:Obj:=T4 42 2 1420 1186 aS Ul bE
def JV:Obj:=T3 1672 688 1 0 3 1188 1676 cB Um
def JW:Obj:=T4 42 3 1420 1193 cB Um bE
def JX(P:Params):Obj:=⟨(ty bQ),none,(.dict ⟨[E P bw 1650 (S bE 1420),E P bB 1654 (I 677 1653),E P AD 1656 (I 32 1655),E P bC 1664 (r 1180),E P aS 1671 (r 1187),E P cB 1678 (r 1194),E P σ 1685 (r 1201),E P bj 1687 (r 1202),E P s2 1688 N0]⟩ 2),⟨[]⟩⟩
def JY:Obj:=T54 1203 1223 1167 1643 kc
def JZ:Obj:=T3 1705 696 1 0 3 1214 1709 σ Uo
def J0:Obj:=T4 43 1 1420 1219 σ Uo bE
def J1(P:Params):Obj:=⟨(ty bQ),none,(.dict ⟨[E P bw 1698 (S bE 1420),E P bB 1702 (I 693 1701),E P AD 1704 (I 32 1703),E P σ 1711 (r 1220),E P bj 1712 (r 1221),E P s2 1713 N0]⟩ 2),⟨[]⟩⟩
def J2:Obj:=yV 1204 1222 1207 1691 jz
def J3:Obj:=T3 1730 701 1 0 15 1233 1736 bC Up
def J4:Obj:=T4 45 0 1716 1238 bC Up φ
def J5:Obj:=T3 1739 705 1 0 3 1240 1743 cB Uq
def J6:Obj:=T4 45 1 1716 1245 cB Uq φ
def J7:Obj:=T3 1746 708 1 0 3 1247 1751 ah Ur
def J8:Obj:=T4 45 2 1716 1252 ah Ur φ
def J9:Obj:=T3 1754 713 1 0 3 1254 1758 Ω Us
def J_:Obj:=T4 45 3 1716 1259 Ω Us φ
def J':Obj:=eI 1260 1761 Ω
def Ka:Obj:=T3 1762 717 1 0 3 1262 1766 ch Ut
def Kb:Obj:=T4 45 4 1716 1267 ch Ut φ
def Kc:Obj:=eI 1268 1769 ch
def Ke:Obj:=oq 1770 721 1 1270 aS Uu
def Kf:Obj:=T4 45 5 1716 1273 aS Uu φ
def Kg:Obj:=T3 1776 724 1 0 3 1275 1780 σ Uv
def Kh:Obj:=T4 45 6 1716 1280 σ Uv φ
def Ki:Obj:=oq 1783 727 1 1282 b_ Uw
def Kj:Obj:=T4 45 7 1716 1285 b_ Uw φ
def Kk(P:Params):Obj:=⟨(ty bQ),none,(.dict ⟨[E P bw 1725 (S φ 1716),E P bB 1729 (I 699 1728),E P bC 1738 (r 1239),E P cB 1745 (r 1246),E P ah 1753 (r 1253),E P Ω 1761 (r 1261),E P ch 1769 (r 1269),E P aS 1775 (r 1274),E P σ 1782 (r 1281),E P b_ 1788 (r 1286),E P bj 1791 (r 1287),E P s2 1792 N0]⟩ 2),⟨[]⟩⟩
noncomputable def ab5(P:Params):List Obj:=up (ab3 P) [(3,⟨(ty bQ),none,(.dict ⟨[E P s0 165 (S φ 1716),E P s2 166 N0,E P s3 167 N0,E P s4 168 (bi fZ),E P s5 169 N0,E P fH 170 (r 6),E P f6 171 (r 4),E P f7 173 (S dE 172),E P f8 174 N0,E P eA 193 (r 21),E P d0 201 (r 26),E P d5 207 (r 31),E P dP 253 (r 63),E P gS 254 (r 63),E P eR 294 (r 88),E P eC 301 (r 99),E P cR 323 (r 109),E P eD 333 (r 119),E P eE 341 (r 126),E P dQ 363 (r 136),E P cW 395 (r 156),E P eS 413 (r 171),E P eU 431 (r 183),E P f9 693 (r 413),E P gT 980 (r 660),E P dS 1124 (r 744),E P gU 1178 (r 794),E P dT 1196 (r 806),E P fI 1212 (r 818),E P f_ 1228 (r 830),E P eV 1287 (r 866),E P jw 1291 (I 258 1290),E P jx 1293 (I 2 1292),E P f' 1301 (r 876),E P iv 1400 (r 958),E P gY 1410 (r 967),E P iw 1419 (r 974),E P iU 1555 (r 1091),E P iV 1595 (r 1124),E P jy 1642 (r 1164),E P kc 1690 (r 1204),E P jz 1715 (r 1223),E P ca 1794 (r 1289)]⟩ 43),⟨[]⟩⟩),(12,fl N0 [(I 1 0),(I 0 0),(r 20),(I 5 0),(I 0 0),(r 25),(I 8 0),(I 0 0),(r 30),(I 12 0),(I 0 0),(r 37),(I 24 0),(I 0 0),(r 73),(I 29 0),(I 0 0),(r 98),(I 32 0),(I 0 0),(r 105),(I 35 0),(I 0 0),(r 118),(I 40 0),(I 0 0),(r 125),(I 47 0),(I 0 0),(r 132),(I 49 0),(I 0 0),(r 145),(I 56 0),(I 0 0),(r 167),(I 58 0),(I 0 0),(r 179),(I 60 0),(I 0 0),(r 191),(I 231 0),(I 0 0),(r 421),(I 438 0),(I 0 0),(r 668),(I 482 0),(I 0 0),(r 754),(I 500 0),(I 0 0),(r 802),(I 502 0),(I 0 0),(r 814),(I 504 0),(I 0 0),(r 826),(I 507 0),(I 0 0),(r 838),(I 523 0),(I 0 0),(r 875),(I 526 0),(I 0 0),(r 882),(I 561 0),(I 0 0),(r 966),(I 575 0),(I 0 0),(r 973),(I 578 0),(I 0 0),(r 980),(I 642 0),(I 0 0),(r 1099),(I 657 0),(I 0 0),(r 1132),(I 677 0),(I 0 0),(r 1172),(I 693 0),(I 0 0),(r 1212),(I 699 0),(I 0 0),(r 1231)])]
noncomputable def pj(P:Params):List Obj:=up (ab4 P) [(57,CA)]
noncomputable def c9(P:Params):List Obj:=[T6 866,T9,⟨(ty bQ),none,(.dict ⟨[E P bw 1603 (S bE 1420),E P dR 1605 (S jy 1604),E P bB 1607 (I 657 1606),E P bC 1615 (r 1140),E P cB 1623 (r 1147),E P σ 1630 (r 1154),E P aS 1637 (r 1161),E P bj 1639 (r 1162)]⟩ 8),⟨[]⟩⟩,T0,uW 659 1139 662 1146 672 1153 675 1160,T7 1598 657 1130 181 jy,T8 1132 1129 1420 bE,T0,T1,dW 1611 ν yA,T0,T2 41 0 bC Ug,JH,JI,T0,T1,dW 1619 ν abd,T0,T2 41 1 cB Uh,JJ,JK,T0,T1,T5 1627 ν,T0,T2 41 2 σ Ui,JL,JM,T0,T1,T5 1634 ν,T0,T2 41 3 aS Uj,JN,JO,T5 1638 yA,JP P,JQ,de 1164,dg 1164,T6 866,T9,⟨(ty bQ),none,(.dict ⟨[E P bw 1650 (S bE 1420),E P dR 1652 (S kc 1651),E P bB 1654 (I 677 1653),E P AD 1656 (I 32 1655),E P bC 1664 (r 1180),E P aS 1671 (r 1187),E P cB 1678 (r 1194),E P σ 1685 (r 1201),E P bj 1687 (r 1202)]⟩ 9),⟨[]⟩⟩,T0,uW 680 1179 685 1186 688 1193 691 1200,T7 1645 677 1170 181 kc,T8 1172 1169 1420 bE,T0,T1,dW 1660 ν AE,T0,T2 42 1 bC Uk,JR,JS,T0,T1,T5 1668 ν,T0,T2 42 2 aS Ul,JT,JU,T0,T1,T5 1675 ν,T0,T2 42 3 cB Um,JV,JW,T0,T1,T5 1682 ν,T0,T2 42 4 σ Un,T3 1679 691 1 0 3 1195 1683 σ Un,T4 42 4 1420 1200 σ Un bE,T5 1686 AE,JX P,JY,de 1204,dg 1204,T6 1204,T9,⟨(ty bQ),none,(.dict ⟨[E P bw 1698 (S bE 1420),E P dR 1700 (S jz 1699),E P bB 1702 (I 693 1701),E P AD 1704 (I 32 1703),E P σ 1711 (r 1220),E P bj 1712 (r 1221)]⟩ 6),⟨[]⟩⟩,T0,T44 696 1219,T7 1693 693 1210 181 jz,T8 1212 1209 1420 bE,T0,T1,T5 1708 ν,T0,T2 43 1 σ Uo,JZ,J0,T0,J1 P,J2,de 1223,dg 1223,T6 866,T9,⟨(ty bQ),none,(.dict ⟨[E P bw 1725 (S φ 1716),E P dR 1727 (S ca 1726),E P bB 1729 (I 699 1728),E P bC 1738 (r 1239),E P cB 1745 (r 1246),E P ah 1753 (r 1253),E P Ω 1761 (r 1261),E P ch 1769 (r 1269),E P aS 1775 (r 1274),E P σ 1782 (r 1281),E P b_ 1788 (r 1286),E P bj 1791 (r 1287)]⟩ 12),⟨[]⟩⟩,T0,fl N0 [(I 701 0),(I 4 0),(r 1238),(I 705 0),(I 4 0),(r 1245),(I 708 0),(I 4 0),(r 1252),(I 714 0),(I 4 0),(r 1259),(I 718 0),(I 4 0),(r 1267),(I 721 0),(I 4 0),(r 1273),(I 724 0),(I 4 0),(r 1280),(I 727 0),(I 4 0),(r 1285)],T7 1720 699 1229 181 ca,T8 1231 1228 1716 φ,T0,T1,sH 1733 ν aW kb,T0,T2 45 0 bC Up,J3,J4,T0,T1,T5 1742 ν,T0,T2 45 1 cB Uq,J5,J6,T0,T1,dW 1749 ν dF,T0,T2 45 2 ah Ur,J7,J8,T0,T1,T5 1757 ν,T0,T2 45 3 Ω Us,J9,J_,J',T0,T1,T5 1765 ν,T0,T2 45 4 ch Ut,Ka,Kb,Kc,T0,T1,T2 45 5 aS Uu,Ke,Kf,T0,T1,T5 1779 ν,T0,T2 45 6 σ Uv,Kg,Kh,T0,T1,T2 45 7 b_ Uw,Ki,Kj,dW 1789 aW a_,Kk P,T53 866 1288 1226 1718 ca,de 1289,dg 1289]
noncomputable def L9(P:Params):List Obj:=om [ab5 P,jC P,iW P,c3 P,c4 P,lR P,pj P,c7 P,c8 P,c9 P]
def Kl:Obj:=T3 1807 731 1 0 3 1299 1811 dF Ux
def Km:Obj:=T4 46 0 1716 1304 dF Ux φ
def Kn:Obj:=eI 1305 1814 dF
def Ko:Obj:=T3 1815 735 1 0 3 1307 1819 d7 Uy
def Kp:Obj:=T4 46 1 1716 1312 d7 Uy φ
def Kq:Obj:=eI 1313 1822 d7
def Kr(P:Params):Obj:=T56 P 1802 729 1814 1306 1822 1314 dF d7
def Ks:Obj:=T3 1845 743 1 0 3 1327 1849 Θ UA
def Kt:Obj:=T4 47 3 1716 1332 Θ UA φ
def Ku:Obj:=T3 1852 746 1 0 3 1334 1856 σ UB
def Kv:Obj:=T4 47 4 1716 1339 σ UB φ
def Kw(P:Params):Obj:=ZV P 1834 738 1333 Uz yB qA
def Kx:Obj:=Y9 1342 1320 1827 kf
def Ky:Obj:=T3 1881 753 1 0 3 1353 1885 Θ UD
def Kz:Obj:=T4 48 3 1716 1358 Θ UD φ
def KA:Obj:=T3 1888 756 1 0 3 1360 1892 σ UE
def KC:Obj:=T4 48 4 1716 1365 σ UE φ
def KD(P:Params):Obj:=ZV P 1870 748 1359 UC yB qB
def KE:Obj:=Y9 1368 1346 1863 kg
def KG:Obj:=pD 1404
def KH:Obj:=T3 1917 763 1 0 3 1380 1921 Θ UF
def KI:Obj:=T4 49 3 1716 1385 Θ UF φ
def KJ:Obj:=T6 1375
def KL:Obj:=T3 1924 766 1 0 3 1388 1929 ah UG
def KN:Obj:=pi 49 4 1375 1387 ah UG
def KP:Obj:=T3 1932 771 1 0 3 1395 1936 σ UH
def KQ:Obj:=T4 49 5 1716 1400 σ UH φ
def KR(P:Params):Obj:=⟨(ty bQ),none,(.dict ⟨[E P bw 1906 (S φ 1716),E P bB 1910 (I 758 1909),E P cG 1912 (S Fx 1911),E P bP 1914 (S br 1913),E P jB 1916 (S Fy 1915),E P Θ 1923 (r 1386),E P ah 1931 (r 1394),E P σ 1938 (r 1401),E P bj 1939 (r 1402),E P s2 1941 N0]⟩ 3),⟨[]⟩⟩
noncomputable def KU(P:Params):List Obj:=up (ab5 P) [(3,⟨(ty bQ),none,(.dict ⟨[E P s0 165 (S φ 1716),E P s2 166 N0,E P s3 167 N0,E P s4 168 (bi fZ),E P s5 169 N0,E P fH 170 (r 6),E P f6 171 (r 4),E P f7 173 (S dE 172),E P f8 174 N0,E P eA 193 (r 21),E P d0 201 (r 26),E P d5 207 (r 31),E P dP 253 (r 63),E P gS 254 (r 63),E P eR 294 (r 88),E P eC 301 (r 99),E P cR 323 (r 109),E P eD 333 (r 119),E P eE 341 (r 126),E P dQ 363 (r 136),E P cW 395 (r 156),E P eS 413 (r 171),E P eU 431 (r 183),E P f9 693 (r 413),E P gT 980 (r 660),E P dS 1124 (r 744),E P gU 1178 (r 794),E P dT 1196 (r 806),E P fI 1212 (r 818),E P f_ 1228 (r 830),E P eV 1287 (r 866),E P jw 1291 (I 258 1290),E P jx 1293 (I 2 1292),E P f' 1301 (r 876),E P iv 1400 (r 958),E P gY 1410 (r 967),E P iw 1419 (r 974),E P iU 1555 (r 1091),E P iV 1595 (r 1124),E P jy 1642 (r 1164),E P kc 1690 (r 1204),E P jz 1715 (r 1223),E P ca 1794 (r 1289),E P d6 1826 (r 1317),E P kf 1862 (r 1343),E P kg 1898 (r 1369),E P jA 1943 (r 1404)]⟩ 47),⟨[]⟩⟩),(12,fl N0 [(I 1 0),(I 0 0),(r 20),(I 5 0),(I 0 0),(r 25),(I 8 0),(I 0 0),(r 30),(I 12 0),(I 0 0),(r 37),(I 24 0),(I 0 0),(r 73),(I 29 0),(I 0 0),(r 98),(I 32 0),(I 0 0),(r 105),(I 35 0),(I 0 0),(r 118),(I 40 0),(I 0 0),(r 125),(I 47 0),(I 0 0),(r 132),(I 49 0),(I 0 0),(r 145),(I 56 0),(I 0 0),(r 167),(I 58 0),(I 0 0),(r 179),(I 60 0),(I 0 0),(r 191),(I 231 0),(I 0 0),(r 421),(I 438 0),(I 0 0),(r 668),(I 482 0),(I 0 0),(r 754),(I 500 0),(I 0 0),(r 802),(I 502 0),(I 0 0),(r 814),(I 504 0),(I 0 0),(r 826),(I 507 0),(I 0 0),(r 838),(I 523 0),(I 0 0),(r 875),(I 526 0),(I 0 0),(r 882),(I 561 0),(I 0 0),(r 966),(I 575 0),(I 0 0),(r 973),(I 578 0),(I 0 0),(r 980),(I 642 0),(I 0 0),(r 1099),(I 657 0),(I 0 0),(r 1132),(I 677 0),(I 0 0),(r 1172),(I 693 0),(I 0 0),(r 1212),(I 699 0),(I 0 0),(r 1231),(I 729 0),(I 0 0),(r 1297),(I 738 0),(I 0 0),(r 1325),(I 748 0),(I 0 0),(r 1351),(I 758 0),(I 0 0),(r 1378)])]
noncomputable def KV(P:Params):List Obj:=up (c9 P) [(162,T54 1288 1317 1226 1718 ca)]
noncomputable def c10(P:Params):List Obj:=[T6 1289,T9,T55 P 1802 729 1814 1306 1822 1314 d6 dF d7,T0,Ig 732 1304 736 1312,T7 1797 729 1295 181 d6,T8 1297 1294 1716 φ,T0,T1,T5 1810 ν,T0,T2 46 0 dF Ux,Kl,Km,Kn,T0,T1,T5 1818 ν,T0,T2 46 1 d7 Uy,Ko,Kp,Kq,T0,Kr P,⟨(ty fQ),none,(.cls (cl d6 [(r 1289)] [(r 1317),(r 1289),(r 866),(r 744),(ty eH)] 1316 d6 true [] [(r 1343),(r 1369),(r 1404)] false none false)),⟨[(some (r 1292)),none,(some (S d6 1795)),(some (S d6 1803)),(some (bi dO)),(some bt)]⟩⟩,de 1317,dg 1317,T6 1317,T9,ZU P 1834 738 1333 kf Uz yB qA,T0,Ig 743 1332 746 1339,T7 1829 738 1323 181 kf,T8 1325 1322 1716 φ,T0,T1,T5 1848 ν,T0,T2 47 3 Θ UA,Ks,Kt,T0,T1,T5 1855 ν,T0,T2 47 4 σ UB,Ku,Kv,T0,Kw P,Kx,de 1343,dg 1343,T6 1317,T9,ZU P 1870 748 1359 kg UC yB qB,T0,Ig 753 1358 756 1365,T7 1865 748 1349 181 kg,T8 1351 1348 1716 φ,T0,T1,T5 1884 ν,T0,T2 48 3 Θ UD,Ky,Kz,T0,T1,T5 1891 ν,T0,T2 48 4 σ UE,KA,KC,T0,KD P,KE,de 1369,dg 1369,T6 1317,T9,⟨(ty bQ),none,(.dict ⟨[E P bw 1906 (S φ 1716),E P dR 1908 (S jA 1907),E P bB 1910 (I 758 1909),E P cG 1912 (S Fx 1911),E P bP 1914 (S br 1913),E P jB 1916 (S Fy 1915),E P Θ 1923 (r 1386),E P ah 1931 (r 1394),E P σ 1938 (r 1401),E P bj 1939 (r 1402),E P yC 1940 (r 1375)]⟩ 11),⟨[]⟩⟩,KG,T0,Rn 763 1385 766 1393 771,T7 1901 758 1376 181 jA,T8 1378 1374 1716 φ,T0,T1,T5 1920 ν,T0,T2 49 3 Θ UF,KH,KI,KJ,T5 1927 eW,T1,T5 1928 ν,T0,T2 49 4 ah UG,KL,KN,T0,T1,T5 1935 ν,T0,T2 49 5 σ UH,KP,KQ,T0,KR P,Y9 1403 1372 1899 jA,de 1404,dg 1404]
noncomputable def L10(P:Params):List Obj:=om [KU P,jC P,iW P,c3 P,c4 P,lR P,pj P,c7 P,c8 P,KV P,c10 P]
def tS:Obj:=T70 1403 1423 1372 1899 jA
def KW:Obj:=T3 1958 776 1 0 3 1414 1962 Θ UJ
def KY:Obj:=T4 50 1 1716 1419 Θ UJ φ
def KZ(P:Params):Obj:=⟨(ty bQ),none,(.dict ⟨[E P bw 1951 (S φ 1716),E P bB 1955 (I 773 1954),E P cG 1957 (S UI 1956),E P Θ 1964 (r 1420),E P bj 1965 (r 1421),E P s2 1966 N0]⟩ 2),⟨[]⟩⟩
def K0:Obj:=EW 1404 1422 1407 1944 lO
def K2:Obj:=T3 1987 783 1 0 3 1433 1991 Θ UK
def K3:Obj:=T4 51 3 1716 1438 Θ UK φ
def K4:Obj:=T3 1994 786 1 0 3 1440 1998 σ UL
def K5:Obj:=T4 51 4 1716 1445 σ UL φ
def K6(P:Params):Obj:=ZV P 1976 778 1439 qz br qA
def K7:Obj:=Y9 1448 1426 1969 dP
def K8:Obj:=pD 1498
def K9:Obj:=T3 2020 792 1 0 3 1460 2024 ch UN
def K_:Obj:=T4 53 1 1716 1465 ch UN φ
def K':Obj:=eI 1466 2027 ch
def Lc:Obj:=T6 1455
def Ld:Obj:=T3 2028 796 1 0 3 1469 2034 ah UO
def Le:Obj:=pi 53 2 1455 1468 ah UO
def Lf:Obj:=oq 2037 808 1 1476 Ω UP
def Lg:Obj:=T4 53 3 1716 1479 Ω UP φ
def Lh:Obj:=eI 1480 2043 Ω
def Li:Obj:=T3 2044 822 1 0 3 1482 2048 Θ UQ
def Lj:Obj:=T4 53 4 1716 1487 Θ UQ φ
def Lk:Obj:=T3 2051 825 1 0 3 1489 2055 σ UR
def Ll:Obj:=T4 53 5 1716 1494 σ UR φ
def Lm(P:Params):Obj:=T48 P 2013 789 2027 1467 2036 1475 2043 1481 2050 1488 UM ch ah Ω Θ σ
def Ln:Obj:=yV 1289 1497 1452 2006 lP
noncomputable def Lo(P:Params):List Obj:=up (KU P) [(3,⟨(ty bQ),none,(.dict ⟨[E P s0 165 (S φ 1716),E P s2 166 N0,E P s3 167 N0,E P s4 168 (bi fZ),E P s5 169 N0,E P fH 170 (r 6),E P f6 171 (r 4),E P f7 173 (S dE 172),E P f8 174 N0,E P eA 193 (r 21),E P d0 201 (r 26),E P d5 207 (r 31),E P dP 253 (r 1449),E P gS 254 (r 63),E P eR 294 (r 88),E P eC 301 (r 99),E P cR 323 (r 109),E P eD 333 (r 119),E P eE 341 (r 126),E P dQ 363 (r 136),E P cW 395 (r 156),E P eS 413 (r 171),E P eU 431 (r 183),E P f9 693 (r 413),E P gT 980 (r 660),E P dS 1124 (r 744),E P gU 1178 (r 794),E P dT 1196 (r 806),E P fI 1212 (r 818),E P f_ 1228 (r 830),E P eV 1287 (r 866),E P jw 1291 (I 258 1290),E P jx 1293 (I 2 1292),E P f' 1301 (r 876),E P iv 1400 (r 958),E P gY 1410 (r 967),E P iw 1419 (r 974),E P iU 1555 (r 1091),E P iV 1595 (r 1124),E P jy 1642 (r 1164),E P kc 1690 (r 1204),E P jz 1715 (r 1223),E P ca 1794 (r 1289),E P d6 1826 (r 1317),E P kf 1862 (r 1343),E P kg 1898 (r 1369),E P jA 1943 (r 1404),E P lO 1968 (r 1423),E P qC 2005 (r 1449),E P lP 2062 (r 1498)]⟩ 50),⟨[]⟩⟩),(12,fl N0 [(I 1 0),(I 0 0),(r 20),(I 5 0),(I 0 0),(r 25),(I 8 0),(I 0 0),(r 30),(I 12 0),(I 0 0),(r 37),(I 24 0),(I 0 0),(r 73),(I 29 0),(I 0 0),(r 98),(I 32 0),(I 0 0),(r 105),(I 35 0),(I 0 0),(r 118),(I 40 0),(I 0 0),(r 125),(I 47 0),(I 0 0),(r 132),(I 49 0),(I 0 0),(r 145),(I 56 0),(I 0 0),(r 167),(I 58 0),(I 0 0),(r 179),(I 60 0),(I 0 0),(r 191),(I 231 0),(I 0 0),(r 421),(I 438 0),(I 0 0),(r 668),(I 482 0),(I 0 0),(r 754),(I 500 0),(I 0 0),(r 802),(I 502 0),(I 0 0),(r 814),(I 504 0),(I 0 0),(r 826),(I 507 0),(I 0 0),(r 838),(I 523 0),(I 0 0),(r 875),(I 526 0),(I 0 0),(r 882),(I 561 0),(I 0 0),(r 966),(I 575 0),(I 0 0),(r 973),(I 578 0),(I 0 0),(r 980),(I 642 0),(I 0 0),(r 1099),(I 657 0),(I 0 0),(r 1132),(I 677 0),(I 0 0),(r 1172),(I 693 0),(I 0 0),(r 1212),(I 699 0),(I 0 0),(r 1231),(I 729 0),(I 0 0),(r 1297),(I 738 0),(I 0 0),(r 1325),(I 748 0),(I 0 0),(r 1351),(I 758 0),(I 0 0),(r 1378),(I 773 0),(I 0 0),(r 1412),(I 778 0),(I 0 0),(r 1431),(I 789 0),(I 0 0),(r 1458)])]
noncomputable def Lp(P:Params):List Obj:=up (KV P) [(162,⟨(ty fQ),none,(.cls (cl ca [(r 866)] [(r 1289),(r 866),(r 744),(ty eH)] 1288 ca true [] [(r 1317),(r 1498)] false none false)),⟨[(some (r 1226)),none,(some (S ca 1718)),(some (S ca 1726)),(some (bi dO)),(some bt)]⟩⟩)]
noncomputable def nz(P:Params):List Obj:=up (c10 P) [(25,⟨(ty fQ),none,(.cls (cl d6 [(r 1289)] [(r 1317),(r 1289),(r 866),(r 744),(ty eH)] 1316 d6 true [] [(r 1343),(r 1369),(r 1404),(r 1449)] false none false)),⟨[(some (r 1292)),none,(some (S d6 1795)),(some (S d6 1803)),(some (bi dO)),(some bt)]⟩⟩),(112,tS)]
noncomputable def Ih(P:Params):List Obj:=[T6 1404,T9,⟨(ty bQ),none,(.dict ⟨[E P bw 1951 (S φ 1716),E P dR 1953 (S lO 1952),E P bB 1955 (I 773 1954),E P cG 1957 (S UI 1956),E P Θ 1964 (r 1420),E P bj 1965 (r 1421)]⟩ 6),⟨[]⟩⟩,T0,T44 776 1419,T7 1946 773 1410 181 lO,T8 1412 1409 1716 φ,T0,T1,T5 1961 ν,T0,T2 50 1 Θ UJ,KW,KY,T0,KZ P,K0,de 1423,dg 1423,T6 1317,T9,ZU P 1976 778 1439 dP qz br qA,T0,Ig 783 1438 786 1445,T7 1971 778 1429 181 dP,T8 1431 1428 1716 φ,T0,T1,T5 1990 ν,T0,T2 51 3 Θ UK,K2,K3,T0,T1,T5 1997 ν,T0,T2 51 4 σ UL,K4,K5,T0,K6 P,K7,de 1449,dg 1449,T6 1289,T9,T47 P 2013 789 2027 1467 2036 1475 2043 1455 2050 1488 lP UM ch ah Ω Θ σ,K8,T0,ZT 793 1465 1474 809 1479 822 1487 825 1494,T7 2008 789 1456 181 lP,T8 1458 1454 1716 φ,T0,T1,T5 2023 ν,T0,T2 53 1 ch UN,K9,K_,K',Lc,T5 2031 eW,T1,dW 2032 ν kh,T0,T2 53 2 ah UO,Ld,Le,T0,T1,T2 53 3 Ω UP,Lf,Lg,Lh,T0,T1,T5 2047 ν,T0,T2 53 4 Θ UQ,Li,Lj,T0,T1,T5 2054 ν,T0,T2 53 5 σ UR,Lk,Ll,T0,Lm P,Ln,de 1498,dg 1498]
noncomputable def L11(P:Params):List Obj:=om [Lo P,jC P,iW P,c3 P,c4 P,lR P,pj P,c7 P,c8 P,Lp P,nz P,Ih P]
def Lq:Obj:=pD 1547
def Lr:Obj:=T3 2077 830 1 0 3 1509 2081 Θ UT
def Lu:Obj:=T4 54 1 1716 1514 Θ UT φ
def Lw:Obj:=T3 2084 833 1 0 3 1516 2088 σ UU
def Lx:Obj:=T4 54 2 1716 1521 σ UU φ
def Ly:Obj:=T6 1504
def Lz:Obj:=T3 2091 836 1 0 3 1524 2096 ah UV
def LC:Obj:=pi 54 3 1504 1523 ah UV
def LD:Obj:=T3 2099 843 1 0 3 1531 2103 ch UW
def LF:Obj:=T4 54 4 1716 1536 ch UW φ
def LG:Obj:=eI 1537 2106 ch
def LH:Obj:=oq 2107 847 1 1539 Ω UX
def LI:Obj:=T4 54 5 1716 1542 Ω UX φ
def LJ:Obj:=eI 1543 2113 Ω
def LK(P:Params):Obj:=T48 P 2070 827 2083 1515 2090 1522 2098 1530 2106 1538 US Θ σ ah ch Ω
def LL:Obj:=yV 1289 1546 1501 2063 mM
def LM:Obj:=pD 1588
def LN:Obj:=T3 2135 864 1 0 3 1558 2139 Θ UZ
def LO:Obj:=T4 55 2 1716 1563 Θ UZ φ
def LP:Obj:=T3 2142 867 1 0 3 1565 2146 σ U0
def LQ:Obj:=T4 55 3 1716 1570 σ U0 φ
def LR:Obj:=T6 1553
def LS:Obj:=T3 2149 870 1 0 3 1573 2154 ah U1
def LU:Obj:=pi 55 4 1553 1572 ah U1
def LV:Obj:=oq 2157 877 1 1580 Ω U2
def LW:Obj:=T4 55 5 1716 1583 Ω U2 φ
def LX:Obj:=eI 1584 2163 Ω
def LY(P:Params):Obj:=ZX P 2126 860 2141 1564 2156 UY br
def LZ:Obj:=yV 1289 1587 1550 2119 mN
def L_:Obj:=pD 1637
def Ma:Obj:=T3 2183 894 1 0 3 1599 2187 Θ U4
def Mb:Obj:=T4 56 1 1716 1604 Θ U4 φ
def Mc:Obj:=T3 2190 897 1 0 3 1606 2194 σ U5
def Me:Obj:=T4 56 2 1716 1611 σ U5 φ
def Mf:Obj:=T3 2197 900 1 0 3 1613 2201 ch U6
def Mg:Obj:=T4 56 3 1716 1618 ch U6 φ
def Mh:Obj:=eI 1619 2204 ch
def Mi:Obj:=T6 1594
def Mj:Obj:=T3 2205 904 1 0 3 1622 2211 ah U7
def Mk:Obj:=pi 56 4 1594 1621 ah U7
def Ml:Obj:=oq 2214 914 1 1629 Ω U8
def Mm:Obj:=T4 56 5 1716 1632 Ω U8 φ
def Mn:Obj:=eI 1633 2220 Ω
def Mo(P:Params):Obj:=T48 P 2176 891 2189 1605 2196 1612 2204 1620 2213 1628 U3 Θ σ ch ah Ω
def Mp:Obj:=yV 1289 1636 1591 2169 mO
noncomputable def Mq(P:Params):List Obj:=up (Lo P) [(3,⟨(ty bQ),none,(.dict ⟨[E P s0 165 (S φ 1716),E P s2 166 N0,E P s3 167 N0,E P s4 168 (bi fZ),E P s5 169 N0,E P fH 170 (r 6),E P f6 171 (r 4),E P f7 173 (S dE 172),E P f8 174 N0,E P eA 193 (r 21),E P d0 201 (r 26),E P d5 207 (r 31),E P dP 253 (r 1449),E P gS 254 (r 63),E P eR 294 (r 88),E P eC 301 (r 99),E P cR 323 (r 109),E P eD 333 (r 119),E P eE 341 (r 126),E P dQ 363 (r 136),E P cW 395 (r 156),E P eS 413 (r 171),E P eU 431 (r 183),E P f9 693 (r 413),E P gT 980 (r 660),E P dS 1124 (r 744),E P gU 1178 (r 794),E P dT 1196 (r 806),E P fI 1212 (r 818),E P f_ 1228 (r 830),E P eV 1287 (r 866),E P jw 1291 (I 258 1290),E P jx 1293 (I 2 1292),E P f' 1301 (r 876),E P iv 1400 (r 958),E P gY 1410 (r 967),E P iw 1419 (r 974),E P iU 1555 (r 1091),E P iV 1595 (r 1124),E P jy 1642 (r 1164),E P kc 1690 (r 1204),E P jz 1715 (r 1223),E P ca 1794 (r 1289),E P d6 1826 (r 1317),E P kf 1862 (r 1343),E P kg 1898 (r 1369),E P jA 1943 (r 1404),E P lO 1968 (r 1423),E P qC 2005 (r 1449),E P lP 2062 (r 1498),E P mM 2118 (r 1547),E P mN 2168 (r 1588),E P mO 2225 (r 1637)]⟩ 53),⟨[]⟩⟩),(12,fl N0 [(I 1 0),(I 0 0),(r 20),(I 5 0),(I 0 0),(r 25),(I 8 0),(I 0 0),(r 30),(I 12 0),(I 0 0),(r 37),(I 24 0),(I 0 0),(r 73),(I 29 0),(I 0 0),(r 98),(I 32 0),(I 0 0),(r 105),(I 35 0),(I 0 0),(r 118),(I 40 0),(I 0 0),(r 125),(I 47 0),(I 0 0),(r 132),(I 49 0),(I 0 0),(r 145),(I 56 0),(I 0 0),(r 167),(I 58 0),(I 0 0),(r 179),(I 60 0),(I 0 0),(r 191),(I 231 0),(I 0 0),(r 421),(I 438 0),(I 0 0),(r 668),(I 482 0),(I 0 0),(r 754),(I 500 0),(I 0 0),(r 802),(I 502 0),(I 0 0),(r 814),(I 504 0),(I 0 0),(r 826),(I 507 0),(I 0 0),(r 838),(I 523 0),(I 0 0),(r 875),(I 526 0),(I 0 0),(r 882),(I 561 0),(I 0 0),(r 966),(I 575 0),(I 0 0),(r 973),(I 578 0),(I 0 0),(r 980),(I 642 0),(I 0 0),(r 1099),(I 657 0),(I 0 0),(r 1132),(I 677 0),(I 0 0),(r 1172),(I 693 0),(I 0 0),(r 1212),(I 699 0),(I 0 0),(r 1231),(I 729 0),(I 0 0),(r 1297),(I 738 0),(I 0 0),(r 1325),(I 748 0),(I 0 0),(r 1351),(I 758 0),(I 0 0),(r 1378),(I 773 0),(I 0 0),(r 1412),(I 778 0),(I 0 0),(r 1431),(I 789 0),(I 0 0),(r 1458),(I 827 0),(I 0 0),(r 1507),(I 860 0),(I 0 0),(r 1556),(I 891 0),(I 0 0),(r 1597)])]
noncomputable def Mr(P:Params):List Obj:=up (Lp P) [(162,⟨(ty fQ),none,(.cls (cl ca [(r 866)] [(r 1289),(r 866),(r 744),(ty eH)] 1288 ca true [] [(r 1317),(r 1498),(r 1547),(r 1588),(r 1637)] false none false)),⟨[(some (r 1226)),none,(some (S ca 1718)),(some (S ca 1726)),(some (bi dO)),(some bt)]⟩⟩)]
noncomputable def Rp(P:Params):List Obj:=[T6 1289,T9,T47 P 2070 827 2083 1515 2090 1522 2098 1504 2106 1538 mM US Θ σ ah ch Ω,Lq,T0,ZT 830 1514 1521 836 1529 844 1536 848 1542,T7 2065 827 1505 181 mM,T8 1507 1503 1716 φ,T0,T1,T5 2080 ν,T0,T2 54 1 Θ UT,Lr,Lu,T0,T1,T5 2087 ν,T0,T2 54 2 σ UU,Lw,Lx,Ly,T5 2094 eW,T1,T5 2095 ν,T0,T2 54 3 ah UV,Lz,LC,T0,T1,T5 2102 ν,T0,T2 54 4 ch UW,LD,LF,LG,T0,T1,T2 54 5 Ω UX,LH,LI,LJ,T0,LK P,LL,de 1547,dg 1547,T6 1289,T9,ZW P 2126 860 2141 1564 2156 1553 mN UY br,LM,T0,uW 864 1563 867 1570 870 1578 878 1583,T7 2121 860 1554 181 mN,T8 1556 1552 1716 φ,T0,T1,T5 2138 ν,T0,T2 55 2 Θ UZ,LN,LO,T0,T1,T5 2145 ν,T0,T2 55 3 σ U0,LP,LQ,LR,T5 2152 eW,T1,T5 2153 ν,T0,T2 55 4 ah U1,LS,LU,T0,T1,T2 55 5 Ω U2,LV,LW,LX,T0,LY P,LZ,de 1588,dg 1588,T6 1289,T9,T47 P 2176 891 2189 1605 2196 1612 2204 1594 2213 1628 mO U3 Θ σ ch ah Ω,L_,T0,ZT 894 1604 1611 901 1618 904 1627 915 1632,T7 2171 891 1595 181 mO,T8 1597 1593 1716 φ,T0,T1,T5 2186 ν,T0,T2 56 1 Θ U4,Ma,Mb,T0,T1,T5 2193 ν,T0,T2 56 2 σ U5,Mc,Me,T0,T1,T5 2200 ν,T0,T2 56 3 ch U6,Mf,Mg,Mh,Mi,T5 2208 eW,T1,dW 2209 ν kh,T0,T2 56 4 ah U7,Mj,Mk,T0,T1,T2 56 5 Ω U8,Ml,Mm,Mn,T0,Mo P,Mp,de 1637,dg 1637]
noncomputable def L12(P:Params):List Obj:=om [Mq P,jC P,iW P,c3 P,c4 P,lR P,pj P,c7 P,c8 P,Mr P,nz P,Ih P,Rp P]
def Ms:Obj:=pD 1678
def Mu:Obj:=T3 2242 932 1 0 3 1648 2246 Θ U_
def Mv:Obj:=T4 57 2 1716 1653 Θ U_ φ
def Mw:Obj:=T3 2249 935 1 0 3 1655 2253 σ U'
def Mx:Obj:=T4 57 3 1716 1660 σ U' φ
def My:Obj:=T6 1643
def Mz:Obj:=T3 2256 938 1 0 3 1663 2261 ah Va
def MA:Obj:=pi 57 4 1643 1662 ah Va
def MB:Obj:=oq 2264 949 1 1670 Ω Vb
def MC:Obj:=T4 57 5 1716 1673 Ω Vb φ
def MD:Obj:=eI 1674 2270 Ω
def ME(P:Params):Obj:=ZX P 2233 928 2248 1654 2263 U9 br
def MF:Obj:=yV 1289 1677 1640 2226 pe
def MG:Obj:=pD 1719
def MH:Obj:=T3 2292 963 1 0 3 1689 2296 Θ Vd
def MI:Obj:=T4 58 2 1716 1694 Θ Vd φ
def MJ:Obj:=T3 2299 966 1 0 3 1696 2303 σ Ve
def MK:Obj:=T4 58 3 1716 1701 σ Ve φ
def ML:Obj:=T6 1684
def MM:Obj:=T3 2306 969 1 0 3 1704 2312 ah Vf
def MN:Obj:=pi 58 4 1684 1703 ah Vf
def MO:Obj:=oq 2315 979 1 1711 Ω Vg
def MP:Obj:=T4 58 5 1716 1714 Ω Vg φ
def MQ:Obj:=eI 1715 2321 Ω
def MR(P:Params):Obj:=ZX P 2283 959 2298 1695 2314 Vc lQ
def MS:Obj:=yV 1289 1718 1681 2276 pf
def MT:Obj:=pD 1760
def MU:Obj:=T3 2343 992 1 0 3 1730 2347 Θ Vi
def MV:Obj:=T4 59 2 1716 1735 Θ Vi φ
def MW:Obj:=T3 2350 995 1 0 3 1737 2354 σ Vj
def MX:Obj:=T4 59 3 1716 1742 σ Vj φ
def MY:Obj:=T6 1725
def MZ:Obj:=T3 2357 998 1 0 3 1745 2363 ah Vk
def M0:Obj:=pi 59 4 1725 1744 ah Vk
def M1:Obj:=oq 2366 1008 1 1752 Ω Vl
def M2:Obj:=T4 59 5 1716 1755 Ω Vl φ
def M3:Obj:=eI 1756 2372 Ω
def M4(P:Params):Obj:=ZX P 2334 988 2349 1736 2365 Vh br
def M5:Obj:=yV 1289 1759 1722 2327 pg
noncomputable def M6(P:Params):List Obj:=up (Mq P) [(3,⟨(ty bQ),none,(.dict ⟨[E P s0 165 (S φ 1716),E P s2 166 N0,E P s3 167 N0,E P s4 168 (bi fZ),E P s5 169 N0,E P fH 170 (r 6),E P f6 171 (r 4),E P f7 173 (S dE 172),E P f8 174 N0,E P eA 193 (r 21),E P d0 201 (r 26),E P d5 207 (r 31),E P dP 253 (r 1449),E P gS 254 (r 63),E P eR 294 (r 88),E P eC 301 (r 99),E P cR 323 (r 109),E P eD 333 (r 119),E P eE 341 (r 126),E P dQ 363 (r 136),E P cW 395 (r 156),E P eS 413 (r 171),E P eU 431 (r 183),E P f9 693 (r 413),E P gT 980 (r 660),E P dS 1124 (r 744),E P gU 1178 (r 794),E P dT 1196 (r 806),E P fI 1212 (r 818),E P f_ 1228 (r 830),E P eV 1287 (r 866),E P jw 1291 (I 258 1290),E P jx 1293 (I 2 1292),E P f' 1301 (r 876),E P iv 1400 (r 958),E P gY 1410 (r 967),E P iw 1419 (r 974),E P iU 1555 (r 1091),E P iV 1595 (r 1124),E P jy 1642 (r 1164),E P kc 1690 (r 1204),E P jz 1715 (r 1223),E P ca 1794 (r 1289),E P d6 1826 (r 1317),E P kf 1862 (r 1343),E P kg 1898 (r 1369),E P jA 1943 (r 1404),E P lO 1968 (r 1423),E P qC 2005 (r 1449),E P lP 2062 (r 1498),E P mM 2118 (r 1547),E P mN 2168 (r 1588),E P mO 2225 (r 1637),E P pe 2275 (r 1678),E P pf 2326 (r 1719),E P pg 2377 (r 1760)]⟩ 56),⟨[]⟩⟩),(12,fl N0 [(I 1 0),(I 0 0),(r 20),(I 5 0),(I 0 0),(r 25),(I 8 0),(I 0 0),(r 30),(I 12 0),(I 0 0),(r 37),(I 24 0),(I 0 0),(r 73),(I 29 0),(I 0 0),(r 98),(I 32 0),(I 0 0),(r 105),(I 35 0),(I 0 0),(r 118),(I 40 0),(I 0 0),(r 125),(I 47 0),(I 0 0),(r 132),(I 49 0),(I 0 0),(r 145),(I 56 0),(I 0 0),(r 167),(I 58 0),(I 0 0),(r 179),(I 60 0),(I 0 0),(r 191),(I 231 0),(I 0 0),(r 421),(I 438 0),(I 0 0),(r 668),(I 482 0),(I 0 0),(r 754),(I 500 0),(I 0 0),(r 802),(I 502 0),(I 0 0),(r 814),(I 504 0),(I 0 0),(r 826),(I 507 0),(I 0 0),(r 838),(I 523 0),(I 0 0),(r 875),(I 526 0),(I 0 0),(r 882),(I 561 0),(I 0 0),(r 966),(I 575 0),(I 0 0),(r 973),(I 578 0),(I 0 0),(r 980),(I 642 0),(I 0 0),(r 1099),(I 657 0),(I 0 0),(r 1132),(I 677 0),(I 0 0),(r 1172),(I 693 0),(I 0 0),(r 1212),(I 699 0),(I 0 0),(r 1231),(I 729 0),(I 0 0),(r 1297),(I 738 0),(I 0 0),(r 1325),(I 748 0),(I 0 0),(r 1351),(I 758 0),(I 0 0),(r 1378),(I 773 0),(I 0 0),(r 1412),(I 778 0),(I 0 0),(r 1431),(I 789 0),(I 0 0),(r 1458),(I 827 0),(I 0 0),(r 1507),(I 860 0),(I 0 0),(r 1556),(I 891 0),(I 0 0),(r 1597),(I 928 0),(I 0 0),(r 1646),(I 959 0),(I 0 0),(r 1687),(I 988 0),(I 0 0),(r 1728)])]
noncomputable def M7(P:Params):List Obj:=up (Mr P) [(162,⟨(ty fQ),none,(.cls (cl ca [(r 866)] [(r 1289),(r 866),(r 744),(ty eH)] 1288 ca true [] [(r 1317),(r 1498),(r 1547),(r 1588),(r 1637),(r 1678),(r 1719),(r 1760)] false none false)),⟨[(some (r 1226)),none,(some (S ca 1718)),(some (S ca 1726)),(some (bi dO)),(some bt)]⟩⟩)]
noncomputable def Za(P:Params):List Obj:=[T6 1289,T9,ZW P 2233 928 2248 1654 2263 1643 pe U9 br,Ms,T0,uW 932 1653 935 1660 938 1668 950 1673,T7 2228 928 1644 181 pe,T8 1646 1642 1716 φ,T0,T1,T5 2245 ν,T0,T2 57 2 Θ U_,Mu,Mv,T0,T1,T5 2252 ν,T0,T2 57 3 σ U',Mw,Mx,My,T5 2259 eW,T1,T5 2260 ν,T0,T2 57 4 ah Va,Mz,MA,T0,T1,T2 57 5 Ω Vb,MB,MC,MD,T0,ME P,MF,de 1678,dg 1678,T6 1289,T9,ZW P 2283 959 2298 1695 2314 1684 pf Vc lQ,MG,T0,uW 963 1694 966 1701 969 1709 980 1714,T7 2278 959 1685 181 pf,T8 1687 1683 1716 φ,T0,T1,T5 2295 ν,T0,T2 58 2 Θ Vd,MH,MI,T0,T1,T5 2302 ν,T0,T2 58 3 σ Ve,MJ,MK,ML,T5 2309 eW,T1,dW 2310 ν kh,T0,T2 58 4 ah Vf,MM,MN,T0,T1,T2 58 5 Ω Vg,MO,MP,MQ,T0,MR P,MS,de 1719,dg 1719,T6 1289,T9,ZW P 2334 988 2349 1736 2365 1725 pg Vh br,MT,T0,uW 992 1735 995 1742 998 1750 1009 1755,T7 2329 988 1726 181 pg,T8 1728 1724 1716 φ,T0,T1,T5 2346 ν,T0,T2 59 2 Θ Vi,MU,MV,T0,T1,T5 2353 ν,T0,T2 59 3 σ Vj,MW,MX,MY,T5 2360 eW,T1,dW 2361 ν kh,T0,T2 59 4 ah Vk,MZ,M0,T0,T1,T2 59 5 Ω Vl,M1,M2,M3,T0,M4 P,M5,de 1760,dg 1760]
noncomputable def L13(P:Params):List Obj:=om [M6 P,jC P,iW P,c3 P,c4 P,lR P,pj P,c7 P,c8 P,M7 P,nz P,Ih P,Rp P,Za P]
def tT:Obj:=⟨(ty fQ),none,(.cls (cl ca [(r 866)] [(r 1289),(r 866),(r 744),(ty eH)] 1288 ca true [] [(r 1317),(r 1498),(r 1547),(r 1588),(r 1637),(r 1678),(r 1719),(r 1760),(r 1809),(r 1848),(r 1889)] false none false)),⟨[(some (r 1226)),none,(some (S ca 1718)),(some (S ca 1726)),(some (bi dO)),(some bt)]⟩⟩
def M8:Obj:=pD 1809
def M9:Obj:=T3 2392 1024 1 0 3 1771 2396 Θ Vn
def M_:Obj:=T4 60 1 1716 1776 Θ Vn φ
def M':Obj:=T3 2399 1027 1 0 3 1778 2403 σ Vo
def Na:Obj:=T4 60 2 1716 1783 σ Vo φ
def Nb:Obj:=T6 1766
def Nc:Obj:=T3 2406 1030 1 0 3 1786 2411 ah Vp
def Nf:Obj:=pi 60 3 1766 1785 ah Vp
def Ng:Obj:=T3 2414 1037 1 0 3 1793 2418 ch Vq
def Nh:Obj:=T4 60 4 1716 1798 ch Vq φ
def Ni:Obj:=eI 1799 2421 ch
def Nj:Obj:=oq 2422 1041 1 1801 Ω Vr
def Nk:Obj:=T4 60 5 1716 1804 Ω Vr φ
def Nl:Obj:=eI 1805 2428 Ω
def Nm(P:Params):Obj:=T48 P 2385 1021 2398 1777 2405 1784 2413 1792 2421 1800 Vm Θ σ ah ch Ω
def Nn:Obj:=yV 1289 1808 1763 2378 qD
def No:Obj:=pD 1848
def Np:Obj:=oq 2450 1056 1 1820 Θ Vt
def Nq:Obj:=T4 61 2 1716 1823 Θ Vt φ
def Nr:Obj:=T3 2456 1059 1 0 3 1825 2460 σ Vu
def Nt:Obj:=T4 61 3 1716 1830 σ Vu φ
def Nu:Obj:=T6 1815
def Nw:Obj:=T3 2463 1062 1 0 3 1833 2472 ah Vw
def Nx:Obj:=pi 61 4 1815 1832 ah Vw
def Ny:Obj:=oq 2475 1078 1 1840 Ω Vx
def Nz:Obj:=T4 61 5 1716 1843 Ω Vx φ
def NA:Obj:=eI 1844 2481 Ω
def NB(P:Params):Obj:=ZX P 2441 1052 2455 1824 2474 Vs br
def NC:Obj:=yV 1289 1847 1812 2434 qE
def ND:Obj:=pD 1889
def NE:Obj:=T6 1854
def NF:Obj:=T3 2506 1096 1 0 15 1860 2513 bC VA
def NG:Obj:=pi 62 4 1854 1859 bC VA
def NH:Obj:=oq 2516 1101 1 1867 Θ VB
def NI:Obj:=T4 62 5 1716 1870 Θ VB φ
def NJ:Obj:=T3 2522 1104 1 0 3 1872 2526 σ VC
def NK:Obj:=T4 62 6 1716 1877 σ VC φ
def NL:Obj:=T6 1854
def NM:Obj:=T3 2529 1107 1 0 3 1880 2534 ah VD
def NN:Obj:=pi 62 7 1854 1879 ah VD
def NO(P:Params):Obj:=⟨(ty bQ),none,(.dict ⟨[E P bw 2494 (S φ 1716),E P bB 2498 (I 1090 2497),E P cG 2500 (S Vy 2499),E P bP 2502 (S br 2501),E P jB 2504 (S qB 2503),E P Vz 2505 bf,E P bC 2515 (r 1866),E P Θ 2521 (r 1871),E P σ 2528 (r 1878),E P ah 2536 (r 1886),E P bj 2537 (r 1887),E P s2 2539 N0]⟩ 3),⟨[]⟩⟩
def NP:Obj:=yV 1289 1888 1851 2487 qF
noncomputable def NQ(P:Params):List Obj:=up (M6 P) [(3,⟨(ty bQ),none,(.dict ⟨[E P s0 165 (S φ 1716),E P s2 166 N0,E P s3 167 N0,E P s4 168 (bi fZ),E P s5 169 N0,E P fH 170 (r 6),E P f6 171 (r 4),E P f7 173 (S dE 172),E P f8 174 N0,E P eA 193 (r 21),E P d0 201 (r 26),E P d5 207 (r 31),E P dP 253 (r 1449),E P gS 254 (r 63),E P eR 294 (r 88),E P eC 301 (r 99),E P cR 323 (r 109),E P eD 333 (r 119),E P eE 341 (r 126),E P dQ 363 (r 136),E P cW 395 (r 156),E P eS 413 (r 171),E P eU 431 (r 183),E P f9 693 (r 413),E P gT 980 (r 660),E P dS 1124 (r 744),E P gU 1178 (r 794),E P dT 1196 (r 806),E P fI 1212 (r 818),E P f_ 1228 (r 830),E P eV 1287 (r 866),E P jw 1291 (I 258 1290),E P jx 1293 (I 2 1292),E P f' 1301 (r 876),E P iv 1400 (r 958),E P gY 1410 (r 967),E P iw 1419 (r 974),E P iU 1555 (r 1091),E P iV 1595 (r 1124),E P jy 1642 (r 1164),E P kc 1690 (r 1204),E P jz 1715 (r 1223),E P ca 1794 (r 1289),E P d6 1826 (r 1317),E P kf 1862 (r 1343),E P kg 1898 (r 1369),E P jA 1943 (r 1404),E P lO 1968 (r 1423),E P qC 2005 (r 1449),E P lP 2062 (r 1498),E P mM 2118 (r 1547),E P mN 2168 (r 1588),E P mO 2225 (r 1637),E P pe 2275 (r 1678),E P pf 2326 (r 1719),E P pg 2377 (r 1760),E P qD 2433 (r 1809),E P qE 2486 (r 1848),E P qF 2541 (r 1889)]⟩ 59),⟨[]⟩⟩),(12,fl N0 [(I 1 0),(I 0 0),(r 20),(I 5 0),(I 0 0),(r 25),(I 8 0),(I 0 0),(r 30),(I 12 0),(I 0 0),(r 37),(I 24 0),(I 0 0),(r 73),(I 29 0),(I 0 0),(r 98),(I 32 0),(I 0 0),(r 105),(I 35 0),(I 0 0),(r 118),(I 40 0),(I 0 0),(r 125),(I 47 0),(I 0 0),(r 132),(I 49 0),(I 0 0),(r 145),(I 56 0),(I 0 0),(r 167),(I 58 0),(I 0 0),(r 179),(I 60 0),(I 0 0),(r 191),(I 231 0),(I 0 0),(r 421),(I 438 0),(I 0 0),(r 668),(I 482 0),(I 0 0),(r 754),(I 500 0),(I 0 0),(r 802),(I 502 0),(I 0 0),(r 814),(I 504 0),(I 0 0),(r 826),(I 507 0),(I 0 0),(r 838),(I 523 0),(I 0 0),(r 875),(I 526 0),(I 0 0),(r 882),(I 561 0),(I 0 0),(r 966),(I 575 0),(I 0 0),(r 973),(I 578 0),(I 0 0),(r 980),(I 642 0),(I 0 0),(r 1099),(I 657 0),(I 0 0),(r 1132),(I 677 0),(I 0 0),(r 1172),(I 693 0),(I 0 0),(r 1212),(I 699 0),(I 0 0),(r 1231),(I 729 0),(I 0 0),(r 1297),(I 738 0),(I 0 0),(r 1325),(I 748 0),(I 0 0),(r 1351),(I 758 0),(I 0 0),(r 1378),(I 773 0),(I 0 0),(r 1412),(I 778 0),(I 0 0),(r 1431),(I 789 0),(I 0 0),(r 1458),(I 827 0),(I 0 0),(r 1507),(I 860 0),(I 0 0),(r 1556),(I 891 0),(I 0 0),(r 1597),(I 928 0),(I 0 0),(r 1646),(I 959 0),(I 0 0),(r 1687),(I 988 0),(I 0 0),(r 1728),(I 1021 0),(I 0 0),(r 1769),(I 1052 0),(I 0 0),(r 1818),(I 1090 0),(I 0 0),(r 1857)])]
noncomputable def sQ(P:Params):List Obj:=up (M7 P) [(162,tT)]
noncomputable def ZY(P:Params):List Obj:=[T6 1289,T9,T47 P 2385 1021 2398 1777 2405 1784 2413 1766 2421 1800 qD Vm Θ σ ah ch Ω,M8,T0,ZT 1024 1776 1783 1030 1791 1038 1798 1042 1804,T7 2380 1021 1767 181 qD,T8 1769 1765 1716 φ,T0,T1,T5 2395 ν,T0,T2 60 1 Θ Vn,M9,M_,T0,T1,T5 2402 ν,T0,T2 60 2 σ Vo,M',Na,Nb,T5 2409 eW,T1,T5 2410 ν,T0,T2 60 3 ah Vp,Nc,Nf,T0,T1,T5 2417 ν,T0,T2 60 4 ch Vq,Ng,Nh,Ni,T0,T1,T2 60 5 Ω Vr,Nj,Nk,Nl,T0,Nm P,Nn,de 1809,dg 1809,T6 1289,T9,ZW P 2441 1052 2455 1824 2474 1815 qE Vs br,No,T0,uW 1056 1823 1059 1830 1062 1838 1079 1843,T7 2436 1052 1816 181 qE,T8 1818 1814 1716 φ,T0,T1,T2 61 2 Θ Vt,Np,Nq,T0,T1,T5 2459 ν,T0,T2 61 3 σ Vu,Nr,Nt,Nu,T5 2466 eW,T1,T50 2467 ν kh Fs dF AG,T0,T2 61 4 ah Vw,Nw,Nx,T0,T1,T2 61 5 Ω Vx,Ny,Nz,NA,T0,NB P,NC,de 1848,dg 1848,T6 1289,T9,⟨(ty bQ),none,(.dict ⟨[E P bw 2494 (S φ 1716),E P dR 2496 (S qF 2495),E P bB 2498 (I 1090 2497),E P cG 2500 (S Vy 2499),E P bP 2502 (S br 2501),E P jB 2504 (S qB 2503),E P Vz 2505 bf,E P bC 2515 (r 1866),E P Θ 2521 (r 1871),E P σ 2528 (r 1878),E P ah 2536 (r 1886),E P bj 2537 (r 1887),E P yC 2538 (r 1854)]⟩ 13),⟨[]⟩⟩,ND,T0,uW 1096 1865 1101 1870 1104 1877 1107 1885,T7 2489 1090 1855 181 qF,T8 1857 1853 1716 φ,NE,T5 2509 eW,T1,sH 2510 ν aW kb,T0,T2 62 4 bC VA,NF,NG,T0,T1,T2 62 5 Θ VB,NH,NI,T0,T1,T5 2525 ν,T0,T2 62 6 σ VC,NJ,NK,NL,T5 2532 eW,T1,T5 2533 ν,T0,T2 62 7 ah VD,NM,NN,T0,NO P,NP,de 1889,dg 1889]
noncomputable def L14(P:Params):List Obj:=om [NQ P,jC P,iW P,c3 P,c4 P,lR P,pj P,c7 P,c8 P,sQ P,nz P,Ih P,Rp P,Za P,ZY P]
def tU:Obj:=⟨(ty fQ),none,(.cls (cl d6 [(r 1289)] [(r 1317),(r 1289),(r 866),(r 744),(ty eH)] 1316 d6 true [] [(r 1343),(r 1369),(r 1404),(r 1449),(r 1915),(r 1941),(r 1968)] false none false)),⟨[(some (r 1292)),none,(some (S d6 1795)),(some (S d6 1803)),(some (bi dO)),(some bt)]⟩⟩
def NR:Obj:=T3 2560 1116 1 0 3 1899 2564 Θ VE
def NS:Obj:=T4 63 3 1716 1904 Θ VE φ
def NT:Obj:=T3 2567 1119 1 0 3 1906 2571 σ VF
def NU:Obj:=T4 63 4 1716 1911 σ VF φ
def NV(P:Params):Obj:=ZV P 2549 1111 1905 Fz br qA
def NW:Obj:=Y9 1914 1892 2542 sw
def NX:Obj:=T3 2596 1126 1 0 3 1925 2600 Θ VH
def NY:Obj:=T4 64 3 1716 1930 Θ VH φ
def NZ:Obj:=T3 2603 1129 1 0 3 1932 2607 σ VI
def N1:Obj:=T4 64 4 1716 1937 σ VI φ
def N3(P:Params):Obj:=ZV P 2585 1121 1931 VG br qB
def N4:Obj:=Y9 1940 1918 2578 sx
def N5:Obj:=T3 2626 1133 1 0 3 1951 2630 ix VJ
def N6:Obj:=T4 65 0 1716 1956 ix VJ φ
def N7:Obj:=eI 1957 2633 ix
def N8:Obj:=T3 2634 1137 1 0 3 1959 2638 aS VK
def N9:Obj:=T4 65 1 1716 1964 aS VK φ
def N_(P:Params):Obj:=T56 P 2621 1131 2633 1958 2640 1965 ix aS
def N':Obj:=pD 2011
def Oa:Obj:=T3 2659 1144 1 0 3 1979 2663 Θ VM
def Ob:Obj:=T4 66 1 1716 1984 Θ VM φ
def Oc:Obj:=T3 2666 1147 1 0 3 1986 2670 σ VN
def Od:Obj:=T4 66 2 1716 1991 σ VN φ
def Oe:Obj:=T6 1974
def Of:Obj:=T3 2673 1150 1 0 3 1994 2678 ah VP
def Og:Obj:=pi 66 3 1974 1993 ah VP
def Oh:Obj:=T3 2681 1155 1 0 3 2001 2687 Ω VQ
def Oi:Obj:=T4 66 4 1716 2006 Ω VQ φ
def Oj:Obj:=eI 2007 2690 Ω
def Ol(P:Params):Obj:=Y' P 2652 1141 1985 2690 yD
def Om:Obj:=EW 1968 2010 1971 2645 sy
noncomputable def On(P:Params):List Obj:=up (NQ P) [(3,⟨(ty bQ),none,(.dict ⟨[E P s0 165 (S φ 1716),E P s2 166 N0,E P s3 167 N0,E P s4 168 (bi fZ),E P s5 169 N0,E P fH 170 (r 6),E P f6 171 (r 4),E P f7 173 (S dE 172),E P f8 174 N0,E P eA 193 (r 21),E P d0 201 (r 26),E P d5 207 (r 31),E P dP 253 (r 1449),E P gS 254 (r 63),E P eR 294 (r 88),E P eC 301 (r 99),E P cR 323 (r 109),E P eD 333 (r 119),E P eE 341 (r 126),E P dQ 363 (r 136),E P cW 395 (r 156),E P eS 413 (r 171),E P eU 431 (r 183),E P f9 693 (r 413),E P gT 980 (r 660),E P dS 1124 (r 744),E P gU 1178 (r 794),E P dT 1196 (r 806),E P fI 1212 (r 818),E P f_ 1228 (r 830),E P eV 1287 (r 866),E P jw 1291 (I 258 1290),E P jx 1293 (I 2 1292),E P f' 1301 (r 876),E P iv 1400 (r 958),E P gY 1410 (r 967),E P iw 1419 (r 974),E P iU 1555 (r 1091),E P iV 1595 (r 1124),E P jy 1642 (r 1164),E P kc 1690 (r 1204),E P jz 1715 (r 1223),E P ca 1794 (r 1289),E P d6 1826 (r 1317),E P kf 1862 (r 1343),E P kg 1898 (r 1369),E P jA 1943 (r 1404),E P lO 1968 (r 1423),E P qC 2005 (r 1449),E P lP 2062 (r 1498),E P mM 2118 (r 1547),E P mN 2168 (r 1588),E P mO 2225 (r 1637),E P pe 2275 (r 1678),E P pf 2326 (r 1719),E P pg 2377 (r 1760),E P qD 2433 (r 1809),E P qE 2486 (r 1848),E P qF 2541 (r 1889),E P sw 2577 (r 1915),E P sx 2613 (r 1941),E P fJ 2644 (r 1968),E P sy 2695 (r 2011)]⟩ 63),⟨[]⟩⟩),(12,fl N0 [(I 1 0),(I 0 0),(r 20),(I 5 0),(I 0 0),(r 25),(I 8 0),(I 0 0),(r 30),(I 12 0),(I 0 0),(r 37),(I 24 0),(I 0 0),(r 73),(I 29 0),(I 0 0),(r 98),(I 32 0),(I 0 0),(r 105),(I 35 0),(I 0 0),(r 118),(I 40 0),(I 0 0),(r 125),(I 47 0),(I 0 0),(r 132),(I 49 0),(I 0 0),(r 145),(I 56 0),(I 0 0),(r 167),(I 58 0),(I 0 0),(r 179),(I 60 0),(I 0 0),(r 191),(I 231 0),(I 0 0),(r 421),(I 438 0),(I 0 0),(r 668),(I 482 0),(I 0 0),(r 754),(I 500 0),(I 0 0),(r 802),(I 502 0),(I 0 0),(r 814),(I 504 0),(I 0 0),(r 826),(I 507 0),(I 0 0),(r 838),(I 523 0),(I 0 0),(r 875),(I 526 0),(I 0 0),(r 882),(I 561 0),(I 0 0),(r 966),(I 575 0),(I 0 0),(r 973),(I 578 0),(I 0 0),(r 980),(I 642 0),(I 0 0),(r 1099),(I 657 0),(I 0 0),(r 1132),(I 677 0),(I 0 0),(r 1172),(I 693 0),(I 0 0),(r 1212),(I 699 0),(I 0 0),(r 1231),(I 729 0),(I 0 0),(r 1297),(I 738 0),(I 0 0),(r 1325),(I 748 0),(I 0 0),(r 1351),(I 758 0),(I 0 0),(r 1378),(I 773 0),(I 0 0),(r 1412),(I 778 0),(I 0 0),(r 1431),(I 789 0),(I 0 0),(r 1458),(I 827 0),(I 0 0),(r 1507),(I 860 0),(I 0 0),(r 1556),(I 891 0),(I 0 0),(r 1597),(I 928 0),(I 0 0),(r 1646),(I 959 0),(I 0 0),(r 1687),(I 988 0),(I 0 0),(r 1728),(I 1021 0),(I 0 0),(r 1769),(I 1052 0),(I 0 0),(r 1818),(I 1090 0),(I 0 0),(r 1857),(I 1111 0),(I 0 0),(r 1897),(I 1121 0),(I 0 0),(r 1923),(I 1131 0),(I 0 0),(r 1949),(I 1141 0),(I 0 0),(r 1977)])]
noncomputable def rg(P:Params):List Obj:=up (nz P) [(25,tU)]
noncomputable def c15(P:Params):List Obj:=[T6 1317,T9,ZU P 2549 1111 1905 sw Fz br qA,T0,Ig 1116 1904 1119 1911,T7 2544 1111 1895 181 sw,T8 1897 1894 1716 φ,T0,T1,T5 2563 ν,T0,T2 63 3 Θ VE,NR,NS,T0,T1,T5 2570 ν,T0,T2 63 4 σ VF,NT,NU,T0,NV P,NW,de 1915,dg 1915,T6 1317,T9,ZU P 2585 1121 1931 sx VG br qB,T0,Ig 1126 1930 1129 1937,T7 2580 1121 1921 181 sx,T8 1923 1920 1716 φ,T0,T1,T5 2599 ν,T0,T2 64 3 Θ VH,NX,NY,T0,T1,T5 2606 ν,T0,T2 64 4 σ VI,NZ,N1,T0,N3 P,N4,de 1941,dg 1941,T6 1317,T9,T55 P 2621 1131 2633 1958 2640 1965 fJ ix aS,T0,Ig 1134 1956 1137 1964,T7 2616 1131 1947 181 fJ,T8 1949 1946 1716 φ,T0,T1,T5 2629 ν,T0,T2 65 0 ix VJ,N5,N6,N7,T0,T1,T5 2637 ν,T0,T2 65 1 aS VK,N8,N9,T0,N_ P,T70 1967 2011 1944 2614 fJ,de 1968,dg 1968,T6 1968,T9,Y_ P 2652 1141 1974 2690 sy yD,N',T0,uW 1144 1984 1147 1991 1150 1999 1156 2006,T7 2647 1141 1975 181 sy,T8 1977 1973 1716 φ,T0,T1,T5 2662 ν,T0,T2 66 1 Θ VM,Oa,Ob,T0,T1,T5 2669 ν,T0,T2 66 2 σ VN,Oc,Od,Oe,T5 2676 eW,T1,T5 2677 ν,T0,T2 66 3 ah VP,Of,Og,T0,T1,sH 2684 ν qG kh,T0,T2 66 4 Ω VQ,Oh,Oi,Oj,T0,Ol P,Om,de 2011,dg 2011]
noncomputable def L15(P:Params):List Obj:=om [On P,jC P,iW P,c3 P,c4 P,lR P,pj P,c7 P,c8 P,sQ P,rg P,Ih P,Rp P,Za P,ZY P,c15 P]
def Oo:Obj:=pD 2054
def Op:Obj:=T3 2710 1167 1 0 3 2022 2714 Θ VR
def Oq:Obj:=T4 67 1 1716 2027 Θ VR φ
def Ot:Obj:=T3 2717 1170 1 0 3 2029 2721 σ VS
def Ou:Obj:=T4 67 2 1716 2034 σ VS φ
def Ov:Obj:=T6 2017
def Ow:Obj:=T3 2724 1173 1 0 3 2037 2729 ah VT
def Ox:Obj:=pi 67 3 2017 2036 ah VT
def Oy:Obj:=T3 2732 1180 1 0 3 2044 2738 Ω VU
def Oz:Obj:=T4 67 4 1716 2049 Ω VU φ
def OA:Obj:=eI 2050 2741 Ω
def OB(P:Params):Obj:=Y' P 2703 1164 2028 2741 yD
def OC:Obj:=EW 1968 2053 2014 2696 uH
def OD:Obj:=pD 2097
def OE:Obj:=T3 2761 1192 1 0 3 2065 2765 Θ VW
def OF:Obj:=T4 68 1 1716 2070 Θ VW φ
def OG:Obj:=T3 2768 1195 1 0 3 2072 2772 σ VX
def OH:Obj:=T4 68 2 1716 2077 σ VX φ
def OI:Obj:=T6 2060
def OJ:Obj:=T3 2775 1198 1 0 3 2080 2780 ah VY
def OK:Obj:=pi 68 3 2060 2079 ah VY
def OL:Obj:=T3 2783 1203 1 0 3 2087 2790 Ω VZ
def OM:Obj:=T4 68 4 1716 2092 Ω VZ φ
def ON:Obj:=eI 2093 2793 Ω
def OO(P:Params):Obj:=Y' P 2754 1189 2071 2793 br
def OP:Obj:=EW 1968 2096 2057 2747 uI
def OQ:Obj:=T3 2813 1215 1 0 3 2107 2817 Θ V0
def OR:Obj:=T4 69 1 1716 2112 Θ V0 φ
def OS:Obj:=T3 2820 1218 1 0 3 2114 2824 σ V3
def OT:Obj:=T4 69 2 1716 2119 σ V3 φ
def OU:Obj:=T3 2827 1221 1 0 3 2121 2834 Ω V4
def OV:Obj:=T4 69 3 1716 2126 Ω V4 φ
def OW:Obj:=eI 2127 2837 Ω
def OX(P:Params):Obj:=T57 P 2806 1212 2113 2826 2120 2839 2 br σ
def OY:Obj:=EW 1968 2130 2100 2799 uJ
noncomputable def OZ(P:Params):List Obj:=up (On P) [(3,⟨(ty bQ),none,(.dict ⟨[E P s0 165 (S φ 1716),E P s2 166 N0,E P s3 167 N0,E P s4 168 (bi fZ),E P s5 169 N0,E P fH 170 (r 6),E P f6 171 (r 4),E P f7 173 (S dE 172),E P f8 174 N0,E P eA 193 (r 21),E P d0 201 (r 26),E P d5 207 (r 31),E P dP 253 (r 1449),E P gS 254 (r 63),E P eR 294 (r 88),E P eC 301 (r 99),E P cR 323 (r 109),E P eD 333 (r 119),E P eE 341 (r 126),E P dQ 363 (r 136),E P cW 395 (r 156),E P eS 413 (r 171),E P eU 431 (r 183),E P f9 693 (r 413),E P gT 980 (r 660),E P dS 1124 (r 744),E P gU 1178 (r 794),E P dT 1196 (r 806),E P fI 1212 (r 818),E P f_ 1228 (r 830),E P eV 1287 (r 866),E P jw 1291 (I 258 1290),E P jx 1293 (I 2 1292),E P f' 1301 (r 876),E P iv 1400 (r 958),E P gY 1410 (r 967),E P iw 1419 (r 974),E P iU 1555 (r 1091),E P iV 1595 (r 1124),E P jy 1642 (r 1164),E P kc 1690 (r 1204),E P jz 1715 (r 1223),E P ca 1794 (r 1289),E P d6 1826 (r 1317),E P kf 1862 (r 1343),E P kg 1898 (r 1369),E P jA 1943 (r 1404),E P lO 1968 (r 1423),E P qC 2005 (r 1449),E P lP 2062 (r 1498),E P mM 2118 (r 1547),E P mN 2168 (r 1588),E P mO 2225 (r 1637),E P pe 2275 (r 1678),E P pf 2326 (r 1719),E P pg 2377 (r 1760),E P qD 2433 (r 1809),E P qE 2486 (r 1848),E P qF 2541 (r 1889),E P sw 2577 (r 1915),E P sx 2613 (r 1941),E P fJ 2644 (r 1968),E P sy 2695 (r 2011),E P uH 2746 (r 2054),E P uI 2798 (r 2097),E P uJ 2841 (r 2131)]⟩ 66),⟨[]⟩⟩),(12,fl N0 [(I 1 0),(I 0 0),(r 20),(I 5 0),(I 0 0),(r 25),(I 8 0),(I 0 0),(r 30),(I 12 0),(I 0 0),(r 37),(I 24 0),(I 0 0),(r 73),(I 29 0),(I 0 0),(r 98),(I 32 0),(I 0 0),(r 105),(I 35 0),(I 0 0),(r 118),(I 40 0),(I 0 0),(r 125),(I 47 0),(I 0 0),(r 132),(I 49 0),(I 0 0),(r 145),(I 56 0),(I 0 0),(r 167),(I 58 0),(I 0 0),(r 179),(I 60 0),(I 0 0),(r 191),(I 231 0),(I 0 0),(r 421),(I 438 0),(I 0 0),(r 668),(I 482 0),(I 0 0),(r 754),(I 500 0),(I 0 0),(r 802),(I 502 0),(I 0 0),(r 814),(I 504 0),(I 0 0),(r 826),(I 507 0),(I 0 0),(r 838),(I 523 0),(I 0 0),(r 875),(I 526 0),(I 0 0),(r 882),(I 561 0),(I 0 0),(r 966),(I 575 0),(I 0 0),(r 973),(I 578 0),(I 0 0),(r 980),(I 642 0),(I 0 0),(r 1099),(I 657 0),(I 0 0),(r 1132),(I 677 0),(I 0 0),(r 1172),(I 693 0),(I 0 0),(r 1212),(I 699 0),(I 0 0),(r 1231),(I 729 0),(I 0 0),(r 1297),(I 738 0),(I 0 0),(r 1325),(I 748 0),(I 0 0),(r 1351),(I 758 0),(I 0 0),(r 1378),(I 773 0),(I 0 0),(r 1412),(I 778 0),(I 0 0),(r 1431),(I 789 0),(I 0 0),(r 1458),(I 827 0),(I 0 0),(r 1507),(I 860 0),(I 0 0),(r 1556),(I 891 0),(I 0 0),(r 1597),(I 928 0),(I 0 0),(r 1646),(I 959 0),(I 0 0),(r 1687),(I 988 0),(I 0 0),(r 1728),(I 1021 0),(I 0 0),(r 1769),(I 1052 0),(I 0 0),(r 1818),(I 1090 0),(I 0 0),(r 1857),(I 1111 0),(I 0 0),(r 1897),(I 1121 0),(I 0 0),(r 1923),(I 1131 0),(I 0 0),(r 1949),(I 1141 0),(I 0 0),(r 1977),(I 1164 0),(I 0 0),(r 2020),(I 1189 0),(I 0 0),(r 2063),(I 1212 0),(I 0 0),(r 2105)])]
noncomputable def CB(P:Params):List Obj:=up (c15 P) [(76,⟨(ty fQ),none,(.cls (cl fJ [(r 1317)] [(r 1968),(r 1317),(r 1289),(r 866),(r 744),(ty eH)] 1967 fJ true [] [(r 2011),(r 2054),(r 2097),(r 2131)] false none false)),⟨[(some (r 1944)),none,(some (S fJ 2614)),(some (S fJ 2622)),(some (bi dO)),(some bt)]⟩⟩)]
noncomputable def c16(P:Params):List Obj:=[T6 1968,T9,Y_ P 2703 1164 2017 2741 uH yD,Oo,T0,uW 1167 2027 1170 2034 1173 2042 1181 2049,T7 2698 1164 2018 181 uH,T8 2020 2016 1716 φ,T0,T1,T5 2713 ν,T0,T2 67 1 Θ VR,Op,Oq,T0,T1,T5 2720 ν,T0,T2 67 2 σ VS,Ot,Ou,Ov,T5 2727 eW,T1,T5 2728 ν,T0,T2 67 3 ah VT,Ow,Ox,T0,T1,sH 2735 ν qG kh,T0,T2 67 4 Ω VU,Oy,Oz,OA,T0,OB P,OC,de 2054,dg 2054,T6 1968,T9,Y_ P 2754 1189 2060 2793 uI br,OD,T0,uW 1192 2070 1195 2077 1198 2085 1204 2092,T7 2749 1189 2061 181 uI,T8 2063 2059 1716 φ,T0,T1,T5 2764 ν,T0,T2 68 1 Θ VW,OE,OF,T0,T1,T5 2771 ν,T0,T2 68 2 σ VX,OG,OH,OI,T5 2778 eW,T1,T5 2779 ν,T0,T2 68 3 ah VY,OJ,OK,T0,T1,sI 2786 ν qG kh AG,T0,T2 68 4 Ω VZ,OL,OM,ON,T0,OO P,OP,de 2097,dg 2097,T6 1968,T9,⟨(ty bQ),none,(.dict ⟨[E P bw 2806 (S φ 1716),E P dR 2808 (S uJ 2807),E P bB 2810 (I 1212 2809),E P bP 2812 (S br 2811),E P Θ 2819 (r 2113),E P σ 2826 (r 2120),E P Ω 2837 (r 2128),E P bj 2838 (r 2129)]⟩ 8),⟨[]⟩⟩,T0,Rn 1215 2112 1218 2119 1222,T7 2801 1212 2103 181 uJ,T8 2105 2102 1716 φ,T0,T1,T5 2816 ν,T0,T2 69 1 Θ V0,OQ,OR,T0,T1,T5 2823 ν,T0,T2 69 2 σ V3,OS,OT,T0,T1,sI 2830 ν kh ahj qG,T0,T2 69 3 Ω V4,OU,OV,OW,T0,OX P,OY,de 2131,dg 2131]
noncomputable def L16(P:Params):List Obj:=om [OZ P,jC P,iW P,c3 P,c4 P,lR P,pj P,c7 P,c8 P,sQ P,rg P,Ih P,Rp P,Za P,ZY P,CB P,c16 P]
def O0:Obj:=pD 2174
def O1:Obj:=T3 2856 1238 1 0 3 2142 2860 Θ V5
def O2:Obj:=T4 70 1 1716 2147 Θ V5 φ
def O3:Obj:=T3 2863 1241 1 0 3 2149 2867 σ V6
def O4:Obj:=T4 70 2 1716 2154 σ V6 φ
def O5:Obj:=T6 2137
def O6:Obj:=T3 2870 1244 1 0 3 2157 2875 ah V7
def O7:Obj:=pi 70 3 2137 2156 ah V7
def O8:Obj:=T3 2878 1251 1 0 3 2164 2884 Ω V8
def O9:Obj:=T4 70 4 1716 2169 Ω V8 φ
def O_:Obj:=eI 2170 2887 Ω
def O'(P:Params):Obj:=Y' P 2849 1235 2148 2887 br
def Pa:Obj:=EW 1968 2173 2134 2842 yE
def Pb:Obj:=pD 2210
def Pc:Obj:=T3 2907 1264 1 0 3 2185 2911 Θ V9
def Pd:Obj:=T4 71 1 1716 2190 Θ V9 φ
def Pe:Obj:=T6 2180
def Pf:Obj:=T3 2914 1269 1 0 3 2193 2919 ah V_
def Pg:Obj:=pi 71 2 2180 2192 ah V_
def Ph:Obj:=T3 2922 1274 1 0 3 2200 2929 Ω V'
def Pj:Obj:=T4 71 3 1716 2205 Ω V' φ
def Pk:Obj:=eI 2206 2932 Ω
def Pl(P:Params):Obj:=T57 P 2900 1261 2191 2921 2199 2935 3 lQ ah
def Pn:Obj:=EW 1968 2209 2177 2893 lQ
def Po:Obj:=pD 2246
def Pp:Obj:=T3 2952 1285 1 0 3 2221 2956 Θ Wa
def Pq:Obj:=T4 72 1 1716 2226 Θ Wa φ
def Pr:Obj:=T6 2216
def Ps:Obj:=T3 2959 1288 1 0 3 2229 2964 ah Wb
def Pu:Obj:=pi 72 2 2216 2228 ah Wb
def Pw:Obj:=T3 2967 1295 1 0 3 2236 2974 Ω Wc
def Px:Obj:=T4 72 3 1716 2241 Ω Wc φ
def Py:Obj:=eI 2242 2977 Ω
def Pz(P:Params):Obj:=T57 P 2945 1282 2227 2966 2235 2980 3 br ah
def PA:Obj:=EW 1968 2245 2213 2938 yF
noncomputable def PB(P:Params):List Obj:=up (OZ P) [(3,⟨(ty bQ),none,(.dict ⟨[E P s0 165 (S φ 1716),E P s2 166 N0,E P s3 167 N0,E P s4 168 (bi fZ),E P s5 169 N0,E P fH 170 (r 6),E P f6 171 (r 4),E P f7 173 (S dE 172),E P f8 174 N0,E P eA 193 (r 21),E P d0 201 (r 26),E P d5 207 (r 31),E P dP 253 (r 1449),E P gS 254 (r 63),E P eR 294 (r 88),E P eC 301 (r 99),E P cR 323 (r 109),E P eD 333 (r 119),E P eE 341 (r 126),E P dQ 363 (r 136),E P cW 395 (r 156),E P eS 413 (r 171),E P eU 431 (r 183),E P f9 693 (r 413),E P gT 980 (r 660),E P dS 1124 (r 744),E P gU 1178 (r 794),E P dT 1196 (r 806),E P fI 1212 (r 818),E P f_ 1228 (r 830),E P eV 1287 (r 866),E P jw 1291 (I 258 1290),E P jx 1293 (I 2 1292),E P f' 1301 (r 876),E P iv 1400 (r 958),E P gY 1410 (r 967),E P iw 1419 (r 974),E P iU 1555 (r 1091),E P iV 1595 (r 1124),E P jy 1642 (r 1164),E P kc 1690 (r 1204),E P jz 1715 (r 1223),E P ca 1794 (r 1289),E P d6 1826 (r 1317),E P kf 1862 (r 1343),E P kg 1898 (r 1369),E P jA 1943 (r 1404),E P lO 1968 (r 1423),E P qC 2005 (r 1449),E P lP 2062 (r 1498),E P mM 2118 (r 1547),E P mN 2168 (r 1588),E P mO 2225 (r 1637),E P pe 2275 (r 1678),E P pf 2326 (r 1719),E P pg 2377 (r 1760),E P qD 2433 (r 1809),E P qE 2486 (r 1848),E P qF 2541 (r 1889),E P sw 2577 (r 1915),E P sx 2613 (r 1941),E P fJ 2644 (r 1968),E P sy 2695 (r 2011),E P uH 2746 (r 2054),E P uI 2798 (r 2097),E P uJ 2841 (r 2131),E P yE 2892 (r 2174),E P lQ 2937 (r 2210),E P yF 2982 (r 2246)]⟩ 69),⟨[]⟩⟩),(12,fl N0 [(I 1 0),(I 0 0),(r 20),(I 5 0),(I 0 0),(r 25),(I 8 0),(I 0 0),(r 30),(I 12 0),(I 0 0),(r 37),(I 24 0),(I 0 0),(r 73),(I 29 0),(I 0 0),(r 98),(I 32 0),(I 0 0),(r 105),(I 35 0),(I 0 0),(r 118),(I 40 0),(I 0 0),(r 125),(I 47 0),(I 0 0),(r 132),(I 49 0),(I 0 0),(r 145),(I 56 0),(I 0 0),(r 167),(I 58 0),(I 0 0),(r 179),(I 60 0),(I 0 0),(r 191),(I 231 0),(I 0 0),(r 421),(I 438 0),(I 0 0),(r 668),(I 482 0),(I 0 0),(r 754),(I 500 0),(I 0 0),(r 802),(I 502 0),(I 0 0),(r 814),(I 504 0),(I 0 0),(r 826),(I 507 0),(I 0 0),(r 838),(I 523 0),(I 0 0),(r 875),(I 526 0),(I 0 0),(r 882),(I 561 0),(I 0 0),(r 966),(I 575 0),(I 0 0),(r 973),(I 578 0),(I 0 0),(r 980),(I 642 0),(I 0 0),(r 1099),(I 657 0),(I 0 0),(r 1132),(I 677 0),(I 0 0),(r 1172),(I 693 0),(I 0 0),(r 1212),(I 699 0),(I 0 0),(r 1231),(I 729 0),(I 0 0),(r 1297),(I 738 0),(I 0 0),(r 1325),(I 748 0),(I 0 0),(r 1351),(I 758 0),(I 0 0),(r 1378),(I 773 0),(I 0 0),(r 1412),(I 778 0),(I 0 0),(r 1431),(I 789 0),(I 0 0),(r 1458),(I 827 0),(I 0 0),(r 1507),(I 860 0),(I 0 0),(r 1556),(I 891 0),(I 0 0),(r 1597),(I 928 0),(I 0 0),(r 1646),(I 959 0),(I 0 0),(r 1687),(I 988 0),(I 0 0),(r 1728),(I 1021 0),(I 0 0),(r 1769),(I 1052 0),(I 0 0),(r 1818),(I 1090 0),(I 0 0),(r 1857),(I 1111 0),(I 0 0),(r 1897),(I 1121 0),(I 0 0),(r 1923),(I 1131 0),(I 0 0),(r 1949),(I 1141 0),(I 0 0),(r 1977),(I 1164 0),(I 0 0),(r 2020),(I 1189 0),(I 0 0),(r 2063),(I 1212 0),(I 0 0),(r 2105),(I 1235 0),(I 0 0),(r 2140),(I 1261 0),(I 0 0),(r 2183),(I 1282 0),(I 0 0),(r 2219)])]
noncomputable def CC(P:Params):List Obj:=up (CB P) [(76,⟨(ty fQ),none,(.cls (cl fJ [(r 1317)] [(r 1968),(r 1317),(r 1289),(r 866),(r 744),(ty eH)] 1967 fJ true [] [(r 2011),(r 2054),(r 2097),(r 2131),(r 2174),(r 2210),(r 2246)] false none false)),⟨[(some (r 1944)),none,(some (S fJ 2614)),(some (S fJ 2622)),(some (bi dO)),(some bt)]⟩⟩)]
noncomputable def c17(P:Params):List Obj:=[T6 1968,T9,Y_ P 2849 1235 2137 2887 yE br,O0,T0,uW 1238 2147 1241 2154 1244 2162 1252 2169,T7 2844 1235 2138 181 yE,T8 2140 2136 1716 φ,T0,T1,T5 2859 ν,T0,T2 70 1 Θ V5,O1,O2,T0,T1,T5 2866 ν,T0,T2 70 2 σ V6,O3,O4,O5,T5 2873 eW,T1,T5 2874 ν,T0,T2 70 3 ah V7,O6,O7,T0,T1,sH 2881 ν qG kh,T0,T2 70 4 Ω V8,O8,O9,O_,T0,O' P,Pa,de 2174,dg 2174,T6 1968,T9,T71 P 2900 1261 2180 lQ lQ,Pb,T0,Rn 1264 2190 1269 2198 1275,T7 2895 1261 2181 181 lQ,T8 2183 2179 1716 φ,T0,T1,T5 2910 ν,T0,T2 71 1 Θ V9,Pc,Pd,Pe,T5 2917 eW,T1,T5 2918 ν,T0,T2 71 2 ah V_,Pf,Pg,T0,T1,sI 2925 ν qG kh AG,T0,T2 71 3 Ω V',Ph,Pj,Pk,T0,Pl P,Pn,de 2210,dg 2210,T6 1968,T9,T71 P 2945 1282 2216 yF br,Po,T0,Rn 1285 2226 1288 2234 1296,T7 2940 1282 2217 181 yF,T8 2219 2215 1716 φ,T0,T1,T5 2955 ν,T0,T2 72 1 Θ Wa,Pp,Pq,Pr,T5 2962 eW,T1,T5 2963 ν,T0,T2 72 2 ah Wb,Ps,Pu,T0,T1,sI 2970 ν qG kh AG,T0,T2 72 3 Ω Wc,Pw,Px,Py,T0,Pz P,PA,de 2246,dg 2246]
noncomputable def L17(P:Params):List Obj:=om [PB P,jC P,iW P,c3 P,c4 P,lR P,pj P,c7 P,c8 P,sQ P,rg P,Ih P,Rp P,Za P,ZY P,CC P,c16 P,c17 P]
def PD(P:Params):Obj:=⟨(ty bQ),none,(.dict ⟨[E P s0 165 (S mQ 3116),E P s2 166 N0,E P s3 167 N0,E P s4 168 (bi fZ),E P s5 169 N0,E P fH 170 (r 6),E P f6 171 (r 4),E P f7 173 (S dE 172),E P f8 174 N0,E P eA 193 (r 21),E P d0 201 (r 26),E P d5 207 (r 31),E P dP 253 (r 1449),E P gS 254 (r 63),E P eR 294 (r 88),E P eC 301 (r 99),E P cR 323 (r 109),E P eD 333 (r 119),E P eE 341 (r 126),E P dQ 363 (r 136),E P cW 395 (r 156),E P eS 413 (r 171),E P eU 431 (r 183),E P f9 693 (r 413),E P gT 980 (r 660),E P dS 1124 (r 744),E P gU 1178 (r 794),E P dT 1196 (r 806),E P fI 1212 (r 818),E P f_ 1228 (r 830),E P eV 1287 (r 866),E P jw 1291 (I 258 1290),E P jx 1293 (I 2 1292),E P f' 1301 (r 876),E P iv 1400 (r 958),E P gY 1410 (r 967),E P iw 1419 (r 974),E P iU 1555 (r 1091),E P iV 1595 (r 1124),E P jy 1642 (r 1164),E P kc 1690 (r 1204),E P jz 1715 (r 1223),E P ca 1794 (r 1289),E P d6 1826 (r 1317),E P kf 1862 (r 1343),E P kg 1898 (r 1369),E P jA 1943 (r 1404),E P lO 1968 (r 1423),E P qC 2005 (r 1449),E P lP 2062 (r 1498),E P mM 2118 (r 1547),E P mN 2168 (r 1588),E P mO 2225 (r 1637),E P pe 2275 (r 1678),E P pf 2326 (r 1719),E P pg 2377 (r 1760),E P qD 2433 (r 1809),E P qE 2486 (r 1848),E P qF 2541 (r 1889),E P sw 2577 (r 1915),E P sx 2613 (r 1941),E P fJ 2644 (r 1968),E P sy 2695 (r 2011),E P uH 2746 (r 2054),E P uI 2798 (r 2097),E P uJ 2841 (r 2131),E P yE 2892 (r 2174),E P lQ 2937 (r 2210),E P yF 2982 (r 2246),E P AH 3034 (r 2289),E P sA 3085 (r 2332),E P sD 3115 (r 2358),E P yG 3123 (r 2367),E P yH 3131 (r 2374),E P yI 3137 (r 2379),E P uK 3143 (r 2384),E P yJ 3149 (r 2389),E P yK 3155 (r 2394),E P iy 3161 (r 2399),E P yL 3183 (r 2406),E P ph 3190 (r 2413),E P AI 3196 (r 2418)]⟩ 82),⟨[]⟩⟩
def tV:Obj:=⟨(ty fQ),none,(.cls (cl fJ [(r 1317)] [(r 1968),(r 1317),(r 1289),(r 866),(r 744),(ty eH)] 1967 fJ true [] [(r 2011),(r 2054),(r 2097),(r 2131),(r 2174),(r 2210),(r 2246),(r 2289),(r 2332)] false none false)),⟨[(some (r 1944)),none,(some (S fJ 2614)),(some (S fJ 2622)),(some (bi dO)),(some bt)]⟩⟩
def PE:Obj:=pD 2289
def PF:Obj:=T3 2997 1306 1 0 3 2257 3001 Θ Wd
def PG:Obj:=T4 73 1 1716 2262 Θ Wd φ
def PH:Obj:=T3 3004 1309 1 0 3 2264 3008 σ We
def PI:Obj:=T4 73 2 1716 2269 σ We φ
def PJ:Obj:=T6 2252
def PK:Obj:=T3 3011 1312 1 0 3 2272 3016 ah Wf
def PL:Obj:=pi 73 3 2252 2271 ah Wf
def PM:Obj:=T3 3019 1317 1 0 3 2279 3026 Ω Wg
def PN:Obj:=T4 73 4 1716 2284 Ω Wg φ
def PP:Obj:=eI 2285 3029 Ω
def PQ(P:Params):Obj:=Y' P 2990 1303 2263 3029 br
def PR:Obj:=EW 1968 2288 2249 2983 AH
def PS:Obj:=pD 2332
def PT:Obj:=T3 3049 1328 1 0 3 2300 3053 Θ Wh
def PU:Obj:=T4 74 1 1716 2305 Θ Wh φ
def PV:Obj:=T3 3056 1331 1 0 3 2307 3060 σ Wi
def PW:Obj:=T4 74 2 1716 2312 σ Wi φ
def PX:Obj:=T6 2295
def PY:Obj:=T3 3063 1334 1 0 3 2315 3068 ah Wj
def PZ:Obj:=pi 74 3 2295 2314 ah Wj
def P0:Obj:=T3 3071 1339 1 0 3 2322 3077 Ω Wl
def P1:Obj:=T4 74 4 1716 2327 Ω Wl φ
def P2:Obj:=eI 2328 3080 Ω
def P4(P:Params):Obj:=Y' P 3042 1325 2306 3080 br
def P5:Obj:=⟨(ty fQ),none,(.cls (cl sA [(r 1968)] [(r 2332),(r 1968),(r 1317),(r 1289),(r 866),(r 744),(ty eH)] 2331 sA true [] [(r 2358)] false none false)),⟨[(some (r 2292)),none,(some (S sA 3035)),(some (S sA 3043)),(some (bi dO)),(some bt)]⟩⟩
def P6:Obj:=T3 3098 1350 1 0 3 2342 3102 Θ Wm
def P7:Obj:=T4 75 0 1716 2347 Θ Wm φ
def P8:Obj:=T3 3105 1353 1 0 3 2349 3109 σ Wn
def P9:Obj:=T4 75 1 1716 2354 σ Wn φ
def P_(P:Params):Obj:=T56 P 3093 1348 3104 2348 3111 2355 Θ σ
def P':Obj:=⟨(ty fQ),none,(.cls (cl sD [(r 2332)] [(r 2358),(r 2332),(r 1968),(r 1317),(r 1289),(r 866),(r 744),(ty eH)] 2357 sD true [] [] false none false)),⟨[(some (r 2335)),none,(some (S sD 3086)),(some (S sD 3094)),(some (bi dO)),(some bt)]⟩⟩
def Qa:Obj:=T3 3118 1356 0 0 3 2361 3121 yG yG
def Qb:Obj:=qR 77 3116 2366 yG mQ
def Qc:Obj:=T3 3124 1358 2 0 3 2368 3129 yH yH
def Qd:Obj:=qR 78 3116 2373 yH mQ
def Qe:Obj:=oq 3132 1360 1 2375 yI yI
def Qg:Obj:=qR 79 3116 2378 yI mQ
def Qh:Obj:=oq 3138 1362 3 2380 uK uK
def Qi:Obj:=qR 80 3116 2383 uK mQ
def Qj:Obj:=oq 3144 1396 3 2385 yJ yJ
def Qk:Obj:=qR 81 3116 2388 yJ mQ
def Ql:Obj:=oq 3150 1424 3 2390 yK yK
def Qm:Obj:=qR 82 3116 2393 yK mQ
def Qn:Obj:=oq 3156 1438 4 2395 iy iy
def Qo:Obj:=qR 83 3116 2398 iy mQ
def Qp:Obj:=T3 3162 1457 2 0 3 2400 3181 yL yL
def Qq:Obj:=qR 84 3116 2405 yL mQ
def Qr:Obj:=T3 3184 1489 1 0 3 2407 3188 ph ph
def Qs:Obj:=qR 85 3116 2412 ph mQ
def Qt:Obj:=oq 3191 1495 1 2414 AI AI
def Qu:Obj:=qR 86 3116 2417 AI mQ
noncomputable def adm(P:Params):List Obj:=up (PB P) [(3,PD P),(12,fl N0 [(I 1 0),(I 0 0),(r 20),(I 5 0),(I 0 0),(r 25),(I 8 0),(I 0 0),(r 30),(I 12 0),(I 0 0),(r 37),(I 24 0),(I 0 0),(r 73),(I 29 0),(I 0 0),(r 98),(I 32 0),(I 0 0),(r 105),(I 35 0),(I 0 0),(r 118),(I 40 0),(I 0 0),(r 125),(I 47 0),(I 0 0),(r 132),(I 49 0),(I 0 0),(r 145),(I 56 0),(I 0 0),(r 167),(I 58 0),(I 0 0),(r 179),(I 60 0),(I 0 0),(r 191),(I 231 0),(I 0 0),(r 421),(I 438 0),(I 0 0),(r 668),(I 482 0),(I 0 0),(r 754),(I 500 0),(I 0 0),(r 802),(I 502 0),(I 0 0),(r 814),(I 504 0),(I 0 0),(r 826),(I 507 0),(I 0 0),(r 838),(I 523 0),(I 0 0),(r 875),(I 526 0),(I 0 0),(r 882),(I 561 0),(I 0 0),(r 966),(I 575 0),(I 0 0),(r 973),(I 578 0),(I 0 0),(r 980),(I 642 0),(I 0 0),(r 1099),(I 657 0),(I 0 0),(r 1132),(I 677 0),(I 0 0),(r 1172),(I 693 0),(I 0 0),(r 1212),(I 699 0),(I 0 0),(r 1231),(I 729 0),(I 0 0),(r 1297),(I 738 0),(I 0 0),(r 1325),(I 748 0),(I 0 0),(r 1351),(I 758 0),(I 0 0),(r 1378),(I 773 0),(I 0 0),(r 1412),(I 778 0),(I 0 0),(r 1431),(I 789 0),(I 0 0),(r 1458),(I 827 0),(I 0 0),(r 1507),(I 860 0),(I 0 0),(r 1556),(I 891 0),(I 0 0),(r 1597),(I 928 0),(I 0 0),(r 1646),(I 959 0),(I 0 0),(r 1687),(I 988 0),(I 0 0),(r 1728),(I 1021 0),(I 0 0),(r 1769),(I 1052 0),(I 0 0),(r 1818),(I 1090 0),(I 0 0),(r 1857),(I 1111 0),(I 0 0),(r 1897),(I 1121 0),(I 0 0),(r 1923),(I 1131 0),(I 0 0),(r 1949),(I 1141 0),(I 0 0),(r 1977),(I 1164 0),(I 0 0),(r 2020),(I 1189 0),(I 0 0),(r 2063),(I 1212 0),(I 0 0),(r 2105),(I 1235 0),(I 0 0),(r 2140),(I 1261 0),(I 0 0),(r 2183),(I 1282 0),(I 0 0),(r 2219),(I 1303 0),(I 0 0),(r 2255),(I 1325 0),(I 0 0),(r 2298),(I 1348 0),(I 0 0),(r 2340),(I 1356 0),(I 0 0),(r 2366),(I 1358 0),(I 0 0),(r 2373),(I 1360 0),(I 0 0),(r 2378),(I 1362 0),(I 0 0),(r 2383),(I 1396 0),(I 0 0),(r 2388),(I 1424 0),(I 0 0),(r 2393),(I 1438 0),(I 0 0),(r 2398),(I 1457 0),(I 0 0),(r 2405),(I 1489 0),(I 0 0),(r 2412),(I 1495 0),(I 0 0),(r 2417)])]
noncomputable def XJ(P:Params):List Obj:=up (CC P) [(76,tV)]
noncomputable def c18(P:Params):List Obj:=[T6 1968,T9,Y_ P 2990 1303 2252 3029 AH br,PE,T0,uW 1306 2262 1309 2269 1312 2277 1318 2284,T7 2985 1303 2253 181 AH,T8 2255 2251 1716 φ,T0,T1,T5 3000 ν,T0,T2 73 1 Θ Wd,PF,PG,T0,T1,T5 3007 ν,T0,T2 73 2 σ We,PH,PI,PJ,T5 3014 eW,T1,T5 3015 ν,T0,T2 73 3 ah Wf,PK,PL,T0,T1,sI 3022 ν qG kh AG,T0,T2 73 4 Ω Wg,PM,PN,PP,T0,PQ P,PR,de 2289,dg 2289,T6 1968,T9,Y_ P 3042 1325 2295 3080 sA br,PS,T0,uW 1328 2305 1331 2312 1334 2320 1340 2327,T7 3037 1325 2296 181 sA,T8 2298 2294 1716 φ,T0,T1,T5 3052 ν,T0,T2 74 1 Θ Wh,PT,PU,T0,T1,T5 3059 ν,T0,T2 74 2 σ Wi,PV,PW,PX,T5 3066 eW,T1,T5 3067 ν,T0,T2 74 3 ah Wj,PY,PZ,T0,T1,sH 3074 ν qG ahk,T0,T2 74 4 Ω Wl,P0,P1,P2,T0,P4 P,P5,de 2332,dg 2332,T6 2332,T9,T55 P 3093 1348 3104 2348 3111 2355 sD Θ σ,T0,Ig 1350 2347 1353 2354,T7 3088 1348 2338 181 sD,T8 2340 2337 1716 φ,T0,T1,T5 3101 ν,T0,T2 75 0 Θ Wm,P6,P7,T0,T1,T5 3108 ν,T0,T2 75 1 σ Wn,P8,P9,T0,P_ P,P',de 2358,dg 2358,T0,T1,T0,T0,pC 77 yG,Qa,Qb,T0,T1,dW 3127 ahl ahm,T0,pC 78 yH,Qc,Qd,T0,T1,pC 79 yI,Qe,Qg,T0,T1,pC 80 uK,Qh,Qi,T0,T1,pC 81 yJ,Qj,Qk,T0,T1,pC 82 yK,Ql,Qm,T0,T1,pC 83 iy,Qn,Qo,T0,T1,tp [(S ahn 3165),(S aho 3166),(S su 3167),(S ahp 3168),(S ahq 3169),(S yi 3170),(S ahr 3171),(S aa4 3172),(S ahs 3173),(S abq 3174),(S aht 3175),(S sq 3176),(S ahu 3177),(S ahv 3178),(S Fz 3179),(S Fx 3180)],T0,pC 84 yL,Qp,Qq,T0,T1,T5 3187 abq,T0,pC 85 ph,Qr,Qs,T0,T1,pC 86 AI,Qt,Qu]
noncomputable def Zb(P:Params):List Obj:=om [adm P,jC P,iW P,c3 P,c4 P,lR P,pj P,c7 P,c8 P,sQ P,rg P,Ih P,Rp P,Za P,ZY P,XJ P,c16 P,c17 P,c18 P]
def aQ:Env:={scope:=prog.main.scope,locals:=mainNs,globals:=mainNs,cells:=[],code:=.ref 13,frame:=some 14}
def cE:Code:=.body (behindTheImports prog) aQ
noncomputable def l5:List Frame:=[topFrame ⟨0,0,0,0⟩]
noncomputable def m8:List Stmt:=behindTheImports prog
noncomputable def Wo:List Stmt:=m8.take 15
noncomputable def pQ:List Stmt:=m8.drop 15
noncomputable def Wp:List Stmt:=pQ.take 2
noncomputable def pR:List Stmt:=pQ.drop 2
noncomputable def Wq:List Stmt:=pR.take 1
noncomputable def pT:List Stmt:=pR.drop 1
noncomputable def Wr:List Stmt:=pT.take 2
noncomputable def pU:List Stmt:=pT.drop 2
noncomputable def Ws:List Stmt:=pU.take 4
noncomputable def pV:List Stmt:=pU.drop 4
noncomputable def Wt:List Stmt:=pV.take 9
noncomputable def pW:List Stmt:=pV.drop 9
noncomputable def Wu:List Stmt:=pW.take 6
noncomputable def pY:List Stmt:=pW.drop 6
noncomputable def Wv:List Stmt:=pY.take 2
noncomputable def pZ:List Stmt:=pY.drop 2
noncomputable def Ww:List Stmt:=pZ.take 5
noncomputable def p5:List Stmt:=pZ.drop 5
noncomputable def Bn:List Stmt:=p5.take 4
noncomputable def ky:List Stmt:=p5.drop 4
noncomputable def Bo:List Stmt:=ky.take 4
noncomputable def kz:List Stmt:=ky.drop 4
noncomputable def Bp:List Stmt:=kz.take 3
noncomputable def kA:List Stmt:=kz.drop 3
noncomputable def Bq:List Stmt:=kA.take 3
noncomputable def kB:List Stmt:=kA.drop 3
noncomputable def Br:List Stmt:=kB.take 3
noncomputable def kC:List Stmt:=kB.drop 3
noncomputable def Bs:List Stmt:=kC.take 4
noncomputable def kD:List Stmt:=kC.drop 4
noncomputable def Bt:List Stmt:=kD.take 3
noncomputable def kG:List Stmt:=kD.drop 3
noncomputable def Bu:List Stmt:=kG.take 3
noncomputable def kH:List Stmt:=kG.drop 3
noncomputable def Bv:List Stmt:=kH.take 14
noncomputable def vE:List Stmt:=kH.drop 14
def runG(p:Program)(n:Nat)(s:World->OsState->SharedT)(sts:List Stmt)(e:Env)(c:Code)(ps:Pos)(w:World)(os:OsState):Option (Flow×SharedT×Code×Pos):=segRunT treeTable p w 11 (some (.ref 6)) 1 n (s w os) (piecesOf sts e c ps l5)
theorem Zn:kk runG=true:=by k_qdec
end
theorem t1(w:World)(os:OsState):runG prog 1532 (st L0 15 187) Wo aQ cE ⟨0,0,0,0⟩ w os=some (.next,st L1 162 396 w os,cE,⟨49,0,55,34⟩):=(congrArg (λf=>f prog 1532 (st L0 15 187) Wo aQ cE ⟨0,0,0,0⟩ w os) PySem.W.Fast.te12184768622420727928).trans (by kernel_rfl)
theorem t2(w:World)(os:OsState):runG prog 486 (st L1 162 396) Wp aQ cE ⟨49,0,55,34⟩ w os=some (.next,st L2 186 432 w os,cE,⟨58,0,59,21⟩):=(congrArg (λf=>f prog 486 (st L1 162 396) Wp aQ cE ⟨49,0,55,34⟩ w os) PySem.W.Fast.te12184768622420727928).trans (by kernel_rfl)
theorem t3(w:World)(os:OsState):runG prog 1317 (st L2 186 432) Wq aQ cE ⟨58,0,59,21⟩ w os=some (.next,st L3 416 694 w os,cE,⟨60,0,230,17⟩):=(congrArg (λf=>f prog 1317 (st L2 186 432) Wq aQ cE ⟨58,0,59,21⟩ w os) PySem.W.Fast.te12184768622420727928).trans (by kernel_rfl)
theorem t4(w:World)(os:OsState):runG prog 1626 (st L3 416 694) Wr aQ cE ⟨60,0,230,17⟩ w os=some (.next,st L4 663 983 w os,cE,⟨437,0,437,8⟩):=(congrArg (λf=>f prog 1626 (st L3 416 694) Wr aQ cE ⟨60,0,230,17⟩ w os) PySem.W.Fast.te12184768622420727928).trans (by kernel_rfl)
theorem t5(w:World)(os:OsState):runG prog 1581 (st L4 663 983) Ws aQ cE ⟨437,0,437,8⟩ w os=some (.next,st L5 809 1197 w os,cE,⟨500,0,501,8⟩):=(congrArg (λf=>f prog 1581 (st L4 663 983) Ws aQ cE ⟨437,0,437,8⟩ w os) PySem.W.Fast.te12184768622420727928).trans (by kernel_rfl)
theorem t6(w:World)(os:OsState):runG prog 1031 (st L5 809 1197) Wt aQ cE ⟨500,0,501,8⟩ w os=some (.next,st L6 877 1304 w os,cE,⟨525,0,525,8⟩):=(congrArg (λf=>f prog 1031 (st L5 809 1197) Wt aQ cE ⟨500,0,501,8⟩ w os) PySem.W.Fast.te12184768622420727928).trans (by kernel_rfl)
theorem t7(w:World)(os:OsState):runG prog 736 (st L6 877 1304) Wu aQ cE ⟨525,0,525,8⟩ w os=some (.next,st L7 975 1422 w os,cE,⟨577,0,577,8⟩):=(congrArg (λf=>f prog 736 (st L6 877 1304) Wu aQ cE ⟨525,0,525,8⟩ w os) PySem.W.Fast.te12184768622420727928).trans (by kernel_rfl)
theorem t8(w:World)(os:OsState):runG prog 1457 (st L7 975 1422) Wv aQ cE ⟨577,0,577,8⟩ w os=some (.next,st L8 1127 1596 w os,cE,⟨642,0,656,35⟩):=(congrArg (λf=>f prog 1457 (st L7 975 1422) Wv aQ cE ⟨577,0,577,8⟩ w os) PySem.W.Fast.te12184768622420727928).trans (by kernel_rfl)
theorem t9(w:World)(os:OsState):runG prog 1634 (st L8 1127 1596) Ww aQ cE ⟨642,0,656,35⟩ w os=some (.next,st L9 1292 1795 w os,cE,⟨699,0,728,51⟩):=(congrArg (λf=>f prog 1634 (st L8 1127 1596) Ww aQ cE ⟨642,0,656,35⟩ w os) PySem.W.Fast.te12184768622420727928).trans (by kernel_rfl)
theorem t10(w:World)(os:OsState):runG prog 1543 (st L9 1292 1795) Bn aQ cE ⟨699,0,728,51⟩ w os=some (.next,st L10 1407 1944 w os,cE,⟨758,0,772,34⟩):=(congrArg (λf=>f prog 1543 (st L9 1292 1795) Bn aQ cE ⟨699,0,728,51⟩ w os) PySem.W.Fast.te12184768622420727928).trans (by kernel_rfl)
theorem t11(w:World)(os:OsState):runG prog 1240 (st L10 1407 1944) Bo aQ cE ⟨758,0,772,34⟩ w os=some (.next,st L11 1501 2063 w os,cE,⟨789,0,826,34⟩):=(congrArg (λf=>f prog 1240 (st L10 1407 1944) Bo aQ cE ⟨758,0,772,34⟩ w os) PySem.W.Fast.te12184768622420727928).trans (by kernel_rfl)
theorem t12(w:World)(os:OsState):runG prog 1564 (st L11 1501 2063) Bp aQ cE ⟨789,0,826,34⟩ w os=some (.next,st L12 1640 2226 w os,cE,⟨891,0,927,20⟩):=(congrArg (λf=>f prog 1564 (st L11 1501 2063) Bp aQ cE ⟨789,0,826,34⟩ w os) PySem.W.Fast.te12184768622420727928).trans (by kernel_rfl)
theorem t13(w:World)(os:OsState):runG prog 1407 (st L12 1640 2226) Bq aQ cE ⟨891,0,927,20⟩ w os=some (.next,st L13 1763 2378 w os,cE,⟨988,0,1020,20⟩):=(congrArg (λf=>f prog 1407 (st L12 1640 2226) Bq aQ cE ⟨891,0,927,20⟩ w os) PySem.W.Fast.te12184768622420727928).trans (by kernel_rfl)
theorem t14(w:World)(os:OsState):runG prog 1450 (st L13 1763 2378) Br aQ cE ⟨988,0,1020,20⟩ w os=some (.next,st L14 1892 2542 w os,cE,⟨1090,0,1110,105⟩):=(congrArg (λf=>f prog 1450 (st L13 1763 2378) Br aQ cE ⟨988,0,1020,20⟩ w os) PySem.W.Fast.te12184768622420727928).trans (by kernel_rfl)
theorem t15(w:World)(os:OsState):runG prog 1584 (st L14 1892 2542) Bs aQ cE ⟨1090,0,1110,105⟩ w os=some (.next,st L15 2014 2696 w os,cE,⟨1141,0,1163,20⟩):=(congrArg (λf=>f prog 1584 (st L14 1892 2542) Bs aQ cE ⟨1090,0,1110,105⟩ w os) PySem.W.Fast.te12184768622420727928).trans (by kernel_rfl)
theorem t16(w:World)(os:OsState):runG prog 1429 (st L15 2014 2696) Bt aQ cE ⟨1141,0,1163,20⟩ w os=some (.next,st L16 2134 2842 w os,cE,⟨1212,0,1234,20⟩):=(congrArg (λf=>f prog 1429 (st L15 2014 2696) Bt aQ cE ⟨1141,0,1163,20⟩ w os) PySem.W.Fast.te12184768622420727928).trans (by kernel_rfl)
theorem t17(w:World)(os:OsState):runG prog 1414 (st L16 2134 2842) Bu aQ cE ⟨1212,0,1234,20⟩ w os=some (.next,st L17 2249 2983 w os,cE,⟨1282,0,1302,20⟩):=(congrArg (λf=>f prog 1414 (st L16 2134 2842) Bu aQ cE ⟨1212,0,1234,20⟩ w os) PySem.W.Fast.te12184768622420727928).trans (by kernel_rfl)
theorem t18(w:World)(os:OsState):runG prog 1637 (st L17 2249 2983) Bv aQ cE ⟨1282,0,1302,20⟩ w os=some (.next,st Zb 2419 3197 w os,cE,⟨1495,0,1515,15⟩):=(congrArg (λf=>f prog 1637 (st L17 2249 2983) Bv aQ cE ⟨1282,0,1302,20⟩ w os) PySem.W.Fast.te12184768622420727928).trans (by kernel_rfl)
abbrev dG:Option Value:=some (.ref 6)
noncomputable def H1(P:Params):Heap:=absHeap (ny 13 (Zb P)) 2419 {}
noncomputable def sh0(w:World)(os:OsState):Shared:=⟨boot_heap w.params,⟨[]⟩,boot_drawn,boot_toks,os⟩
noncomputable def mC(w:World)(os:OsState):Shared:=⟨H1 w.params,⟨[]⟩,{},3197,os⟩
def size0(w:World):Prop:=((boot_heap w.params).isNs mainGlobals&&(⟨[]⟩:Array GenState).size==0,(boot_heap w.params).objs.size,(boot_heap w.params).nsMap mainGlobals "__annotations__")=(true,11,dG)
theorem YS:kk size0=true:=by k_qdec
theorem Hb(w:World):size0 w:=(congrFun PySem.W.Fast.te11947012035182950886 w).mpr (by delta PySem.W.Fast.tw11947012035182950886;kernel_rfl)
def preG(p:Program)(s:World->OsState->SharedT)(c:Code)(w:World)(os:OsState):Prop:=topGo treeTable p w 11 dG 12 (sh0 w os) (topStub p)=some ((s w os).abs,⟨denote treeTable c,c,⟨0,0,0,0⟩,l5⟩)
theorem Zo:kk preG=true:=by k_qdec
theorem XM(w:World)(os:OsState):preG prog (st L0 15 187) cE w os:=(congrArg (λf=>f prog (st L0 15 187) cE w os) PySem.W.Fast.te14590459049303790812).mpr (by delta PySem.W.Fast.tw14590459049303790812;kernel_rfl)
def blkG(p:Program)(s:World->OsState->SharedT)(l:List Stmt)(e:Env)(c:Code)(w:World)(os:OsState):Prop:=segRun treeTable p w 11 dG 1 1 (s w os).abs (blockOf l e c ⟨0,0,0,0⟩ l5)=some (.next,(s w os).abs,c,⟨0,0,0,0⟩)
theorem Zp:kk blkG=true:=by k_qdec
theorem XN(w:World)(os:OsState):blkG prog (st L0 15 187) m8 aQ cE w os:=(congrArg (λf=>f prog (st L0 15 187) m8 aQ cE w os) PySem.W.Fast.te5658997300553750002).mpr (by delta PySem.W.Fast.tw5658997300553750002;kernel_rfl)
def finG(p:Program)(s:World->OsState->SharedT)(h:World->OsState->Shared)(c:Code)(w:World)(os:OsState):Prop:=topRun treeTable p w 11 dG 2 (s w os).abs ⟨doneF .next,c,⟨1495,0,1515,15⟩,l5⟩=some (h w os)
theorem Zq:kk finG=true:=by k_qdec
theorem XO(w:World)(os:OsState):finG prog (st Zb 2419 3197) mC cE w os:=(congrArg (λf=>f prog (st Zb 2419 3197) mC cE w os) PySem.W.Fast.te15587502664916395055).mpr (by delta PySem.W.Fast.tw15587502664916395055;kernel_rfl)
theorem wu:vE=[]:=by kernel_rfl
theorem XQ(w:World)(os:OsState):topRun treeTable prog w 11 dG 2 (st Zb 2419 3197 w os).abs (restOf vE aQ cE ⟨1495,0,1515,15⟩ l5)=some (mC w os):=by rw[wu];exact XO w os
theorem XR(w:World)(os:OsState):topRun treeTable prog w 11 dG (1637+2) (st L17 2249 2983 w os).abs (restOf kH aQ cE ⟨1282,0,1302,20⟩ l5)=some (mC w os):=by
 rw[show kH=Bv++vE from(List.take_append_drop 14 kH).symm]
 exact piece_app (segRun_of (t18 w os)) (XQ w os)
theorem XT(w:World)(os:OsState):topRun treeTable prog w 11 dG (1414+1639) (st L16 2134 2842 w os).abs (restOf kG aQ cE ⟨1212,0,1234,20⟩ l5)=some (mC w os):=by
 rw[show kG=Bu++kH from(List.take_append_drop 3 kG).symm]
 exact piece_app (segRun_of (t17 w os)) (XR w os)
theorem XU(w:World)(os:OsState):topRun treeTable prog w 11 dG (1429+3053) (st L15 2014 2696 w os).abs (restOf kD aQ cE ⟨1141,0,1163,20⟩ l5)=some (mC w os):=by
 rw[show kD=Bt++kG from(List.take_append_drop 3 kD).symm]
 exact piece_app (segRun_of (t16 w os)) (XT w os)
theorem XW(w:World)(os:OsState):topRun treeTable prog w 11 dG (1584+4482) (st L14 1892 2542 w os).abs (restOf kC aQ cE ⟨1090,0,1110,105⟩ l5)=some (mC w os):=by
 rw[show kC=Bs++kD from(List.take_append_drop 4 kC).symm]
 exact piece_app (segRun_of (t15 w os)) (XU w os)
theorem XX(w:World)(os:OsState):topRun treeTable prog w 11 dG (1450+6066) (st L13 1763 2378 w os).abs (restOf kB aQ cE ⟨988,0,1020,20⟩ l5)=some (mC w os):=by
 rw[show kB=Br++kC from(List.take_append_drop 3 kB).symm]
 exact piece_app (segRun_of (t14 w os)) (XW w os)
theorem XY(w:World)(os:OsState):topRun treeTable prog w 11 dG (1407+7516) (st L12 1640 2226 w os).abs (restOf kA aQ cE ⟨891,0,927,20⟩ l5)=some (mC w os):=by
 rw[show kA=Bq++kB from(List.take_append_drop 3 kA).symm]
 exact piece_app (segRun_of (t13 w os)) (XX w os)
theorem XZ(w:World)(os:OsState):topRun treeTable prog w 11 dG (1564+8923) (st L11 1501 2063 w os).abs (restOf kz aQ cE ⟨789,0,826,34⟩ l5)=some (mC w os):=by
 rw[show kz=Bp++kA from(List.take_append_drop 3 kz).symm]
 exact piece_app (segRun_of (t12 w os)) (XY w os)
theorem X8(w:World)(os:OsState):topRun treeTable prog w 11 dG (1240+10487) (st L10 1407 1944 w os).abs (restOf ky aQ cE ⟨758,0,772,34⟩ l5)=some (mC w os):=by
 rw[show ky=Bo++kz from(List.take_append_drop 4 ky).symm]
 exact piece_app (segRun_of (t11 w os)) (XZ w os)
theorem adn(w:World)(os:OsState):topRun treeTable prog w 11 dG (1543+11727) (st L9 1292 1795 w os).abs (restOf p5 aQ cE ⟨699,0,728,51⟩ l5)=some (mC w os):=by
 rw[show p5=Bn++ky from(List.take_append_drop 4 p5).symm]
 exact piece_app (segRun_of (t10 w os)) (X8 w os)
theorem ado(w:World)(os:OsState):topRun treeTable prog w 11 dG (1634+13270) (st L8 1127 1596 w os).abs (restOf pZ aQ cE ⟨642,0,656,35⟩ l5)=some (mC w os):=by
 rw[show pZ=Ww++p5 from(List.take_append_drop 5 pZ).symm]
 exact piece_app (segRun_of (t9 w os)) (adn w os)
theorem adp(w:World)(os:OsState):topRun treeTable prog w 11 dG (1457+14904) (st L7 975 1422 w os).abs (restOf pY aQ cE ⟨577,0,577,8⟩ l5)=some (mC w os):=by
 rw[show pY=Wv++pZ from(List.take_append_drop 2 pY).symm]
 exact piece_app (segRun_of (t8 w os)) (ado w os)
theorem adq(w:World)(os:OsState):topRun treeTable prog w 11 dG (736+16361) (st L6 877 1304 w os).abs (restOf pW aQ cE ⟨525,0,525,8⟩ l5)=some (mC w os):=by
 rw[show pW=Wu++pY from(List.take_append_drop 6 pW).symm]
 exact piece_app (segRun_of (t7 w os)) (adp w os)
theorem adr(w:World)(os:OsState):topRun treeTable prog w 11 dG (1031+17097) (st L5 809 1197 w os).abs (restOf pV aQ cE ⟨500,0,501,8⟩ l5)=some (mC w os):=by
 rw[show pV=Wt++pW from(List.take_append_drop 9 pV).symm]
 exact piece_app (segRun_of (t6 w os)) (adq w os)
theorem ads(w:World)(os:OsState):topRun treeTable prog w 11 dG (1581+18128) (st L4 663 983 w os).abs (restOf pU aQ cE ⟨437,0,437,8⟩ l5)=some (mC w os):=by
 rw[show pU=Ws++pV from(List.take_append_drop 4 pU).symm]
 exact piece_app (segRun_of (t5 w os)) (adr w os)
theorem adt(w:World)(os:OsState):topRun treeTable prog w 11 dG (1626+19709) (st L3 416 694 w os).abs (restOf pT aQ cE ⟨60,0,230,17⟩ l5)=some (mC w os):=by
 rw[show pT=Wr++pU from(List.take_append_drop 2 pT).symm]
 exact piece_app (segRun_of (t4 w os)) (ads w os)
theorem adu(w:World)(os:OsState):topRun treeTable prog w 11 dG (1317+21335) (st L2 186 432 w os).abs (restOf pR aQ cE ⟨58,0,59,21⟩ l5)=some (mC w os):=by
 rw[show pR=Wq++pT from(List.take_append_drop 1 pR).symm]
 exact piece_app (segRun_of (t3 w os)) (adt w os)
theorem adv(w:World)(os:OsState):topRun treeTable prog w 11 dG (486+22652) (st L1 162 396 w os).abs (restOf pQ aQ cE ⟨49,0,55,34⟩ l5)=some (mC w os):=by
 rw[show pQ=Wp++pR from(List.take_append_drop 2 pQ).symm]
 exact piece_app (segRun_of (t2 w os)) (adu w os)
theorem adw(w:World)(os:OsState):topRun treeTable prog w 11 dG (1532+23138) (st L0 15 187 w os).abs (restOf m8 aQ cE ⟨0,0,0,0⟩ l5)=some (mC w os):=by
 rw[show m8=Wo++pQ from(List.take_append_drop 15 m8).symm]
 exact piece_app (segRun_of (t1 w os)) (adv w os)
theorem ahw(w:World)(os:OsState):topRun treeTable prog w 11 dG (12+(1+24670)) (sh0 w os) (topStub prog)=some (mC w os):=go_top (XM w os) (piece_block (XN w os) (adw w os))
noncomputable def qv:Program:={prog with main:={prog.main with body:=Ap prog.main.body 86}}
noncomputable def kI:List Str:=[Str.ofString "_wall",Str.ofString "hexlify",Str.ofString "unhexlify",Str.ofString "Sha256",Str.ofString "Sha256_misc",Str.ofString "hashlib",Str.ofString "ripemd160",Str.ofString "EmbitError",Str.ofString "_whence",Str.ofString "_index",Str.ofString "UnsupportedOperation",Str.ofString "IOBase",Str.ofString "BufferedIOBase",Str.ofString "TextIOBase",Str.ofString "BytesIO",Str.ofString "StringIO",Str.ofString "EmbitBase",Str.ofString "EmbitKey",Str.ofString "DescriptorError",Str.ofString "MiniscriptError",Str.ofString "ArgumentError",Str.ofString "DescriptorBase",Str.ofString "EC_COMPRESSED",Str.ofString "EC_UNCOMPRESSED",Str.ofString "ec_pubkey_serialize",Str.ofString "PublicKey",Str.ofString "to_bytes",Str.ofString "hash160",Str.ofString "Key",Str.ofString "KeyHash",Str.ofString "Number",Str.ofString "Raw",Str.ofString "Raw32",Str.ofString "Miniscript",Str.ofString "OneArg",Str.ofString "PkK",Str.ofString "PkH",Str.ofString "Older",Str.ofString "After",Str.ofString "Sha256_miniscript",Str.ofString "AndOr",Str.ofString "AndV",Str.ofString "AndB",Str.ofString "AndN",Str.ofString "OrB",Str.ofString "OrC",Str.ofString "OrD",Str.ofString "OrI",Str.ofString "Thresh",Str.ofString "Multi",Str.ofString "Pk",Str.ofString "Pkh",Str.ofString "Wrapper",Str.ofString "A",Str.ofString "S",Str.ofString "C",Str.ofString "T",Str.ofString "D",Str.ofString "V",Str.ofString "J",Str.ofString "N",Str.ofString "L",Str.ofString "U",Str.ofString "_law_kinds",Str.ofString "_law_number",Str.ofString "_law_letters",Str.ofString "_law_typed",Str.ofString "_law_props",Str.ofString "_law_code",Str.ofString "_law_node",Str.ofString "_law_table",Str.ofString "_law_refused"]
noncomputable def pk:OpenRow:=PySem.Challenge.rw_kk0017_01.row
noncomputable def XtG(q:Program)(s:Shared):Bool:=xlAt q [] s&&recOk [] s
noncomputable def ZZ(s:Shared):Heap:=s.heap
noncomputable def Zc(w:World):Heap:=H1 w.params
def looksG(p q:Program)(lo:List Str)(h:World->Heap)(w:World):Prop:=(λos=>((staticsOk (importedModules p.main.body) (boot_heap w.params) (h w)&&namesBound p (h w)&&gensDone ⟨h w,⟨[]⟩,{},3197,os⟩&&laidKept (boot_heap w.params) (h w)),openSeen q lo (importedModules p.main.body) (XtG q) true ⟨h w,⟨[]⟩,{},3197,os⟩,ZZ ⟨h w,⟨[]⟩,{},3197,os⟩))=λ_=>(true,openGood q lo,h w)
theorem Q4:kk looksG=true:=by k_qdec
theorem Ej(w:World):looksG prog qv kI Zc w:=(congrArg (λf=>f prog qv kI Zc w) PySem.W.Fast.te1834501457075214222).mpr (by delta PySem.W.Fast.tw1834501457075214222;kernel_rfl)
noncomputable section
noncomputable def K1(P:Params):Frag:=[(26,o26),(31,o31),(876,abL),(967,abW),(2367,Qb),(2374,Qd),(2379,Qg),(2384,Qi),(2389,Qk),(2394,Qm),(2399,Qo),(2406,Qq),(2413,Qs),(2418,Qu),(727,abA),(891,abQ),(898,abS),(989,ab0),(996,ab2),(1011,Jl),(1025,Jo),(1032,Jq),(1039,Js),(1088,Jw),(1107,JA),(1114,JC),(1121,JE),(1140,JI),(1147,JK),(1154,JM),(1161,JO),(1180,JS),(1187,JU),(1194,JW),(1220,J0),(1239,J4),(1246,J6),(1253,J8),(1260,J_),(1268,Kb),(1274,Kf),(1281,Kh),(1286,Kj),(1305,Km),(1313,Kp),(1333,Kt),(1340,Kv),(1359,Kz),(1366,KC),(1386,KI),(1394,KN),(1401,KQ),(1420,KY),(1439,K3),(1446,K5),(1466,K_),(1475,Le),(1480,Lg),(1488,Lj),(1495,Ll),(1515,Lu),(1522,Lx),(1530,LC),(1537,LF),(1543,LI),(1564,LO),(1571,LQ),(1579,LU),(1584,LW),(1605,Mb),(1612,Me),(1619,Mg),(1628,Mk),(1633,Mm),(1654,Mv),(1661,Mx),(1669,MA),(1674,MC),(1695,MI),(1702,MK),(1710,MN),(1715,MP),(1736,MV),(1743,MX),(1751,M0),(1756,M2),(1777,M_),(1784,Na),(1792,Nf),(1799,Nh),(1805,Nk),(1824,Nq),(1831,Nt),(1839,Nx),(1844,Nz),(1866,NG),(1871,NI),(1878,NK),(1886,NN),(1905,NS),(1912,NU),(1931,NY),(1938,N1),(1957,N6),(1965,N9),(1985,Ob),(1992,Od),(2000,Og),(2007,Oi),(2028,Oq),(2035,Ou),(2043,Ox),(2050,Oz),(2071,OF),(2078,OH),(2086,OK),(2093,OM),(2113,OR),(2120,OT),(2127,OV),(2148,O2),(2155,O4),(2163,O7),(2170,O9),(2191,Pd),(2199,Pg),(2206,Pj),(2227,Pq),(2235,Pu),(2242,Px),(2263,PG),(2270,PI),(2278,PL),(2285,PN),(2306,PU),(2313,PW),(2321,PZ),(2328,P1),(2348,P7),(2355,P9),(0,o0 P),(2,abr P),(3,PD P),(109,Cv),(744,Cw),(794,Cz),(806,Cy),(818,abH),(866,CA),(958,abU),(1091,Jy),(1124,JG),(1164,JQ),(1204,JY),(1223,J2),(1289,tT),(1317,tU),(1343,Kx),(1369,KE),(1404,tS),(1423,K0),(1449,K7),(1498,Ln),(1547,LL),(1588,LZ),(1637,Mp),(1678,MF),(1719,MS),(1760,M5),(1809,Nn),(1848,NC),(1889,NP),(1915,NW),(1941,N4),(1968,tV),(2011,Om),(2054,OC),(2097,OP),(2131,OY),(2174,Pa),(2210,Pn),(2246,PA),(2289,PR),(2332,P5),(2358,P'),(108,abt P),(743,abB P),(793,abC P),(805,abD P),(817,abG P),(865,abI P),(957,abT P),(1090,Jx P),(1123,JF P),(1163,JP P),(1203,JX P),(1222,J1 P),(1288,Kk P),(1316,Kr P),(1342,Kw P),(1368,KD P),(1403,KR P),(1422,KZ P),(1448,K6 P),(1497,Lm P),(1546,LK P),(1587,LY P),(1636,Mo P),(1677,ME P),(1718,MR P),(1759,M4 P),(1808,Nm P),(1847,NB P),(1888,NO P),(1914,NV P),(1940,N3 P),(1967,N_ P),(2010,Ol P),(2053,OB P),(2096,OO P),(2130,OX P),(2173,O' P),(2209,Pl P),(2245,Pz P),(2288,PQ P),(2331,P4 P),(2357,P_ P),(1040,Jt),(1306,Kn),(1314,Kq),(1261,J'),(1269,Kc),(1467,K'),(1481,Lh),(1538,LG),(1544,LJ),(1585,LX),(1620,Mh),(1634,Mn),(1675,MD),(1716,MQ),(1757,M3),(1800,Ni),(1806,Nl),(1845,NA),(2008,Oj),(1958,N7),(2051,OA),(2094,ON),(2128,OW),(2171,O_),(2207,Pk),(2243,Py),(2286,PP),(2329,P2),(25,o25),(30,o30),(726,abz),(869,abJ),(875,abK),(884,abO),(890,abP),(897,abR),(966,abV),(982,abY),(988,abZ),(995,ab1),(1010,Jk),(1024,Jn),(1031,Jp),(1038,Jr),(1081,Ju),(1087,Jv),(1106,Jz),(1113,JB),(1120,JD),(1139,JH),(1146,JJ),(1153,JL),(1160,JN),(1179,JR),(1186,JT),(1193,JV),(1219,JZ),(1238,J3),(1245,J5),(1252,J7),(1259,J9),(1267,Ka),(1273,Ke),(1280,Kg),(1285,Ki),(1304,Kl),(1312,Ko),(1332,Ks),(1339,Ku),(1358,Ky),(1365,KA),(1385,KH),(1393,KL),(1387,KJ),(1375,KG),(1400,KP),(1419,KW),(1438,K2),(1445,K4),(1465,K9),(1474,Ld),(1468,Lc),(1455,K8),(1479,Lf),(1487,Li),(1494,Lk),(1514,Lr),(1521,Lw),(1529,Lz),(1523,Ly),(1504,Lq),(1536,LD),(1542,LH),(1563,LN),(1570,LP),(1578,LS),(1572,LR),(1553,LM),(1583,LV),(1604,Ma),(1611,Mc),(1618,Mf),(1627,Mj),(1621,Mi),(1594,L_),(1632,Ml),(1653,Mu),(1660,Mw),(1668,Mz),(1662,My),(1643,Ms),(1673,MB),(1694,MH),(1701,MJ),(1709,MM),(1703,ML),(1684,MG),(1714,MO),(1735,MU),(1742,MW),(1750,MZ),(1744,MY),(1725,MT),(1755,M1),(1776,M9),(1783,M'),(1791,Nc),(1785,Nb),(1766,M8),(1798,Ng),(1804,Nj),(1823,Np),(1830,Nr),(1838,Nw),(1832,Nu),(1815,No),(1843,Ny),(1865,NF),(1859,NE),(1854,ND),(1870,NH),(1877,NJ),(1885,NM),(1879,NL),(1904,NR),(1911,NT),(1930,NX),(1937,NZ),(1956,N5),(1964,N8),(1984,Oa),(1991,Oc),(1999,Of),(1993,Oe),(1974,N'),(2006,Oh),(2027,Op),(2034,Ot),(2042,Ow),(2036,Ov),(2017,Oo),(2049,Oy),(2070,OE),(2077,OG),(2085,OJ),(2079,OI),(2060,OD),(2092,OL),(2112,OQ),(2119,OS),(2126,OU),(2147,O1),(2154,O3),(2162,O6),(2156,O5),(2137,O0),(2169,O8),(2190,Pc),(2198,Pf),(2192,Pe),(2180,Pb),(2205,Ph),(2226,Pp),(2234,Ps),(2228,Pr),(2216,Po),(2241,Pw),(2262,PF),(2269,PH),(2277,PK),(2271,PJ),(2252,PE),(2284,PM),(2305,PT),(2312,PV),(2320,PY),(2314,PX),(2295,PS),(2327,P0),(2347,P6),(2354,P8),(2366,Qa),(2373,Qc),(2378,Qe),(2383,Qh),(2388,Qj),(2393,Ql),(2398,Qn),(2405,Qp),(2412,Qr),(2417,Qt)]
noncomputable def fnL:List Nat:=[26,31,876,967,2367,2374,2379,2384,2389,2394,2399,2406,2413,2418,727,891,898,989,996,1011,1025,1032,1039,1088,1107,1114,1121,1140,1147,1154,1161,1180,1187,1194,1220,1239,1246,1253,1260,1268,1274,1281,1286,1305,1313,1333,1340,1359,1366,1386,1394,1401,1420,1439,1446,1466,1475,1480,1488,1495,1515,1522,1530,1537,1543,1564,1571,1579,1584,1605,1612,1619,1628,1633,1654,1661,1669,1674,1695,1702,1710,1715,1736,1743,1751,1756,1777,1784,1792,1799,1805,1824,1831,1839,1844,1866,1871,1878,1886,1905,1912,1931,1938,1957,1965,1985,1992,2000,2007,2028,2035,2043,2050,2071,2078,2086,2093,2113,2120,2127,2148,2155,2163,2170,2191,2199,2206,2227,2235,2242,2263,2270,2278,2285,2306,2313,2321,2328,2348,2355]
def atT:iZ:=[(958,[(mL,.own),(lN,.own),(gV,.μ 898 none),(aS,.μ 727 none)]),(1091,[(uF,.own),(su,.own),(a_,.own),(uG,.own),(yz,.own),(σ,.μ 996 none),(gV,.μ 1011 none),(c_,.μ 1025 none),(cB,.μ 1032 none),(sr,.prop 1039 none),(eF,.μ 1088 none),(aS,.μ 727 none)]),(1124,[(uF,.own),(su,.own),(a_,.own),(uG,.own),(yz,.own),(c_,.μ 1107 none),(σ,.μ 1114 none),(cB,.μ 1121 none),(gV,.μ 1011 none),(sr,.prop 1039 none),(eF,.μ 1088 none),(aS,.μ 727 none)]),(1164,[(yA,.own),(cB,.μ 1147 none),(σ,.μ 1154 none),(aS,.μ 1161 none)]),(1223,[(AE,.own),(AD,.const (.int 32)),(σ,.μ 1220 none),(aS,.μ 1187 none),(cB,.μ 1194 none)]),(1343,[(aW,.own),(a_,.own),(cG,.const (.str [.lit Uz.cps.toList])),(bP,.const (.str [.lit yB.cps.toList])),(jB,.const (.str [.lit qA.cps.toList])),(Θ,.μ 1333 none),(σ,.μ 1340 (some .l)),(dF,.prop 1305 none),(d7,.prop 1313 none),(cB,.μ 1246 (some .c)),(ah,.μ 1253 (some .v)),(Ω,.prop 1260 (some .p)),(ch,.prop 1268 (some .t)),(aS,.μ 1274 (some .s)),(b_,.μ 1286 none)]),(1369,[(aW,.own),(a_,.own),(cG,.const (.str [.lit UC.cps.toList])),(bP,.const (.str [.lit yB.cps.toList])),(jB,.const (.str [.lit qB.cps.toList])),(Θ,.μ 1359 none),(σ,.μ 1366 (some .l)),(dF,.prop 1305 none),(d7,.prop 1313 none),(cB,.μ 1246 (some .c)),(ah,.μ 1253 (some .v)),(Ω,.prop 1260 (some .p)),(ch,.prop 1268 (some .t)),(aS,.μ 1274 (some .s)),(b_,.μ 1286 none)]),(1404,[(aW,.own),(a_,.own),(cG,.const (.str [.lit Fx.cps.toList])),(bP,.const (.str [.lit br.cps.toList])),(jB,.const (.str [.lit Fy.cps.toList])),(Θ,.μ 1386 none),(ah,.μ 1394 (some .v)),(σ,.μ 1401 (some .l)),(dF,.prop 1305 none),(d7,.prop 1313 none),(cB,.μ 1246 (some .c)),(Ω,.prop 1260 (some .p)),(ch,.prop 1268 (some .t)),(aS,.μ 1274 (some .s)),(b_,.μ 1286 none)]),(1423,[(aW,.own),(a_,.own),(cG,.const (.str [.lit UI.cps.toList])),(Θ,.μ 1420 none),(bP,.const (.str [.lit br.cps.toList])),(jB,.const (.str [.lit Fy.cps.toList])),(ah,.μ 1394 (some .v)),(σ,.μ 1401 (some .l)),(dF,.prop 1305 none),(d7,.prop 1313 none),(cB,.μ 1246 (some .c)),(Ω,.prop 1260 (some .p)),(ch,.prop 1268 (some .t)),(aS,.μ 1274 (some .s)),(b_,.μ 1286 none)]),(1449,[(aW,.own),(a_,.own),(cG,.const (.str [.lit qz.cps.toList])),(bP,.const (.str [.lit br.cps.toList])),(jB,.const (.str [.lit qA.cps.toList])),(Θ,.μ 1439 none),(σ,.μ 1446 (some .l)),(dF,.prop 1305 none),(d7,.prop 1313 none),(cB,.μ 1246 (some .c)),(ah,.μ 1253 (some .v)),(Ω,.prop 1260 (some .p)),(ch,.prop 1268 (some .t)),(aS,.μ 1274 (some .s)),(b_,.μ 1286 none)]),(1498,[(aW,.own),(a_,.own),(cG,.const (.str [.lit UM.cps.toList])),(ch,.prop 1466 (some .t)),(ah,.μ 1475 (some .v)),(Ω,.prop 1480 (some .p)),(Θ,.μ 1488 none),(σ,.μ 1495 (some .l)),(cB,.μ 1246 (some .c)),(aS,.μ 1274 (some .s)),(b_,.μ 1286 none)]),(1547,[(aW,.own),(a_,.own),(cG,.const (.str [.lit US.cps.toList])),(Θ,.μ 1515 none),(σ,.μ 1522 (some .l)),(ah,.μ 1530 (some .v)),(ch,.prop 1537 (some .t)),(Ω,.prop 1543 (some .p)),(cB,.μ 1246 (some .c)),(aS,.μ 1274 (some .s)),(b_,.μ 1286 none)]),(1588,[(aW,.own),(a_,.own),(cG,.const (.str [.lit UY.cps.toList])),(bP,.const (.str [.lit br.cps.toList])),(Θ,.μ 1564 none),(σ,.μ 1571 (some .l)),(ah,.μ 1579 (some .v)),(Ω,.prop 1584 (some .p)),(cB,.μ 1246 (some .c)),(ch,.prop 1268 (some .t)),(aS,.μ 1274 (some .s)),(b_,.μ 1286 none)]),(1637,[(aW,.own),(a_,.own),(cG,.const (.str [.lit U3.cps.toList])),(Θ,.μ 1605 none),(σ,.μ 1612 (some .l)),(ch,.prop 1619 (some .t)),(ah,.μ 1628 (some .v)),(Ω,.prop 1633 (some .p)),(cB,.μ 1246 (some .c)),(aS,.μ 1274 (some .s)),(b_,.μ 1286 none)]),(1678,[(aW,.own),(a_,.own),(cG,.const (.str [.lit U9.cps.toList])),(bP,.const (.str [.lit br.cps.toList])),(Θ,.μ 1654 none),(σ,.μ 1661 (some .l)),(ah,.μ 1669 (some .v)),(Ω,.prop 1674 (some .p)),(cB,.μ 1246 (some .c)),(ch,.prop 1268 (some .t)),(aS,.μ 1274 (some .s)),(b_,.μ 1286 none)]),(1719,[(aW,.own),(a_,.own),(cG,.const (.str [.lit Vc.cps.toList])),(bP,.const (.str [.lit lQ.cps.toList])),(Θ,.μ 1695 none),(σ,.μ 1702 (some .l)),(ah,.μ 1710 (some .v)),(Ω,.prop 1715 (some .p)),(cB,.μ 1246 (some .c)),(ch,.prop 1268 (some .t)),(aS,.μ 1274 (some .s)),(b_,.μ 1286 none)]),(1760,[(aW,.own),(a_,.own),(cG,.const (.str [.lit Vh.cps.toList])),(bP,.const (.str [.lit br.cps.toList])),(Θ,.μ 1736 none),(σ,.μ 1743 (some .l)),(ah,.μ 1751 (some .v)),(Ω,.prop 1756 (some .p)),(cB,.μ 1246 (some .c)),(ch,.prop 1268 (some .t)),(aS,.μ 1274 (some .s)),(b_,.μ 1286 none)]),(1809,[(aW,.own),(a_,.own),(cG,.const (.str [.lit Vm.cps.toList])),(Θ,.μ 1777 none),(σ,.μ 1784 (some .l)),(ah,.μ 1792 (some .v)),(ch,.prop 1799 (some .t)),(Ω,.prop 1805 (some .p)),(cB,.μ 1246 (some .c)),(aS,.μ 1274 (some .s)),(b_,.μ 1286 none)]),(1848,[(aW,.own),(a_,.own),(cG,.const (.str [.lit Vs.cps.toList])),(bP,.const (.str [.lit br.cps.toList])),(Θ,.μ 1824 none),(σ,.μ 1831 (some .l)),(ah,.μ 1839 (some .v)),(Ω,.prop 1844 (some .p)),(cB,.μ 1246 (some .c)),(ch,.prop 1268 (some .t)),(aS,.μ 1274 (some .s)),(b_,.μ 1286 none)]),(1889,[(aW,.own),(a_,.own),(cG,.const (.str [.lit Vy.cps.toList])),(bP,.const (.str [.lit br.cps.toList])),(jB,.const (.str [.lit qB.cps.toList])),(Vz,.const (.bool false)),(Θ,.μ 1871 none),(σ,.μ 1878 (some .l)),(ah,.μ 1886 (some .v)),(cB,.μ 1246 (some .c)),(Ω,.prop 1260 (some .p)),(ch,.prop 1268 (some .t)),(aS,.μ 1274 (some .s)),(b_,.μ 1286 none)]),(1915,[(aW,.own),(a_,.own),(cG,.const (.str [.lit Fz.cps.toList])),(bP,.const (.str [.lit br.cps.toList])),(jB,.const (.str [.lit qA.cps.toList])),(Θ,.μ 1905 none),(σ,.μ 1912 (some .l)),(dF,.prop 1305 none),(d7,.prop 1313 none),(cB,.μ 1246 (some .c)),(ah,.μ 1253 (some .v)),(Ω,.prop 1260 (some .p)),(ch,.prop 1268 (some .t)),(aS,.μ 1274 (some .s)),(b_,.μ 1286 none)]),(1941,[(aW,.own),(a_,.own),(cG,.const (.str [.lit VG.cps.toList])),(bP,.const (.str [.lit br.cps.toList])),(jB,.const (.str [.lit qB.cps.toList])),(Θ,.μ 1931 none),(σ,.μ 1938 (some .l)),(dF,.prop 1305 none),(d7,.prop 1313 none),(cB,.μ 1246 (some .c)),(ah,.μ 1253 (some .v)),(Ω,.prop 1260 (some .p)),(ch,.prop 1268 (some .t)),(aS,.μ 1274 (some .s)),(b_,.μ 1286 none)]),(2011,[(aW,.own),(a_,.own),(bP,.const (.str [.lit yD.cps.toList])),(Θ,.μ 1985 none),(σ,.μ 1992 (some .l)),(ah,.μ 2000 (some .v)),(Ω,.prop 2007 (some .p)),(ix,.prop 1957 none),(aS,.μ 1965 (some .s)),(dF,.prop 1305 none),(d7,.prop 1313 none),(cB,.μ 1246 (some .c)),(ch,.prop 1268 (some .t)),(b_,.μ 1286 none)]),(2054,[(aW,.own),(a_,.own),(bP,.const (.str [.lit yD.cps.toList])),(Θ,.μ 2028 none),(σ,.μ 2035 (some .l)),(ah,.μ 2043 (some .v)),(Ω,.prop 2050 (some .p)),(ix,.prop 1957 none),(aS,.μ 1965 (some .s)),(dF,.prop 1305 none),(d7,.prop 1313 none),(cB,.μ 1246 (some .c)),(ch,.prop 1268 (some .t)),(b_,.μ 1286 none)]),(2097,[(aW,.own),(a_,.own),(bP,.const (.str [.lit br.cps.toList])),(Θ,.μ 2071 none),(σ,.μ 2078 (some .l)),(ah,.μ 2086 (some .v)),(Ω,.prop 2093 (some .p)),(ix,.prop 1957 none),(aS,.μ 1965 (some .s)),(dF,.prop 1305 none),(d7,.prop 1313 none),(cB,.μ 1246 (some .c)),(ch,.prop 1268 (some .t)),(b_,.μ 1286 none)]),(2131,[(aW,.own),(a_,.own),(bP,.const (.str [.lit br.cps.toList])),(Θ,.μ 2113 none),(σ,.μ 2120 (some .l)),(Ω,.prop 2127 (some .p)),(ix,.prop 1957 none),(aS,.μ 1965 (some .s)),(dF,.prop 1305 none),(d7,.prop 1313 none),(cB,.μ 1246 (some .c)),(ah,.μ 1253 (some .v)),(ch,.prop 1268 (some .t)),(b_,.μ 1286 none)]),(2174,[(aW,.own),(a_,.own),(bP,.const (.str [.lit br.cps.toList])),(Θ,.μ 2148 none),(σ,.μ 2155 (some .l)),(ah,.μ 2163 (some .v)),(Ω,.prop 2170 (some .p)),(ix,.prop 1957 none),(aS,.μ 1965 (some .s)),(dF,.prop 1305 none),(d7,.prop 1313 none),(cB,.μ 1246 (some .c)),(ch,.prop 1268 (some .t)),(b_,.μ 1286 none)]),(2210,[(aW,.own),(a_,.own),(bP,.const (.str [.lit lQ.cps.toList])),(Θ,.μ 2191 none),(ah,.μ 2199 (some .v)),(Ω,.prop 2206 (some .p)),(ix,.prop 1957 none),(aS,.μ 1965 (some .s)),(dF,.prop 1305 none),(d7,.prop 1313 none),(cB,.μ 1246 (some .c)),(ch,.prop 1268 (some .t)),(σ,.μ 1281 (some .l)),(b_,.μ 1286 none)]),(2246,[(aW,.own),(a_,.own),(bP,.const (.str [.lit br.cps.toList])),(Θ,.μ 2227 none),(ah,.μ 2235 (some .v)),(Ω,.prop 2242 (some .p)),(ix,.prop 1957 none),(aS,.μ 1965 (some .s)),(dF,.prop 1305 none),(d7,.prop 1313 none),(cB,.μ 1246 (some .c)),(ch,.prop 1268 (some .t)),(σ,.μ 1281 (some .l)),(b_,.μ 1286 none)]),(2289,[(aW,.own),(a_,.own),(bP,.const (.str [.lit br.cps.toList])),(Θ,.μ 2263 none),(σ,.μ 2270 (some .l)),(ah,.μ 2278 (some .v)),(Ω,.prop 2285 (some .p)),(ix,.prop 1957 none),(aS,.μ 1965 (some .s)),(dF,.prop 1305 none),(d7,.prop 1313 none),(cB,.μ 1246 (some .c)),(ch,.prop 1268 (some .t)),(b_,.μ 1286 none)]),(2332,[(aW,.own),(a_,.own),(bP,.const (.str [.lit br.cps.toList])),(Θ,.μ 2306 none),(σ,.μ 2313 (some .l)),(ah,.μ 2321 (some .v)),(Ω,.prop 2328 (some .p)),(ix,.prop 1957 none),(aS,.μ 1965 (some .s)),(dF,.prop 1305 none),(d7,.prop 1313 none),(cB,.μ 1246 (some .c)),(ch,.prop 1268 (some .t)),(b_,.μ 1286 none)]),(2358,[(aW,.own),(a_,.own),(Θ,.μ 2348 none),(σ,.μ 2355 (some .l)),(bP,.const (.str [.lit br.cps.toList])),(ah,.μ 2321 (some .v)),(Ω,.prop 2328 (some .p)),(ix,.prop 1957 none),(aS,.μ 1965 (some .s)),(dF,.prop 1305 none),(d7,.prop 1313 none),(cB,.μ 1246 (some .c)),(ch,.prop 1268 (some .t)),(b_,.μ 1286 none)])]
def glT:List (Str×XV):=[(d0,.addr 26),(d5,.addr 31),(f',.addr 876),(gY,.addr 967),(yG,.addr 2367),(yH,.addr 2374),(yI,.addr 2379),(uK,.addr 2384),(yJ,.addr 2389),(yK,.addr 2394),(iy,.addr 2399),(yL,.addr 2406),(ph,.addr 2413),(s76,.ty .str),(s58,.ty .bytes),(s67,.ty .int),(ch,.ty .type),(s71,.ty .range),(s80,.ty .zip),(s62,.ty .enumerate),(s34,.bi .len),(s47,.bi .sorted),(s30,.bi .isinstance),(s48,.bi .sum),(s25,.bi .hasattr),(ca,.addr 1289),(fJ,.addr 1968),(fI,.addr 818),(jy,.addr 1164),(iv,.addr 958),(iU,.addr 1091),(iV,.addr 1124),(jz,.addr 1223),(kf,.addr 1343),(kg,.addr 1369),(jA,.addr 1404),(lO,.addr 1423),(qC,.addr 1449),(lP,.addr 1498),(mM,.addr 1547),(mN,.addr 1588),(mO,.addr 1637),(pe,.addr 1678),(pf,.addr 1719),(pg,.addr 1760),(qD,.addr 1809),(qE,.addr 1848),(qF,.addr 1889),(sw,.addr 1915),(sx,.addr 1941),(sy,.addr 2011),(uH,.addr 2054),(uI,.addr 2097),(uJ,.addr 2131),(yE,.addr 2174),(lQ,.addr 2210),(yF,.addr 2246),(AH,.addr 2289),(sA,.addr 2332),(sD,.addr 2358),(jw,(.int 258)),(jx,(.int 2))]
noncomputable def Qv:List Nat:=[26,31,818,876,958,967,1091,1124,1164,1223,1289,1343,1369,1404,1423,1449,1498,1547,1588,1637,1678,1719,1760,1809,1848,1889,1915,1941,1968,2011,2054,2097,2131,2174,2210,2246,2289,2332,2358,2367,2374,2379,2384,2389,2394,2399,2406,2413]
noncomputable def ab6:IsT:=[(958,[(958,true),(1289,false),(1968,false)]),(1091,[(958,false),(1289,false),(1968,false)]),(1124,[(958,false),(1289,false),(1968,false)]),(1164,[(958,false),(1289,false),(1968,false)]),(1223,[(958,false),(1289,false),(1968,false)])]
noncomputable def EQ:List (Nat×Bool):=[(1343,false),(1369,false),(1404,false),(1423,false),(1449,false),(1498,false),(1547,false),(1588,false),(1637,false),(1678,false),(1719,false),(1760,false),(1809,false),(1848,false),(1889,false),(1915,false),(1941,false),(2011,true),(2054,true),(2097,true),(2131,true),(2174,true),(2210,true),(2246,true),(2289,true),(2332,true),(2358,true)]
noncomputable def ab7:List Nat:=[958]
noncomputable def nmT:List (Nat×Str):=[(2011,⟨⟨[65]⟩⟩),(2054,⟨⟨[83]⟩⟩),(2097,⟨⟨[67]⟩⟩),(2131,⟨⟨[84]⟩⟩),(2174,⟨⟨[68]⟩⟩),(2210,⟨⟨[86]⟩⟩),(2246,⟨⟨[74]⟩⟩),(2289,⟨⟨[78]⟩⟩),(2332,⟨⟨[76]⟩⟩),(2358,⟨⟨[85]⟩⟩)]
noncomputable def ab8:List (Nat×List (Nat×Nat)):=[(1394,[(1404,1253),(1423,1253)]),(1475,[(1498,1253)]),(1530,[(1547,1253)]),(1579,[(1588,1253)]),(1628,[(1637,1253)]),(1669,[(1678,1253)]),(1710,[(1719,1253)]),(1751,[(1760,1253)]),(1792,[(1809,1253)]),(1839,[(1848,1253)]),(1886,[(1889,1253)]),(2000,[(2011,1253)]),(2043,[(2054,1253)]),(2086,[(2097,1253)]),(2163,[(2174,1253)]),(2199,[(2210,1253)]),(2235,[(2246,1253)]),(2278,[(2289,1253)]),(2321,[(2332,1253),(2358,1253)])]
noncomputable def Z0:List (Nat×Nat):=[(958,891),(1091,989),(1124,989),(1164,1140),(1223,1180),(1343,1239),(1369,1239),(1404,1239),(1423,1239),(1449,1239),(1498,1239),(1547,1239),(1588,1239),(1637,1239),(1678,1239),(1719,1239),(1760,1239),(1809,1239),(1848,1239),(1889,1866),(1915,1239),(1941,1239),(2011,1239),(2054,1239),(2097,1239),(2131,1239),(2174,1239),(2210,1239),(2246,1239),(2289,1239),(2332,1239),(2358,1239)]
noncomputable def Qw:Nat:=1289
noncomputable def Qx:Nat:=1968
noncomputable def AJ:Nat:=818
noncomputable def aex:Nat:=26
noncomputable def YT:Nat:=31
noncomputable def ut:Nat:=876
noncomputable def Zr:Nat:=967
noncomputable def Q5:Nat:=2367
noncomputable def b6:Nat:=2374
noncomputable def fE:Nat:=2379
noncomputable def io:Nat:=2384
noncomputable def Q6:Nat:=2389
noncomputable def YU:Nat:=2394
noncomputable def aH:Nat:=2399
noncomputable def bV:Nat:=2406
noncomputable def bv:Nat:=2413
noncomputable def sE:Nat:=2418
noncomputable def bH:Nat:=958
noncomputable def AK:Nat:=1091
noncomputable def ig:Nat:=1124
noncomputable def iF:Nat:=1164
noncomputable def nA:Nat:=1223
noncomputable def ahx:Nat:=1343
noncomputable def ahy:Nat:=1369
noncomputable def X_:Nat:=1404
noncomputable def Yb:Nat:=1423
noncomputable def jo:Nat:=1449
noncomputable def CD:Nat:=1498
noncomputable def Qy:Nat:=1547
noncomputable def Qz:Nat:=1588
noncomputable def QA:Nat:=1637
noncomputable def ab9:Nat:=1678
noncomputable def aca:Nat:=1719
noncomputable def acb:Nat:=1760
noncomputable def acd:Nat:=1809
noncomputable def xT:Nat:=1848
noncomputable def dJ:Nat:=1889
noncomputable def cPk:Nat:=1915
noncomputable def ahz:Nat:=1941
noncomputable def cA:Nat:=2011
noncomputable def cS:Nat:=2054
noncomputable def cC:Nat:=2097
noncomputable def cT:Nat:=2131
noncomputable def cD:Nat:=2174
noncomputable def cV:Nat:=2210
noncomputable def cJ:Nat:=2246
noncomputable def cN:Nat:=2289
noncomputable def cL:Nat:=2332
noncomputable def cU:Nat:=2358
def tr1(P:Params):BT:=ny 13 (Zb P)
theorem lZ{l:Frag}{a:Nat}{o:Obj}:l.lookup a=some o->(a,o)∈l:=by induction l with
 |nil=>exact λh=>nomatch h|cons p r ih=>
  intro h
  obtain⟨b,q⟩:=p
  rw[List.lookup_cons]at h
  cases e:a==b with
  |true=>rw[e]at h;exact Option.some.inj h▸eq_of_beq e▸.head _|false=>rw[e]at h;exact .tail _ (ih h)
theorem ai{α β:Type}{f g:α->β}{l:List α}:l.map f=l.map g->∀x∈l,f x=g x:=by induction l with
 |nil=>exact λ_ x m=>nomatch m|cons a r ih=>exact λh=>aq (List.cons.inj h).1 (ih (List.cons.inj h).2)
theorem adx(P:Params):(K1 P).map (λp=>(tr1 P).get p.1)=(K1 P).map (λp=>some p.2):=by kernel_rfl
theorem ady(P:Params):((K1 P).all λp=>Nat.blt p.1 2419&&!p.2.isFreed)=true:=by kernel_rfl
theorem CE{t:BT}{n:Nat}{f:Life}{a:Addr}{o:Obj}(uR:Nat.blt a n=true)(h1:t.get a=some o)(h2:o.isFreed=false):(absHeap t n f).get? a=some o:=Heap.get?_some_iff.mpr ⟨(absHeap_at ..).trans ((if_pos ((iff_of_eq Nat.blt_eq).mp uR)).trans (congrArg (λo:Option Obj=>some (o.getD _)) h1)),h2⟩
theorem adz{K:Frag}{t:BT}{n:Nat}{f:Life}(h1:K.map (λp=>t.get p.1)=K.map (λp=>some p.2))(h2:(K.all λp=>Nat.blt p.1 n&&!p.2.isFreed)=true):K.In (absHeap t n f):=λa o e=>η (List.all_eq_true.mp h2 _ (lZ e)) λh3 h4=>CE h3 (ai h1 _ (lZ e)) (aP h4)
theorem Yc{P:Params}{a:Addr}{o:Obj}(uR:Nat.blt a 2419=true)(h1:(tr1 P).get a=some o)(h2:o.isFreed=false):(H1 P).get? a=some o:=CE uR h1 h2
theorem wU(P:Params):(K1 P).In (H1 P):=adz (adx P) (ady P)
theorem adA(P:Params):fnL.all (Je (K1 P))=true:=by kernel_rfl
theorem QB(P:Params):wS (K1 P) atT=true:=by kernel_rfl
theorem adB(P:Params):Jf atT EQ=true:=by kernel_rfl
theorem adC(P:Params):Jg (K1 P) glT=true:=by kernel_rfl
theorem Hc(P:Params):(Qv.all λa=>keepIn (K1 P) (.ref a))=true:=by kernel_rfl
theorem Yd(P:Params):(ab7.all λa=>Cs (K1 P) a)=true:=by kernel_rfl
theorem adD(P:Params):(nmT.all λa=>xR (K1 P) a.1 a.2)=true:=by kernel_rfl
theorem adE(P:Params):(Z0.all λa=>Jj (K1 P) a.1 a.2)=true:=by kernel_rfl
theorem Ye(P:Params):(ab8.all λa=>a.2.all λb=>vD (K1 P) prog.main.file a.1 b.1 b.2 (Str.ofString "verify"))=true:=by kernel_rfl
theorem Hd(P:Params):xS (K1 P) prog=true:=by kernel_rfl
theorem adF(P:Params):Jh (K1 P) ab6 Qw Qx EQ=true:=by kernel_rfl
theorem Yg(P:Params):(nsOkIn (K1 P) cStatics&&qQ (nsIn (K1 P) cStatics "sys.recursionlimit") none)=true:=by kernel_rfl
theorem Yh(P:Params):(((tr1 P).get sysModules).map λo=>o.isFreed)=some false:=by kernel_rfl
theorem Yi(P:Params):(H1 P).NoLimit:=η (Yg P) λh1 h2=>have n1:=Heap.Ns.of_isNs (isNs_of_in (wU P) h1)
 ⟨_,n1,ns_none_of (wU P) n1 (bT h2)⟩
theorem Yj(P:Params):∃o,(H1 P).get? sysModules=some o:=(Option.map_eq_some_iff.mp (Yh P)).imp λo h=>Yc rfl h.1 h.2
def W1(w:World)(S:ay)(hS:S.Ok):aE where
 prog:=prog
 w:=w
 K:=K1 w.params
 top:=H1 w.params
 exc:=AJ
 μ:=jb atT
 jD:=iL EQ
 S:=S
 w8:=wU w.params
 lim:=Yi w.params
 uN:=hS
 sys:=Yj w.params
def yW(P:Params)(f:Nat):Option kK:=bif cr f fnL then fnOf (K1 P) f else none
def G0(P:Params)(col:Nat->Bool)(res:List ((Nat×Nat×Nat)×Int))(uU:Nat->Nat->List XV->List (Str×XV)->Option XV):fj:=⟨glT,atT,Qv,yW P,ab6,Qw,Qx,ab7,nmT,col,res,uU⟩
theorem ij{w:World}{S:ay}{hS:S.Ok}{f:Nat}{ft:kK}(h:yW w.params f=some ft):fq (W1 w S hS) f ft:=ξ h λc h=>zG (W:=W1 w S hS) (List.all_eq_true.mp (adA w.params) f (dw c)) h
theorem nB(w:World)(S:ay)(hS:S.Ok){uU}(ho:g9 (W1 w S hS) uU):bM (W1 w S hS) (G0 w.params S.colon S.res uU)where
 gl:=G9 (W:=W1 w S hS) (adC w.params)
 at_:=G8 (W:=W1 w S hS) rfl rfl (QB w.params) (adB w.params)
 keep:=λa h=>List.all_eq_true.mp (Hc w.params) a (dw h)
 Be:=Eg (W:=W1 w S hS) (QB w.params)
 fn:=λf ft h=>ij h
 is:=G_ (W:=W1 w S hS) rfl (adF w.params)
 has:=λC m=>zK (W:=W1 w S hS) (List.all_eq_true.mp (Yd w.params) C m)
 nm:=λa n h=>wq (W:=W1 w S hS) (List.all_eq_true.mp (adD w.params) (a,n) (cI h))
 col:=rfl
 res:=rfl
 uU:=ho
theorem nX(W:aE):g9 W λ_ _ _ _=>none:=λd f ms ks m h=>ζ h
theorem Wx(w:World)(S:ay)(hS:S.Ok):cK (W1 w S hS):=⟨by kernel_rfl,by kernel_rfl,by kernel_rfl,by kernel_rfl,by kernel_rfl⟩
theorem Bw(w:World)(S:ay)(hS:S.Ok):sm (W1 w S hS):=wt (W:=W1 w S hS) (Hd w.params)
def FC(f C:Nat):Option Nat:=(iL ab8 f).bind λl=>iL l C
theorem CG(w:World)(S:ay)(hS:S.Ok){col res uU}:Bg (W1 w S hS) (G0 w.params col res uU) FC:=λf C f2 ft h e=>O h λl h1 h2=>qq (W:=W1 w S hS) (List.all_eq_true.mp (List.all_eq_true.mp (Ye w.params) (f,l) (cI h1)) (C,f2) (cI h2)) (ξ (show yW w.params f=some ft from e) λ_ h=>h)
theorem mk1(w:World)(S:ay)(hS:S.Ok){C f:Nat}(h:(C,f)∈Z0):q8 (W1 w S hS) C f:=Ei (W:=W1 w S hS) (List.all_eq_true.mp (adE w.params) (C,f) h)
noncomputable def QC(k:uQ):Bool:=k.casesOn true (λ_=>false) (λ_ _=>false) λ_ _=>false
def adG(K:Frag)(T:iZ):Bool:=T.all λp=>p.2.all λq=>!QC q.2||qQ (takerIn K p.1 q.1) none
theorem adH(P:Params):adG (K1 P) atT=true:=by kernel_rfl
def iP(C:Nat)(n:Str):Bool:=(lF atT C n).elim false QC
theorem ei{w:World}{S:ay}{hS:S.Ok}{C:Nat}(n:Str)(h:iP C n=true):takerIn (W1 w S hS).K C n=some none:=ac h λk e c=>O e λl e1 e2=>bT ((Bool.or_eq_true_iff.mp (List.all_eq_true.mp (List.all_eq_true.mp (adH w.params) (C,l) (cI e1)) (n,k) (nq e2))).resolve_left λz=>Bool.noConfusion ((aP z).symm.trans c))
noncomputable def lu:Str:=Str.ofString "self"
def fz(P:Params)(col:Nat->Bool)(res:List ((Nat×Nat×Nat)×Int))(n d:Nat)(take:Str->Bool)(C f a:Nat)(ms:List XV)(ks:List (Str×XV)):Option (List (Str×XV)×Option XV):=(yW P f).bind λft=>(ft.bind (.ip (.ref a)::ms) ks).bind λρ=>bif bp ft.names ρ&&fg ⟨ft.names⟩ lu then(iO (run (G0 P col res λ_ _ _ _=>none) n) take d ⟨ft.names⟩ C ρ ft.body []).map λfs=>(fs,lk ρ lu)else none
structure adI(P:Params)(col:Nat->Bool)(res:List ((Nat×Nat×Nat)×Int))(n d:Nat)(take:Str->Bool)(C a:Nat)(ms:List XV)(ks fs:List (Str×XV))(ft:kK)(ρ:au):Prop where
 b:ft.bind (.ip (.ref a)::ms) ks=some ρ
 l:bp ft.names ρ=true
 s:lk ft.names lu=some .local
 e:iO (run (G0 P col res λ_ _ _ _=>none) n) take d ⟨ft.names⟩ C ρ ft.body []=some fs
 v:lk ρ lu=some (.ip (.ref a))
theorem gd(w:World)(S:ay)(hS:S.Ok){n d C f:Nat}{ms:List XV}{ks:List (Str×XV)}{fs:List (Str×XV)}{take:Str->Bool}(hm:(C,f)∈Z0)(TK:∀n,take n=true->takerIn (W1 w S hS).K C n=some none)(e:∀a,fz w.params S.colon S.res n d take C f a ms ks=some (fs,some (.ip (.ref a)))){A:Around}{vol:List Addr}{s:Shared}{vs:List Value}{kws:List (Str×Value)}(I:Inv (W1 w S hS) vol s)(R:ψ A (d+2))(hv:Ξ (W1 w S hS) (vis vol s.heap) ms vs)(hk:aY (W1 w S hS) (vis vol s.heap) ks kws):aM (W1 w S hS) A vol (.call (.ref C) ⟨vs,kws⟩) (.obj C fs) s:=by
 refine O (e 0) λft h1 _=>?_
 have key:∀a,∃ρ,adI w.params S.colon S.res n d take C a ms ks fs ft ρ:=λa=>O (e a) λft' h1' h=>by
  cases Option.some.inj (h1.symm.trans h1')
  exact O h λρ h2 h=>ξ h λc h=>η c λc1 c2=>O (Option.map_eq_bind.symm.trans h) λY1 h3 h4=>⟨ρ,h2,c1,et c2,h3.trans (congrArg some (Prod.mk.inj (Option.some.inj h4)).1),(Prod.mk.inj (Option.some.inj h4)).2⟩
 exact ade (ρ:=λa=>(key a).choose) (nx (nB w S hS (nX _)) n) (mk1 w S hS hm) (ij h1) TK R (λa=>(key a).choose_spec.b) (λa=>(key a).choose_spec.l) (λa=>(key a).choose_spec.e) (λa=>(key a).choose_spec.v) (key 0).choose_spec.s I hv hk
def lw(n:Str):Bool:=Fast.sEq n aW||Fast.sEq n a_
def QD:List Nat:=[ahx,ahy,X_,Yb,jo,CD,Qy,Qz,QA,ab9,aca,acb,acd,xT,cPk,ahz,cA,cS,cC,cT,cD,cV,cJ,cN,cL,cU]
section
variable(P:Params)(col:Nat->Bool)(res:List ((Nat×Nat×Nat)×Int))(a:Nat)
theorem Yk(m:XV):fz P col res 20 12 (iP iF) iF 1140 a [m] []=some ([(yA,m)],some (.ip (.ref a))):=by kernel_rfl
theorem Yl(m:XV):fz P col res 20 12 (iP bH) bH 891 a [m] []=some ([(mL,m),(lN,.bool true)],some (.ip (.ref a))):=by kernel_rfl
theorem Ym(x y:XV)(t:Bool):fz P col res 20 12 (iP AK) AK 989 a [.obj bH [(mL,x),(lN,y)],.none,.none,.bool t] []=some ([(uF,.none),(su,.obj bH [(mL,x),(lN,y)]),(a_,.bool t),(uG,.bool false),(yz,.none)],some (.ip (.ref a))):=by kernel_rfl
theorem He(x:Tx)(t:Bool):fz P col res 20 12 (iP ig) ig 989 a [.str x,.none,.none,.bool t] []=some ([(uF,.none),(su,.str x),(a_,.bool t),(uG,.bool false),(yz,.none)],some (.ip (.ref a))):=by kernel_rfl
theorem adJ(C:Nat)(m t:XV):fz P col res 20 12 lw C 1239 a [m] [(a_,t)]=some ([(aW,.tuple [m]),(a_,t)],some (.ip (.ref a))):=by kernel_rfl
theorem adK(C:Nat)(m n t:XV):fz P col res 20 12 lw C 1239 a [m,n] [(a_,t)]=some ([(aW,.tuple [m,n]),(a_,t)],some (.ip (.ref a))):=by kernel_rfl
theorem adL(C:Nat)(m n o t:XV):fz P col res 20 12 lw C 1239 a [m,n,o] [(a_,t)]=some ([(aW,.tuple [m,n,o]),(a_,t)],some (.ip (.ref a))):=by kernel_rfl
theorem adM(C:Nat)(m n o p t:XV):fz P col res 20 12 lw C 1239 a [m,n,o,p] [(a_,t)]=some ([(aW,.tuple [m,n,o,p]),(a_,t)],some (.ip (.ref a))):=by kernel_rfl
noncomputable def By:List Nat:=[52,51,52,51,52,51,52,51,52,51,52,51,52,51,52,51,52,51,52,51,52,51,52,51,52,51,52,51,52,51,52,51,52,51,52,51,52,51,52,51,52,51,52,51,52,51,52,51,52,51,52,51,52,51,52,51,52,51,52,51,52,51,52,51]
noncomputable def ace:List UInt8:=[67,67,67,67,67,67,67,67,67,67,67,67,67,67,67,67,67,67,67,67,67,67,67,67,67,67,67,67,67,67,67,67]
theorem Yn:fz P col res 40 20 (iP nA) nA 1180 a [.str [.lit By]] []=some ([(AE,.bytes [.lit ace])],some (.ip (.ref a))):=by kernel_rfl
end
def QE(m:XV):Option (Nat×Bool):=((Ab m).bind jt).bind λp=>two (((dK p.1).bind aF).bind one) (Aa p.2) λc b=>some (c,b)
noncomputable def rowsOf:List XV->Option (List (Nat×Bool))
 |[]=>some []|m::r=>two (QE m) (rowsOf r) λp q=>some (p::q)
noncomputable def ahA(c:Nat)(b:Bool)(l:Ls):Ls:=bif Nat.beq c 122 then{l with z:=b}else bif Nat.beq c 111 then{l with o:=b}else bif Nat.beq c 110 then{l with n:=b}else bif Nat.beq c 100 then{l with d:=b}else bif Nat.beq c 117 then{l with u:=b}else l
noncomputable def ri:List (Nat×Bool)->Ls->Ls
 |[],l=>l|p::r,l=>ri r (ahA p.1 p.2 l)
noncomputable def hG(p:Nat×Bool):XV:=.tuple [.str [.lit [p.1]],.bool p.2]
theorem adN{W:aE}{h:Heap}{m:XV}{p:Nat×Bool}{v:Value}(e:QE m=some p)(x:ω W h m v):ω W h (hG p) v:=O e λq e1 e=>O e1 λl e2 e3=>cO (P:=λv=>ω W h (hG p) v) (lq e2 x) λa vs h1 h2=>π e λc b e4 e5 e=>by
 cases e
 exact gj (P:=λvs=>h.get? a=some (dH vs)->ω W h (hG (c,b)) (.ref a)) e3 h2 (λu w w1 w2 h1=>fW.mpr ⟨a,_,rfl,h1,Δ (O e4 λl e6 e7=>lD (P:=λu=>ω W h (.str [.lit [c]]) u) e6 w1 λt=>Ci e7▸jr (congrArg aD (List.append_nil _))) (Δ (pI e5 w2) aC)⟩) h1
theorem Yo{W:aE}{h:Heap}{rows:List XV}:∀{l:List (Nat×Bool)}{vs:List Value},rowsOf rows=some l->Ξ W h rows vs->Ξ W h (l.map hG) vs:=by induction rows with
 |nil=>exact λ{l vs}e x=>θ (P:=λl:List (Nat×Bool)=>Ξ W h (l.map hG) vs) e x|cons m r ih=>exact λ{l vs}e x=>π e λp q e1 e2 e=>θ (P:=λl:List (Nat×Bool)=>Ξ W h (l.map hG) vs) e (am x λv vs h1 h2=>Δ (adN e1 h1) (ih e2 h2))
noncomputable def Wy:List (List Nat):=[[122,111,117,100],[122,111,110,117,100],[122,111,100,117],[111,117,100],[100,117],[122,111,110,100,117]]
noncomputable def sR:Ls:=⟨false,false,false,false,false⟩
def QF(P:Params)(col:Nat->Bool)(res:List ((Nat×Nat×Nat)×Int))(rows:List XV):Option Ls:=((run (G0 P col res λ_ _ _ _=>none) 30).call 20 fE [.list rows] []).bind eQ
noncomputable def bD:Nat->List (List Bool)
 |0=>[[]]|n+1=>(bD n).map (true::·)++(bD n).map (false::·)
theorem aO(bs:List Bool):bs∈bD bs.length:=by induction bs with
 |nil=>exact .head _|cons b r ih=>cases b with
  |true=>exact List.mem_append_left _ (List.mem_map_of_mem ih)|false=>exact List.mem_append_right _ (List.mem_map_of_mem ih)
def xU:List (List (Nat×Bool)):=Wy.flatMap λs=>(bD s.length).map s.zip
theorem uq(P:Params)(col:Nat->Bool)(res:List ((Nat×Nat×Nat)×Int)):xU.map (λl=>QF P col res (l.map hG))=xU.map λl=>some (ri l sR):=by kernel_rfl
theorem Ek{a:List Nat}{l:List (List Nat)}:yb a l=true->a∈l:=by induction l with
 |nil=>exact υ|cons x r ih=>exact λh=>(Bool.or_eq_true_iff.mp h).elim (λh=>dY h▸.head _) λh=>.tail _ (ih h)
theorem Yp{α β:Type}{l:List (α×β)}:(l.map (·.1)).zip (l.map (·.2))=l:=by induction l with
 |nil=>rfl|cons p r ih=>exact congrArg (p::·) ih
theorem Hf(P:Params)(col:Nat->Bool)(res:List ((Nat×Nat×Nat)×Int)){l:List (Nat×Bool)}(h:yb (l.map (·.1)) Wy=true):QF P col res (l.map hG)=some (ri l sR):=ai (uq P col res) l (List.mem_flatMap.mpr ⟨_,Ek h,List.mem_map.mpr ⟨l.map (·.2),(List.length_map ..).trans (List.length_map ..).symm▸aO _,Yp⟩⟩)
def acf(ms:List XV)(ks:List (Str×XV)):Option XV:=bif ak ks then(((cQ ms).bind qN).bind rowsOf).bind λl=>bif yb (l.map (·.1)) Wy then some (.dD (ri l sR))else none else none
theorem Hg(w:World)(S:ay)(hS:S.Ok){ms:List XV}{ks:List (Str×XV)}{m:XV}(h:acf ms ks=some m){A:Around}{vol:List Addr}{s:Shared}{vs:List Value}{kws:List (Str×Value)}(I:Inv (W1 w S hS) vol s)(R:ψ A 20)(hv:Ξ (W1 w S hS) (vis vol s.heap) ms vs)(hk:aY (W1 w S hS) (vis vol s.heap) ks kws):aM (W1 w S hS) A vol (.call (.ref fE) ⟨vs,kws⟩) m s:=by
 refine ξ h λc0 h=>O h λl e1 h=>ξ h λc hm=>?_
 cases nil_of c0
 cases hm
 refine O e1 λrows e2 e3=>O e2 λo e4 e5=>O (Hf w.params S.colon S.res c) λm' q1 q2=>?_
 have Rg:Ξ (W1 w S hS) (vis vol s.heap) [.list (l.map hG)] vs:=iE (P:=λvs=>Ξ (W1 w S hS) (vis vol s.heap) [.list (l.map hG)] vs) e4 hv λu hu=>Δ (bq (P:=λu=>ω (W1 w S hS) (vis vol s.heap) (.list (l.map hG)) u) (cX e5 hu) λa vs n h1 h2=>⟨a,vs,n,rfl,h1,Yo e3 h2⟩) aC
 exact λRR k=>(nx (nB w S hS (nX _)) 30).call q1 I R Rg hk RR λv s' a b=>k v s' (gi q2 a) b
noncomputable def mr(a:XV):Bool:=a.casesOn true (λ_=>false) (λ_=>false) (λ_ _=>false) (λ_=>false) (λ_ _=>false) (λ_=>false) (λ_=>false) (λ_=>false) (λ_=>false) (λ_=>false) (λ_=>false) (λ_ _=>false) (λ_=>false) (λ_=>false) (λ_=>false) (λ_=>false) (λ_=>false) (λ_=>false) (λ_=>false) (λ_=>false) false
theorem jk{a:XV}:mr a=true->a=.none:=by cases a with
 |none=>exact λ_=>rfl|_=>exact υ
def QG(fs:List (Str×XV)):Option (XV×XV):=(jt fs).bind λp=>bif Fast.sEq p.1.1 mL&&Fast.sEq p.2.1 lN then some (p.1.2,p.2.2)else none
theorem El{fs:List (Str×XV)}{q}(e:QG fs=some q):fs=[(mL,q.1),(lN,q.2)]:=O e λp e1 e=>Φ (P:=λq:XV×XV=>fs=[(mL,q.1),(lN,q.2)]) e λc=>η c λa b=>(mf e1).trans (by rw[<-aA a,<-aA b])
def acg(C:Nat)(k:XV)(t:Bool):XV:=.obj C [(uF,.none),(su,k),(a_,.bool t),(uG,.bool false),(yz,.none)]
def Wz(ms:List XV):Option (XV×Bool):=ms.casesOn none λk r=>r.casesOn none λx r=>(jt r).bind λp=>bif mr x&&mr p.1 then(Aa p.2).map λb=>(k,b)else none
theorem CH{W:aE}{h:Heap}{ms:List XV}{q:XV×Bool}{vs:List Value}(e:Wz ms=some q)(x:Ξ W h ms vs):Ξ W h [q.1,.none,.none,.bool q.2] vs:=by cases ms with
 |nil=>exact ζ e|cons m r=>cases r with
  |nil=>exact ζ e|cons n r=>exact O e λp e1 e=>ξ e λc e=>η c λc1 c2=>χ (P:=λq:XV×Bool=>Ξ W h [q.1,.none,.none,.bool q.2] vs) e λb e2=>am x λu vs w1 w=>am w λu2 vs w2 w=>gj (P:=λvs=>Ξ W h [m,.none,.none,.bool b] (u::u2::vs)) e1 w λu3 u4 w3 w4=>Δ w1 (Δ (jk c1▸w2) (Δ (jk c2▸w3) (Δ (pI e2 w4) aC)))
def ahB(ms:List XV):Option XV:=(cQ ms).map λm=>.obj iF [(yA,m)]
def ahC(ms:List XV):Option XV:=(cQ ms).map λm=>.obj bH [(mL,m),(lN,.bool true)]
def ahD(ms:List XV):Option XV:=(Wz ms).bind λq=>(gN q.1).bind λp=>bif Nat.beq p.1 bH then(QG p.2).map λ_=>acg AK q.1 q.2 else none
def adO(ms:List XV):Option XV:=(Wz ms).bind λq=>(dK q.1).map λx=>acg ig (.str x) q.2
def ahE(ms:List XV):Option XV:=(((cQ ms).bind dK).bind aF).bind λl=>bif dk l By then some (.obj nA [(AE,.bytes [.lit ace])])else none
def adP(C:Nat)(ms:List XV)(t:XV):XV:=.obj C [(aW,.tuple ms),(a_,t)]
def adQ(ks:List (Str×XV)):Option XV:=(cQ ks).bind λp=>bif Fast.sEq p.1 a_ then some p.2 else none
def adR(C:Nat)(ms:List XV)(ks:List (Str×XV)):Option XV:=bif Nat.ble 1 ms.length&&Nat.ble ms.length 4 then(adQ ks).map (adP C ms)else none
def adS(C:Nat)(ms:List XV):Option XV:=bif Nat.beq C iF then ahB ms else bif Nat.beq C bH then ahC ms else bif Nat.beq C AK then ahD ms else bif Nat.beq C ig then adO ms else bif Nat.beq C nA then ahE ms else none
def ach(C:Nat)(ms:List XV)(ks:List (Str×XV)):Option XV:=bif cr C QD then adR C ms ks else bif ak ks then adS C ms else none
theorem tW{w:World}{S:ay}{hS:S.Ok}{C:Nat}(h1:iP C aW=true)(h2:iP C a_=true)(n:Str)(h:lw n=true):takerIn (W1 w S hS).K C n=some none:=(Bool.or_eq_true_iff.mp h).elim (λh=>aA h▸ei _ h1) λh=>aA h▸ei _ h2
def aci(C f:Nat):Bool:=Z0.any λp=>Nat.beq p.1 C&&Nat.beq p.2 f
theorem ej{C f:Nat}(h:aci C f=true):(C,f)∈Z0:=(List.any_eq_true.mp h).elim λp y=>η y.2 λa b=>Nat.eq_of_beq_eq_true a▸Nat.eq_of_beq_eq_true b▸y.1
theorem Hh:(QD.all λC=>iP C aW&&(iP C a_&&aci C 1239))=true:=by kernel_rfl
section
variable(w:World)(S:ay)(hS:S.Ok)
theorem Hi{C:Nat}{ms:List XV}{ks:List (Str×XV)}{m:XV}(h:ach C ms ks=some m){A:Around}{vol:List Addr}{s:Shared}{vs:List Value}{kws:List (Str×Value)}(I:Inv (W1 w S hS) vol s)(R:ψ A 22)(hv:Ξ (W1 w S hS) (vis vol s.heap) ms vs)(hk:aY (W1 w S hS) (vis vol s.heap) ks kws):aM (W1 w S hS) A vol (.call (.ref C) ⟨vs,kws⟩) m s:=by
  have Ii:ψ A (12+2):=R.le (by decide)
  have go:∀{D:Nat}{a b:Option XV}{P:Prop},(bif Nat.beq C D then a else b)=some m->(C=D->a=some m->P)->(b=some m->P)->P:=λh k l=>a9 h (λc e=>k (Nat.eq_of_beq_eq_true c) e) λ_ e=>l e
  refine a9 h (λc h=>ξ h λcl h=>?_) λ_ h=>ξ h λc0 h=>?_
  · refine χ (P:=λm=>aM (W1 w S hS) A vol (.call (.ref C) ⟨vs,kws⟩) m s) h λt h1=>O h1 λp h2 h3=>ξ h3 λc2 h3=>η (List.all_eq_true.mp Hh C (dw c)) λt1 y=>η y λt2 y=>?_
    have TK:=tW (w:=w) (S:=S) (hS:=hS) t1 t2
    have mk:=ej y
    obtain⟨k,t'⟩:=p
    cases bX h2
    cases(show t'=t from Option.some.inj h3)
    cases(show k=a_ from aA c2)
    cases ms with
|nil=>exact η cl λz _=>υ z|cons a r=>cases r with
|nil=>exact gd w S hS mk TK (λa=>adJ w.params S.colon S.res a C _ _) I Ii hv hk|cons b r=>cases r with
|nil=>exact gd w S hS mk TK (λa=>adK w.params S.colon S.res a C _ _ _) I Ii hv hk|cons c r=>cases r with
|nil=>exact gd w S hS mk TK (λa=>adL w.params S.colon S.res a C _ _ _ _) I Ii hv hk|cons d r=>cases r with
|nil=>exact gd w S hS mk TK (λa=>adM w.params S.colon S.res a C _ _ _ _ _) I Ii hv hk|cons e r=>exact η cl λ_ z=>υ z
  · cases nil_of c0
    refine go h (λz e=>z▸χ (P:=λm=>aM (W1 w S hS) A vol (.call (.ref iF) ⟨vs,kws⟩) m s) e λx e1=>gd w S hS (ej (by decide+kernel)) ei (λa=>Yk w.params S.colon S.res a x) I Ii (fh e1 id hv) hk) λh=>go h (λz e=>z▸χ (P:=λm=>aM (W1 w S hS) A vol (.call (.ref bH) ⟨vs,kws⟩) m s) e λx e1=>gd w S hS (ej (by decide+kernel)) ei (λa=>Yl w.params S.colon S.res a x) I Ii (fh e1 id hv) hk) λh=>go h (λz e=>z▸O e λq e1 e=>O e λp e2 e=>ξ e λcp e=>χ (P:=λm=>aM (W1 w S hS) A vol (.call (.ref AK) ⟨vs,kws⟩) m s) e λxy e3=>?_) λh=>go h (λz e=>z▸O e λq e1 e=>χ (P:=λm=>aM (W1 w S hS) A vol (.call (.ref ig) ⟨vs,kws⟩) m s) e λx e2=>gd w S hS (ej (by decide+kernel)) ei (λa=>He w.params S.colon S.res a x q.2) I Ii (am (P:=λvs=>Ξ (W1 w S hS) (vis vol s.heap) [.str x,.none,.none,.bool q.2] vs) (CH e1 hv) λv vs w1 w2=>Δ (hW e2 w1) w2) hk) λh=>go h (λz e=>z▸O e λl e1 e=>Φ (P:=λm=>aM (W1 w S hS) A vol (.call (.ref nA) ⟨vs,kws⟩) m s) e λc=>O e1 λx e2 e3=>O e2 λo e4 e5=>gd w S hS (ej (by decide+kernel)) ei (λa=>Yn w.params S.colon S.res a) I R (fh e4 (λhx=>d9 (P:=λv=>ω (W1 w S hS) _ (.str [.lit By]) v) e5 hx λt=>jr ((congrArg aD (List.append_nil _)).trans (congrArg aD ((dY c).symm.trans (aJ e3).symm)))) hv) hk) λh=>ζ h
    have Rg:=CH e1 hv
    obtain⟨k,t⟩:=q
    have hz:k=.obj bH [(mL,xy.1),(lN,xy.2)]:=am (P:=λ_=>k=.obj bH [(mL,xy.1),(lN,xy.2)]) Rg λv vs w1 w2=>(e_ e2 w1).2.trans (by rw[Nat.eq_of_beq_eq_true cp,El e3])
    subst hz
    exact gd w S hS (ej (by decide+kernel)) ei (λa=>Ym w.params S.colon S.res a _ _ _) I Ii Rg hk
end
section
variable{W:aE}{A:Around}{vol own:List Addr}{s:Shared}{d:Nat}{env:Env}{cx:Cx}{ρ:au}{sv:Sv}
abbrev fC(ep:Nat):Obj:={cls:=.type "dict",dict:=none,data:=.dict #[] ep,slots:=#[]}
theorem wv{o:Obj}(h:o.IsDictOf (strKind W.prog W.w) []):∃ep,o=fC ep:=by
 obtain⟨es,ep,⟨h1,h2,h3⟩,h4,_,h5,_⟩:=h
 obtain⟨c,dd,da,sl⟩:=o
 obtain⟨l⟩:=es
 cases l with
 |nil=>
  cases h1
  cases h2
  cases h3
  cases h4
  exact⟨ep,rfl⟩|cons a r=>exact nomatch h5
theorem Em:isSubtype (.type "dict") (.type "dict")=pure true:=by rw[isSubtype_type];kernel_rfl
theorem mu{d:Addr}{ep:Nat}{E:Value->Shared->Prop}{Q:Array DictEntry->Shared->Prop}(hd:s.heap.get? d=some (fC ep))(q:Q #[] s):wpAny (Md W) A (dictEntries d) Q E s:=wpAny_bind (wpAny_loadPart hd (wpAny_pure q))
theorem tX{β:Type}(b:β)(f:DictEntry->β->Sem (ForInStep β)):forIn (m:=Sem) (#[]:Array DictEntry) b f=pure b:=(Array.forIn_toList ..).symm.trans rfl
theorem ur{D d:Addr}{ep ed:Nat}{E:Value->Shared->Prop}{Q:Unit->Shared->Prop}(hD:s.heap.get? D=some (fC ep))(hd:s.heap.get? d=some (fC ed))(hs:(D==sysModules)=false)(q:Q () s):wpAny (Md W) A (mergeMapping d (.ref D) true) Q E s:=by
 have hT:s.TypeIs (.ref D) "dict":=⟨_,hD,rfl⟩
 refine wpAny_bind (wpAny_isInstance (T:="dict") (b:=true) hT Em (wpAny_ite (KPc.ite_yes rfl (wpAny_bind (wpAny_specialOf hT PySem.F.slot_dict_iter.lookup ?_)))))
 rw[show(some (Value.builtin "dict.__iter__")==some (Value.builtin "dict.__iter__"))=true from beq_self_eq_true _]
 refine wpAny_bind (wpAny_pure (wpAny_ite (KPc.ite_no (λz=>Bool.noConfusion (hs.symm.trans z)) (wpAny_bind (mu hd ?_)))))
 refine wpAny_ite (KPc.ite_yes rfl (wpAny_bind (mu hD (wpAny_bind (wpAny_of_eq (tX _ _) (wpAny_bind (mu hD (wpAny_bind (wpAny_bind (wpAny_loadPart hD (wpAny_pure ?_)))))))))))
 exact wpAny_bind (wpAny_pure (wpAny_pure q))
theorem r9{f:Value}{x:Sem Value}{E:Value->Shared->Prop}{Q:Addr->Shared->Prop}(hx:∀(s':Shared)(E Q:Value->Shared->Prop),Step s s'->(∀D ep dz,Step s' dz->dz.heap.get? D=some (fC ep)->(D==sysModules)=false->Q (.ref D) dz)->wpAny (Md W) A x Q E s')(q:∀d s',Step s s'->s'.heap.get? d=some (fC 0)->Q d s'):wpAny (Md W) A (mergedKeywords f [(none,x)]) Q E s:=by
 have hd:(s.heap.push (fC 0)).get? s.heap.objs.size=some (fC 0):=Heap.get?_push_size _ rfl
 have k1:Step s {s with heap:=s.heap.push (fC 0)}:=Step.push s _
 refine wpAny_bind (wpAny_alloc (wpAny_bind (wpAny_holding (wpAny_bind (wpAny_bind (wpAny_bind (wpAny_pure (wpAny_bind (hx _ _ _ k1 λD ep s2 k2 hD hs=>?_)))))))))
 have hd2:=k2.keep _ _ hd
 exact wpAny_bind (wpAny_onRaise (wpAny_holding (wpAny_tryCatch (wpAny_onRaise (ur hD hd2 hs (wpAny_pure (wpAny_pure (wpAny_pure (wpAny_pure (q _ _ (k1.trans k2) hd2))))))))))
theorem ww{f:Value}{d:Addr}{ed:Nat}{E:Value->Shared->Prop}{Q:List (Str×Value)->Shared->Prop}(hd:s.heap.get? d=some (fC ed))(q:Q [] s):wpAny (Md W) A (keywordsIn f d) Q E s:=wpAny_bind (mu hd (wpAny_bind (wpAny_of_eq (tX _ _) (wpAny_pure q))))
theorem zN(ok:al W sv)(R:ψ A d){q f2:Addr}{self:Value}{ms:List XV}{x y:Expr}{pos:Pos}(X:az W own vol cx ρ env s)(e1:sv.ev d cx ρ x=some (.tuple ms))(e2:sv.ev d cx ρ y=some (.dict []))(hq:MethP W.K q f2 self s.heap)(hf:fnIn W.K f2=true)(hl:ms.length<=100){E Q:Value->Shared->Prop}(k:∀vs s',Step s s'->Ξ W (vis vol s'.heap) ms vs->wpAny (Md W) A (call (.ref q) vs []) Q E s'):wpAny (Md W) A (callWith pos (.ref q) [] [(true,(do let v<-eval x env;standAt pos;pure v))] [(none,(do let v<-eval y env;standAt pos;pure v))]) Q E s:=by
  have ea:wpAny (Md W) A (evalArgs (.ref q) true [(true,(do let v<-eval x env;standAt pos;pure v))] [(none,(do let v<-eval y env;standAt pos;pure v))]) (λ(a:Args)s2=>∃vs,a=⟨vs,[]⟩/\Step s s2/\Ξ W (vis vol s2.heap) ms vs) E s:=by
    refine wpAny_bind (wpAny_bind (ok.ev e1 X R E _ λvt s1 h1 k1=>wpAny_bind (wpAny_standAt (wpAny_pure (wpAny_bind (wpAny_pure ?_))))))
    obtain⟨T,vs,rfl,t1,t2⟩:=fW.mp h1
    have X1:=X.step k1
    refine wpAny_holding (wpAny_bind (r9 (λs' E Q k1 kk=>wpAny_bind (ok.ev e2 (X1.step k1) R E _ λvd s3 h3 k3=>wpAny_bind (wpAny_standAt (wpAny_pure ?_)))) λd s2 k2 hd=>?_))
    · obtain⟨D,o,τ,rfl,d1,d2,d3,d4⟩:=nL.mp h3
      cases(show τ=[]from d4)
      exact(wv d3).elim λep z=>kk D ep s3 k3 ((ι.mp d1).1.trans (congrArg some z)) d2
    · have tup:s2.heap.get? T=some (dH vs):=k2.keep _ _ (ι.mp t1).1
      have hT:s2.TypeIs (.ref T) "tuple":=⟨_,tup,rfl⟩
      refine wpAny_bind (wpAny_bind (wpAny_bind (wpAny_specialOf hT PySem.F.slot_tuple_iter.lookup (wpAny_pure ?_))))
      refine wpAny_ite (KPc.ite_no Bool.false_ne_true (wpAny_holding (wpAny_collect_seq (T:="tuple") T (.inr rfl) tup rfl rfl (λh' hk=>?_) (Nat.le_trans (Nat.le_of_eq t2.len) (Nat.le_trans hl (sizeLine_eq▸by decide))))))
      have k3:Step s2 {s2 with heap:=h'}:=⟨λb o e=>hk b o e,rfl,rfl⟩
      exact wpAny_bind (wpAny_holding (ww (k3.keep _ _ hd) (wpAny_pure ⟨vs,rfl,(k1.trans k2).trans k3,(t2.step k2).step k3⟩)))
  refine wpAny_bind (wpAny_holding (wpAny_mono ea (λa s2 h2=>wpAny_bind (wpAny_standAt ?_)) λ_ _ x=>x))
  obtain⟨vs,rfl,k2,hv⟩:=h2
  obtain⟨kk,hk',L⟩:=keeps_M (M:=Md W) hf s2.heap ⟨k2.keep _ _ hq.1,hq.2.keeps k2.keep⟩
  refine wpAny_bind (L.here ?_)
  have h2:=k vs s2 k2 hv
  have tail:∀{t:Sem Value},wpAny (Md W) A t Q E s2->wpAny (Md W) A (t>>=λr=>holding [r] point>>=λ_=>pure r) Q E s2:=λht=>wpAny_bind (wpAny_mono ht (λr RC hr=>wpAny_bind (wpAny_holding (wpAny_point (wpAny_pure hr)))) λ_ _ x=>x)
  rcases hk' with rfl|rfl|rfl
  ·exact tail (Calls.wpAny_keep h2)
  ·exact tail (wpAny_operating h2)
  ·exact tail (wpAny_operating h2)
end
section
variable{W:aE}{A:Around}{vol own:List Addr}{s:Shared}{d:Nat}{env:Env}{cx:Cx}{ρ:au}{sv:Sv}{C f f2:Addr}{fs EX:List (Str×XV)}
theorem az.perm{v v':List Addr}(h:∀a,a∈v↔a∈v')(X:az W own v cx ρ env s):az W own v' cx ρ env s:=X.moved (dX λa m=>(h a).mpr m) (λa m=>X.inv.vol a ((h a).mpr m)) (λa m=>(h a).mp (X.sub a m)) (λo e=>e) λ_ _ _ o e=>e
theorem En(SW:sm W){f C D f2 a so:Addr}{n:Str}(SF:gk W cx.names f C D f2 n)(XK:W.K.In s.heap)(Ic:s.heap.get? so=some (ks_superObj D a C)){ox:Obj}{ZL:Option Obj}(IA:InstAt s.heap a ox C ZL){E Q:Value->Shared->Prop}(k:∀q s',Step s s'->MethP W.K q f2 (.ref a) s'.heap->Q (.ref q) s'):wpAny (Md W) A (getAttr (.ref so) n true) Q E s:=by
 obtain⟨hh,g,d,t,os⟩:=s
 refine O SF.sup λcd hc hm=>χ (P:=λv=>v=Value.type "function"->_) (show(W.K.lookup f2).map (·.cls)=some (.type "function")from SF.ty) (λof z hof=>?_) rfl
 have hT:∀t',(⟨hh,g,d,t',os⟩:Shared).TypeIs (.ref so) "super":=λ_=>⟨_,Ic,rfl⟩
 refine wpAny_bind (wpAny_mkText (wpAny_holding (wpAny_bind (wpAny_typeOf (hT _) (wpAny_bind (wpAny_of_eq PySem.F.ks_slot_super_ga.lookup ?_))))))
 show wpAny _ _ (getAttrByItsOwn (.ref so) (.str n t) (.type "super") (.builtin "super.__getattribute__") _ _) _ _ _
 refine wpAny_bind (wpAny_of_eq (show(if onTheHeap (.type "super")then typeLookup (.type "super") "__getattr__"else pure none)=pure none from rfl) (wpAny_bind (wpAny_attempt (wpAny_holding ?_))))
 refine wpAny_bind (wpAny_of_eq (PySem.F.ks_slot_super_ga.bind _) ?_)
 refine wpAny_mono (Q:=λv s'=>v=.ref hh.objs.size/\s'=⟨hh.push {cls:=.type "method",data:=.fields #[.ref f2,.ref a]},g,d,t+1,os⟩) (E:=λ_ _=>False) (wpAny_call_entry PySem.F.ks_slot_super_ga (hT _) PySem.F.ks_entry_super_ga (ks_wpAny_super_ga Ic (looks_opaque XK SW.ip) (l₀:=cd.mro) (λA Q E s k q=>wpAny_bind ((looks_clsIn XK hc) A _ E s k (wpAny_pure q))) rfl XK hm (XK _ _ z) hof (ks_ne XK IA hc) SF.hat ⟨_,rfl,rfl,rfl⟩) (PySem.F.ks_gaArgs_super _ _)) (λv s' hv=>?_) λ_ _ z=>z.elim
 obtain⟨rfl,rfl⟩:=hv
 exact wpAny_pure (k _ _ ⟨λb o e=>Heap.get?_push_of_some _ e,rfl,rfl⟩ ⟨Heap.get?_push_size _ rfl,XK.keeps λb o e=>Heap.get?_push_of_some _ e⟩)
noncomputable def CI(k:Keyword):Option Expr:=k.arg.elim (some k.value) λ_=>none
theorem zO{k:Keyword}{y}(e:CI k=some y):∃p,k=⟨none,y,p⟩:=by
 obtain⟨a,v,p⟩:=k
 cases a with
 |none=>exact⟨p,congrArg (λv=>Keyword.mk none v p) (Option.some.inj e)⟩|some _=>exact ζ e
def ahF(e:Expr):Option (Expr×Expr):=e.casesOn (λ_ _ _=>none) (λ_ _ _=>none) (λ_ _ _ _=>none) (λ_ _ _=>none) (λ_ _ _ _=>none) (λ_ _ _ _=>none) (λ_ _ _=>none) (λ_ _ _=>none) (λ_ _ _ _=>none) (λ_ _ _ _=>none) (λ_ _ _ _ _=>none) (λ_ _ _ _=>none) (λ_ _=>none) (λ_ _=>none) (λ_ _=>none) (λ_ _ _ _=>none) (λf es kws _=>(sP f).bind λq=>(dI q.1).bind λc=>bif ak c.2&&(Fast.sEq c.1.1 (Str.ofString "super")&&Fast.sEq q.2.1 (Str.ofString "__init__"))then two ((cQ es).bind i7) ((cQ kws).bind CI) λx y=>some (x,y)else none) (λ_ _ _ _=>none) (λ_ _=>none) (λ_ _ _=>none) (λ_ _ _=>none) (λ_ _ _=>none) (λ_ _=>none) (λ_ _=>none) (λ_ _=>none) (λ_ _ _=>none) (λ_ _ _ _=>none)
def QH(st:Stmt):Option (Expr×Expr):=st.casesOn (λ_ _ _ _ _ _ _ _ _ _=>none) (λ_ _ _ _ _ _ _ _ _ _=>none) (λ_ _ _ _ _ _ _ _ _ _ _=>none) (λ_ _=>none) (λ_ _=>none) (λ_ _ _=>none) (λ_ _ _ _ _ _ _=>none) (λ_ _ _ _=>none) (λ_ _ _ _ _=>none) (λ_ _ _ _ _=>none) (λ_ _ _ _ _=>none) (λ_ _ _ _=>none) (λ_ _ _ _=>none) (λ_ _ _=>none) (λ_ _ _=>none) (λ_ _ _=>none) (λ_ _ _=>none) (λ_ _ _ _ _=>none) (λ_ _ _ _ _=>none) (λ_ _ _=>none) (λ_ _=>none) (λ_ _ _ _=>none) (λ_ _=>none) (λ_ _=>none) (λe _=>ahF e) (λ_=>none) (λ_=>none) (λ_=>none)
inductive rj(x y:Expr):Stmt->Prop|mk(p0 p1 ap p2 p3 pos ps:Pos):rj x y (.Expr (.Call (.Attribute (.Call (.Name (Str.ofString "super") p0) [] [] p1) (Str.ofString "__init__") ap) [.Starred x p2] [⟨none,y,p3⟩] pos) ps)
theorem Eo{st:Stmt}{q:Expr×Expr}:QH st=some q->rj q.1 q.2 st:=by cases st with
 |Expr e ps=>cases e with
  |Call f es kws pos=>
   refine λh=>O h λa h1 h=>O h λc h2 h=>ξ h λk h=>η k λk1 k=>η k λk2 k3=>π h λx y h3 h4 h=>O h3 λs s1 s2=>O h4 λw w1 w2=>(kN s2).elim λp2 z2=>(zO w2).elim λp3 z3=>(dh h2).elim λp1 z1=>?_
   cases h
   rw[bX s1,bX w1,z2,z3,j0 h1,z1,aA k2,aA k3,nil_of k1]
   exact .mk _ _ _ _ _ _ _|_=>exact ζ
 |_=>exact ζ
def vF(b:List Stmt):Option ((Expr×Expr)×List Stmt):=b.casesOn none λst r=>(QH st).map λq=>(q,r)
theorem zP{b:List Stmt}{q}(e:vF b=some q):∃st,b=st::q.2/\rj q.1.1 q.1.2 st:=by cases b with
 |nil=>exact ζ e|cons st r=>exact χ (P:=λq:(Expr×Expr)×List Stmt=>∃Rd,st::r=Rd::q.2/\rj q.1.1 q.1.2 Rd) e λq h=>⟨st,rfl,Eo h⟩
structure CJ(W:aE)(sv:Sv)(take:Str->Bool)(d:Nat)(C a:Addr)(ft EY:kK)(x y:Expr)(rest:List Stmt)(ms:List XV)(EX fs:List (Str×XV))(ρ lB:au):Prop where
 e1:ft.bind (.ip (.ref a)::ms) []=some ρ
 e2:bp ft.names ρ=true
 ex:sv.ev (d+1) ⟨ft.names⟩ ρ x=some (.tuple ms)ey:sv.ev (d+1) ⟨ft.names⟩ ρ y=some (.dict [])i1:EY.bind (.ip (.ref a)::ms) []=some lB
 i2:bp EY.names lB=true
 i3:iO sv take d ⟨EY.names⟩ C lB EY.body []=some EX
 i4:lk lB (Str.ofString "self")=some (.ip (.ref a))i5:lk EY.names (Str.ofString "self")=some .local
 e3:iO sv take (d+1) ⟨ft.names⟩ C ρ rest EX=some fs
 e4:lk ρ (Str.ofString "self")=some (.ip (.ref a))e5:lk ft.names (Str.ofString "self")=some .local
theorem Hj(ok:al W sv)(SW:sm W)(M:q8 W C f){ft EY:kK}(FF:fq W f ft)(FF2:fq W f2 EY){D:Addr}(SF:gk W ft.names f C D f2 (Str.ofString "__init__")){take:Str->Bool}(TK:∀n,take n=true->takerIn W.K C n=some none)(R:ψ A (d+3)){ms:List XV}{q}(hb:vF ft.body=some q)(hl:ms.length<=100)(T:∀a,∃ρ lB,CJ W sv take d C a ft EY q.1.1 q.1.2 q.2 ms EX fs ρ lB)(I:Inv W vol s){vs:List Value}(hv:Ξ W (vis vol s.heap) ms vs):aM W A vol (.call (.ref C) ⟨vs,[]⟩) (.obj C fs) s:=λRR k=>by
 obtain⟨hh,g,dr,t,os⟩:=s
 refine make_core (makes_of I.k M.makes) (looks_findIn I.k M.init) (λself=>bind_fn I.k self M.fty) (.inl rfl) ?_
 have RU:ψ (A.under (.builtin "type.__call__" ⟨.ref C::vs,[]⟩)) (d+1+1):=⟨room 1 (by decide) R.depth,room 1 (by decide) R.units,by simp only[Around.under,R.guards];rfl,R.handled⟩
 obtain⟨ρ,lB,T⟩:=T (hh.objs.size+1)
 have hn:hh.get? hh.objs.size=none:=aX _
 have hn1:hh.get? (hh.objs.size+1)=none:=Heap.get?_none_of_le (Nat.le_succ _)
 have Rj:Step (⟨hh,g,dr,t,os⟩:Shared) ⟨(hh.push emptyDict).push (instObj C hh.objs.size),g,dr,t,os⟩:=⟨λb o e=>Heap.get?_push_of_some _ (Heap.get?_push_of_some _ e),rfl,rfl⟩
 have yU:((hh.push emptyDict).push (instObj C hh.objs.size)).get? hh.objs.size=some emptyDict:=Heap.get?_push_of_some _ (Heap.get?_push_size _ rfl)
 have Ia:((hh.push emptyDict).push (instObj C hh.objs.size)).get? (hh.objs.size+1)=some (instObj C hh.objs.size):=(congrArg (Heap.get? _) (Heap.size_push hh emptyDict).symm).trans (Heap.get?_push_size (hh.push emptyDict) (o:=instObj C hh.objs.size) rfl)
 have Rk:hh.objs.size∉vol:=I.fresh hn
 have acj:hh.objs.size+1∉vol:=I.fresh hn1
 have VV:(vis vol hh).StaysIn (vis (hh.objs.size::vol) ((hh.push emptyDict).push (instObj C hh.objs.size))):=iH (ba Rj.keep) hn
 have I1:Inv W (hh.objs.size::vol) ⟨(hh.push emptyDict).push (instObj C hh.objs.size),g,dr,t,os⟩:=⟨Ψ I.top VV,aq ⟨_,yU⟩ λb m=>(I.vol b m).imp λo e=>Rj.keep b o e⟩
 have lr:∀(h:Heap),ω W h (.ip (.ref (hh.objs.size+1))) (.ref (hh.objs.size+1)):=λh=>⟨rfl,rfl⟩
 refine iD I1 RU FF T.e1 T.e2 (Δ (lr _) (hv.mono VV)) aL λown env s2 cu xa SS RD jp uu H4=>?_
 have Ib:hh.objs.size∉own:=λm=>ζ ((cu _ m).symm.trans yU)
 have Fi:hh.objs.size+1∉own:=λm=>ζ ((cu _ m).symm.trans Ia)
 have CK:∀{c:Addr},(∃o,W.top.get? c=some o)->c≠hh.objs.size:=λe z=>e.elim λo e=>ζ (hn.symm.trans (I.keeps _ _ (z▸e)))
 have ini:EP W own vol ⟨ft.names⟩ ρ env s2 (hh.objs.size+1) C hh.objs.size []:=⟨SS,Ib,Rk,⟨T.e4,T.e5⟩,λy c q z=>(uu y c q).elim (λm=>Ib (z▸m)) λh=>CK h z,ι.mpr ⟨xa.keep _ _ Ia,λm=>(List.mem_append.mp m).elim Fi λm=>(List.mem_cons.mp m).elim (Nat.succ_ne_self _) acj⟩,emptyDict,[],xa.keep _ _ yU,n9,aL⟩
 refine(zP hb).elim λst oF=>ks_codeAny_funcAt ?_
 rw[oF.1]
 cases oF.2 with|mk p0 p1 ap p2 p3 pos ps=>
  refine ks_wpAt_execs_cons (ks_wpAt_Expr_any ?_ (nV SS) (km rfl))
  have he:eval (.Call (.Attribute (.Call (.Name (Str.ofString "super") p0) [] [] p1) (Str.ofString "__init__") ap) [.Starred q.1.1 p2] [⟨none,q.1.2,p3⟩] pos) env=(do
   let ov<-attributeBase (.Call (.Name (Str.ofString "super") p0) [] [] p1) (Str.ofString "__init__") env (eval (.Call (.Name (Str.ofString "super") p0) [] [] p1) env)standAt ap.atName
   methodCall (.Call (.Name (Str.ofString "super") p0) [] [] p1) (Str.ofString "__init__") ap pos env ov (1+1) [(true,(do let v<-eval q.1.1 env;standAt pos;pure v))] [(none,(do let v<-eval q.1.2 env;standAt pos;pure v))]):=rfl
  rw[he]
  obtain⟨m,m1,m2⟩:=SS.loc
  obtain⟨u,u1,u2⟩:=m2 _ _ T.e4 (aU T.e5)
  have hu:u=.ref (hh.objs.size+1):=u2.1
  subst hu
  have H1:s2.heap.get? (hh.objs.size+1)=some (instObj C hh.objs.size):=xa.keep _ _ Ia
  have H2:s2.heap.get? hh.objs.size=some emptyDict:=xa.keep _ _ yU
  refine _root_.PySem.wpAt_bind (tN (cx:=⟨ft.names⟩) SW SF SS H4 m1 u1 (fo H1 H2) λso s3 k3 Ic=>wpAt_of_wpAny (wpAny_bind (wpAny_standAt ?_)))
  have X3:=SS.step k3
  refine wpAny_bind (wpAny_holding (wpAny_bind (En (cx:=⟨ft.names⟩) SW SF X3.inv.k Ic (fo (k3.keep _ _ H1) (k3.keep _ _ H2)) λqa s4 k4 hq=>wpAny_pure (wpAny_bind (wpAny_pure ?_)))))
  have X4:=X3.step k4
  refine zN ok RD X4 T.ex T.ey hq SF.fn hl λH0 s5 k5 hv5=>wpAny_call (ks_codeAny_call_bound (k5.keep _ _ hq.1) ?_)
  have X5:=X4.step k5
  have Z6:=(k3.trans k4).trans k5
  have ack:=ini.step Z6
  refine iD X5.inv (R:=RD) FF2 T.i1 T.i2 (Δ (lr _) hv5) aL λyM ahG s6 QI k56 SS2 RD2 WA ahH aiE=>?_
  have acl:=ι.mp ack.obj
  obtain⟨od5,adT,d1,d2,d3⟩:=ack.Ri
  cases(show adT=[]from d3)
  have Zy:hh.objs.size∉yM:=λm=>ζ ((QI _ m).symm.trans d1)
  have ahI:hh.objs.size+1∉yM:=λm=>ζ ((QI _ m).symm.trans acl.1)
  have swap:∀{l:List Addr}{a:Addr},a∈l++hh.objs.size::vol↔a∈hh.objs.size::(l++vol):=λ{l a}=>(List.perm_middle (l₁:=l)).mem_iff
  have pm:∀a,a∈yM++(own++hh.objs.size::vol)↔a∈yM++hh.objs.size::(own++vol):=λa=>List.mem_append.trans ((or_congr_right swap).trans List.mem_append.symm)
  have ahJ:EP W yM (own++vol) ⟨EY.names⟩ lB ahG s6 (hh.objs.size+1) C hh.objs.size []:=⟨SS2.perm pm,Zy,λm=>(List.mem_append.mp m).elim Ib Rk,⟨T.i4,T.i5⟩,λy c q z=>(ahH y c q).elim (λm=>Zy (z▸m)) λh=>CK h z,ι.mpr ⟨k56.keep _ _ acl.1,λm=>(List.mem_append.mp m).elim ahI λm=>(List.mem_cons.mp m).elim (Nat.succ_ne_self _) λm=>(List.mem_append.mp m).elim Fi acj⟩,od5,[],k56.keep _ _ d1,d2,aL⟩
  refine codeAny_func (nU ok M.set TK RD2 T.i3 ahJ _ _ λs7 x7 Rq=>?_)
  have Zd:=Z6.trans k56
  obtain⟨od7,adU,g1,g2,g3⟩:=x7.Ri
  have sub:(vis (yM++hh.objs.size::(own++vol)) s7.heap).StaysIn (vis (own++hh.objs.size::vol) s7.heap):=dX λa m=>(pm a).mp (List.mem_append_right _ m)
  have so:ae [hh.objs.size] s6 s7:=⟨λb o nb e=>Rq.keep b o (λz=>nb (z▸.head _)) e,λb o e=>if z:b=hh.objs.size then⟨od7,z▸g1⟩else⟨o,Rq.keep b o z e⟩,Rq.os,Rq.gens⟩
  have ahK:EP W own vol ⟨ft.names⟩ ρ env s7 (hh.objs.size+1) C hh.objs.size EX:=⟨(SS.step Zd).side so (aG (List.mem_append_right _ (.head _))) (λm=>Ib (List.mem_singleton.mp m▸SS.fF)) (λy c q m=>ini.cl y c q (List.mem_singleton.mp m)),Ib,Rk,⟨T.e4,T.e5⟩,ini.cl,sub _ _ x7.obj,od7,adU,g1,g2,g3.mono sub⟩
  refine wpAt_of_wpAny (nU ok M.set TK RD T.e3 ahK _ _ λs8 x8 k78=>⟨rfl,?_⟩)
  obtain⟨od8,adV,j1,j2,j3⟩:=x8.Ri
  have acm:(vis (own++hh.objs.size::vol) s8.heap).StaysIn (vis vol s8.heap):=dX λa m=>List.mem_append_right _ (.tail _ m)
  have kk:=xa.trans Zd
  exact k _ _ (rz.mpr ⟨hh.objs.size+1,hh.objs.size,od8,adV,rfl,acm _ _ x8.obj,ι.mpr ⟨j1,Rk⟩,j2,j3.mono acm⟩) ⟨λb o e=>have uP:b≠hh.objs.size:=λz=>ζ (hn.symm.trans (z▸e))
   k78.keep b o uP (Rq.keep b o uP (kk.keep b o (Rj.keep b o e))),k78.os.trans (Rq.os.trans kk.os),k78.gens.trans (Rq.gens.trans kk.gens)⟩
end
theorem Hk(P:Params):vD (K1 P) prog.main.file 1866 dJ 1239 (Str.ofString "__init__")=true:=by kernel_rfl
def acn(P:Params):Option (kK×kK×((Expr×Expr)×List Stmt)):=two (yW P 1866) (yW P 1239) λf g=>(vF f.body).map λq=>(f,g,q)
abbrev WB:=Option XV×Option XV×List (Str×XV)×Option (List (Str×XV))×Option XV×Option XV
def aco(P:Params)(col:Nat->Bool)(res:List ((Nat×Nat×Nat)×Int)):Sv:=run (G0 P col res λ_ _ _ _=>none) 20
def vG(sv:Sv)(a:Nat)(ms:List XV)(f g:kK)(q:(Expr×Expr)×List Stmt):Option WB:=two (f.bind (.ip (.ref a)::ms) []) (g.bind (.ip (.ref a)::ms) []) λρ lB=>bif bp f.names ρ&&(bp g.names lB&&(fg ⟨f.names⟩ lu&&fg ⟨g.names⟩ lu))then(iO sv lw 12 ⟨g.names⟩ dJ lB g.body []).bind λEX=>some (sv.ev 13 ⟨f.names⟩ ρ q.1.1,sv.ev 13 ⟨f.names⟩ ρ q.1.2,EX,iO sv lw 13 ⟨f.names⟩ dJ ρ q.2 EX,lk ρ lu,lk lB lu)else none
def m9(ms:List XV):List (Str×XV):=[(aW,.tuple ms),(a_,.bool false)]
def AL(a:Nat)(ms:List XV):WB:=(some (.tuple ms),some (.dict []),m9 ms,some (m9 ms),some (.ip (.ref a)),some (.ip (.ref a)))
def WC(P:Params)(col:Nat->Bool)(res:List ((Nat×Nat×Nat)×Int))(a:Nat)(ms:List XV):Option WB:=(acn P).bind λr=>vG (aco P col res) a ms r.1 r.2.1 r.2.2
section
variable(P:Params)(col:Nat->Bool)(res:List ((Nat×Nat×Nat)×Int))(a:Nat)
theorem Hl(x y z:XV):WC P col res a [x,y,z]=some (AL a [x,y,z]):=by kernel_rfl
theorem Hm(x y z t:XV):WC P col res a [x,y,z,t]=some (AL a [x,y,z,t]):=by kernel_rfl
end
theorem zQ{W:aE}{sv:Sv}{a:Nat}{ms:List XV}{f g:kK}{q}(h:vG sv a ms f g q=some (AL a ms)):∃ρ lB,CJ W sv lw 12 dJ a f g q.1.1 q.1.2 q.2 ms (m9 ms) (m9 ms) ρ lB:=π h λρ lB a1 a2 h=>ξ h λc h=>η c λc1 c=>η c λc2 c=>η c λc3 c4=>O h λEX a3 h=>by
 have b1:=Prod.mk.inj (Option.some.inj h)
 have b2:=Prod.mk.inj b1.2
 have b3:=Prod.mk.inj b2.2
 have b4:=Prod.mk.inj b3.2
 have b5:=Prod.mk.inj b4.2
 exact⟨ρ,lB,a1,c1,b1.1,b2.1,a2,c2,a3.trans (congrArg some b3.1),b5.2,et c4,b3.1▸b4.1,b5.1,et c3⟩
theorem CL(w:World)(S:ay)(hS:S.Ok){ms:List XV}(hl:ms.length<=100)(e:∀a,WC w.params S.colon S.res a ms=some (AL a ms)){A:Around}{vol:List Addr}{s:Shared}{vs:List Value}(I:Inv (W1 w S hS) vol s)(R:ψ A 22)(hv:Ξ (W1 w S hS) (vis vol s.heap) ms vs):aM (W1 w S hS) A vol (.call (.ref dJ) ⟨vs,[]⟩) (.obj dJ (m9 ms)) s:=by
 refine O (e 0) λr h1 _=>π h1 λf g g1 g2 h2=>χ (P:=λr=>acn w.params=some r->aM (W1 w S hS) A vol (.call (.ref dJ) ⟨vs,[]⟩) (.obj dJ (m9 ms)) s) h2 (λq g3 h1=>?_) h1
 have key:∀a,vG (aco w.params S.colon S.res) a ms f g q=some (AL a ms):=λa=>O (e a) λr' h3 h=>by
  cases Option.some.inj (h1.symm.trans h3)
  exact h
 exact(qq (W:=W1 w S hS) (Hk w.params) (ξ g1 λ_ h=>h)).elim λD SF=>Hj (d:=12) (nx (nB w S hS (nX _)) 20) (Bw w S hS) (mk1 w S hS (ej (by decide+kernel))) (ij g1) (ij g2) SF (tW (w:=w) (S:=S) (hS:=hS) (C:=dJ) (by kernel_rfl) (by kernel_rfl)) (R.le (by decide)) g3 hl (λa=>zQ (key a)) I hv
def Yq(ms:List XV):Option XV:=bif Nat.ble 3 ms.length&&Nat.ble ms.length 4 then some (.obj dJ (m9 ms))else none
def acp(d f:Nat)(ms:List XV)(ks:List (Str×XV)):Option XV:=bif Nat.ble 22 d then(bif Nat.beq f fE then acf ms ks else bif Nat.beq f dJ then(bif ak ks then Yq ms else none)else ach f ms ks)else none
theorem Hn(w:World)(S:ay)(hS:S.Ok):g9 (W1 w S hS) acp:=λd f ms ks m h{A vol s vs kws}I R hv hk=>by
  refine ξ h λc h=>?_
  have R22:=R.le (ble c)
  refine a9 h (λc h=>?_) λ_ h=>a9 h (λc h=>?_) λ_ h=>Hi w S hS h I R22 hv hk
  · cases Nat.eq_of_beq_eq_true c
    exact Hg w S hS h I (R22.le (by decide)) hv hk
  · cases Nat.eq_of_beq_eq_true c
    refine ξ h λk h=>?_
    cases nil_of k
    cases(show kws=[]from hk)
    refine Φ (P:=λm=>aM (W1 w S hS) A vol (.call (.ref dJ) ⟨vs,[]⟩) m s) h λc=>η c λc1 c2=>?_
    cases ms with
|nil=>exact υ c1|cons a r=>cases r with
|nil=>exact υ c1|cons b r=>cases r with
|nil=>exact υ c1|cons c r=>cases r with
|nil=>exact CL w S hS (Nat.le_of_ble_eq_true rfl) (λa=>Hl w.params S.colon S.res a _ _ _) I R22 hv|cons d r=>cases r with
|nil=>exact CL w S hS (Nat.le_of_ble_eq_true rfl) (λa=>Hm w.params S.colon S.res a _ _ _ _) I R22 hv|cons e r=>exact υ c2
def G1(P:Params)(col:Nat->Bool)(res:List ((Nat×Nat×Nat)×Int)):fj:=G0 P col res acp
theorem rk(w:World)(S:ay)(hS:S.Ok):bM (W1 w S hS) (G1 w.params S.colon S.res):=nB w S hS (Hn w S hS)
def Ae(P:Params)(col:Nat->Bool)(res:List ((Nat×Nat×Nat)×Int)):Sv:=run (G1 P col res) 40
def vv1(P:Params)(col:Nat->Bool)(res:List ((Nat×Nat×Nat)×Int)):Vv:=Ao (G1 P col res) (ZM (Ae P col res)) AJ FC (Ae P col res) 12
theorem hY(w:World)(S:ay)(hS:S.Ok):al (W1 w S hS) (Ae w.params S.colon S.res):=nx (rk w S hS) 40
theorem CM(w:World)(S:ay)(hS:S.Ok):sk (W1 w S hS) (vv1 w.params S.colon S.res):=xL (vA (hY w S hS)) (rk w S hS) (Wx w S hS) (Bw w S hS) (CG w S hS) (hY w S hS) 12
def gO(P:Params)(col:Nat->Bool)(res:List ((Nat×Nat×Nat)×Int))(d C:Nat)(m:Mt)(o:XV):Option XV:=(jb atT C m).bind λf=>(Ae P col res).call d f [o] []
def hZ(P:Params)(col:Nat->Bool)(res:List ((Nat×Nat×Nat)×Int))(d C:Nat)(o:XV):Option Bool:=(jb atT C .v).bind λf=>(vv1 P col res).call d f o
def JOk(x:XV)(j:Jm):Prop:=j.casesOn (x=.none) (λi=>x=.int i) (λk l=>gZ x=some (k,l)) (λs=>x=.str s) (λl=>eQ x=some l) (λb=>x=.bytes b)
def MOk(x:Option XV)(o:gp Jm):Prop:=o.casesOn (λj=>∃y,x=some y/\JOk y j) False True
noncomputable def Ze(x:Option Bool)(o:gp Jm):Prop:=o.casesOn (λ_=>x=some false) (x=some true) True
theorem adW{W:aE}{h:Heap}{m:Jm}{x:XV}{v:Value}(e:JOk x m)(hv:ω W h x v):mU W m v:=by
 have go:∀{y},x=y->ω W h y v:=λe=>e▸hv
 cases m with
 |dD l=>exact gi e hv|dj k l=>exact gf (P:=λv=>mU W (.dj k l) v) e hv λt=>⟨t,rfl⟩|none=>exact go e|int i=>exact go e|str i=>exact go e|bytes i=>exact go e
theorem jO{h:Heap}:h.StaysIn (vis [] h):=λb o e=>ι.mpr ⟨e,λm=>nomatch m⟩
def fO(C:Nat)(ms:List XV)(t:XV):XV:=.obj C [(aW,.tuple ms),(a_,t)]
section
variable{w:World}{S:ay}{hS:S.Ok}{h:Heap}{a:Addr}{x:XV}{d f:Nat}{o:gp Jm}
theorem Ep(hv:ω (W1 w S hS) h x (.ref a))(q:MOk ((Ae w.params S.colon S.res).call d f [x] []) o):gB (W1 w S hS) h f a d o:=by cases o with
 |stuck=>trivial|exc=>exact q.elim|ok j=>exact q.elim λy e A s R RD hh I k=>(hY w S hS).call e.1 I RD (Δ (hv.mono (Ψ hh jO)) aC) aL R λv s' y z=>k v s' (adW e.2 y) z
theorem Er(hv:ω (W1 w S hS) h x (.ref a))(q:Ze ((vv1 w.params S.colon S.res).call d f x) o):gJ (W1 w S hS) h f a d o:=by cases o with
 |stuck=>trivial|exc=>exact λA s B fr R RD jp hh I hB hF k=>(CM w S hS).call q I RD jp (hv.mono (Ψ hh jO)) hB hF R (λz=>nomatch z) λ_ e s' y=>k e s' y|ok j=>exact λA s B fr R RD jp hh I hB hF k=>(CM w S hS).call q I RD jp (hv.mono (Ψ hh jO)) hB hF R (λ_ s' y=>k s' y) λz=>nomatch z
theorem xV{C:Nat}{ms:List XV}{t:XV}{v:Value}{β:Nd}(hC:iL EQ C=some β.wr)(hv:ω (W1 w S hS) h (fO C ms t) v)(hm:∀m,MOk (gO w.params S.colon S.res β.d C m (fO C ms t)) (β.of m))(hx:Ze (hZ w.params S.colon S.res β.d C (fO C ms t)) β.v):ω (W1 w S hS) h (.node β) v:=by
 obtain⟨a,dx,od,τ,rfl,h1,h2,D,F⟩:=rz.mp hv
 exact⟨a,rfl,.mk C dx od τ hC h1 h2 D ((gw F).trans (by kernel_rfl)) λm f hf=>⟨Ep hv (a8 (C:=λo=>MOk (o.bind λf=>(Ae w.params S.colon S.res).call β.d f [fO C ms t] []) (β.of m)) hf.symm (hm m)),λz=>Er hv (a8 (C:=λo=>Ze (o.bind λf=>(vv1 w.params S.colon S.res).call β.d f (fO C ms t)) β.v) (z▸hf).symm hx)⟩⟩
end
inductive Kd where|dN|wV|wW|wX|FE|FG|FH|FI|aR|a|s|c|t|d|v|j|n|l|u
inductive Td where|no|op|B|K|V|W
noncomputable def yN:List Kd:=[.dN,.wV,.wW,.wX,.FE,.FG,.FH,.FI,.aR,.a,.s,.c,.t,.d,.v,.j,.n,.l,.u]
theorem tY(k:Kd):k∈yN:=List.mem_of_getElem? (i:=k.ctorIdx) (by cases k<;>rfl)
noncomputable def Kd.name(k:Kd):List Nat:=k.casesOn [97,110,100,111,114] [97,110,100,95,118] [97,110,100,95,98] [97,110,100,95,110] [111,114,95,98] [111,114,95,99] [111,114,95,100] [111,114,95,105] [116,104,114,101,115,104] [97] [115] [99] [116] [100] [118] [106] [110] [108] [117]
def Kd.cls(k:Kd):Nat:=k.casesOn CD Qy Qz QA ab9 aca acb acd xT cA cS cC cT cD cV cJ cN cL cU
noncomputable def qH{α:Type}(k:Kd)(z a s c t d v j n l u:α):α:=k.casesOn z z z z z z z z z a s c t d v j n l u
noncomputable def qI{α:Type}(k:Kd)(z v b n ob oc od oi:α):α:=k.casesOn z v b n ob oc od oi z z z z z z z z z z z
def Kd.ar(k:Kd):Nat:=qH k (qI k 3 2 2 2 2 2 2 2) 1 1 1 1 1 1 1 1 1 1
def mD(k:Kd):Bool:=qH k false true true true true true true true true true true
noncomputable def iX(k:Kd):Bool:=Nat.beq k.ctorIdx 8
noncomputable def qS(k:Kd):Bool:=Nat.beq k.ctorIdx 14
noncomputable def xc(k:Kd):Bool:=Nat.beq k.ctorIdx 13
noncomputable def mR:List Td:=[.no,.op,.B,.K,.V,.W]
noncomputable def qT:List Td:=[.B,.K,.V,.W]
theorem dC(t:Td):t∈mR:=List.mem_of_getElem? (i:=t.ctorIdx) (by cases t<;>rfl)
noncomputable def Td.tx(t:Td):Tx:=t.casesOn [] [.lit [111,112,101,110]] [.lit [66]] [.lit [75]] [.lit [86]] [.lit [87]]
def Td.x(t:Td):XV:=t.casesOn .none (.str (Td.tx .op)) (.str (Td.tx .B)) (.str (Td.tx .K)) (.str (Td.tx .V)) (.str (Td.tx .W))
noncomputable def Td.code(t:Td):Nat:=t.casesOn 0 0 66 75 86 87
noncomputable def Td.typed(t:Td):Bool:=t.casesOn false false true true true true
noncomputable def Td.aZ(t:Td):Bool:=Nat.beq t.ctorIdx 0
noncomputable def Td.fK(t:Td):Bool:=Nat.beq t.ctorIdx 1
noncomputable def Td.fk(t:Td):Bool:=Nat.beq t.ctorIdx 2
noncomputable def Td.Y4(t:Td):Bool:=Nat.beq t.ctorIdx 3
noncomputable def Td.qS(t:Td):Bool:=Nat.beq t.ctorIdx 4
noncomputable def Td.mD(t:Td):Bool:=Nat.beq t.ctorIdx 5
noncomputable def Td.same(t u:Td):Bool:=Nat.beq t.ctorIdx u.ctorIdx
theorem dZ{t u:Td}(h:Td.same t u=true):t=u:=have at_:∀t:Td,mR[t.ctorIdx]?=some t:=λt=>by cases t<;>rfl
 Option.some.inj ((at_ t).symm.trans ((congrArg (λi:Nat=>mR[i]?) (Nat.eq_of_beq_eq_true h)).trans (at_ u)))
theorem xW{t:Td}(h:t.aZ=true):t=.no:=dZ h
theorem aeE{t:Td}(h:t.fK=true):t=.op:=dZ h
theorem ao{t:Td}:t.typed=true->t∈qT:=by cases t with
 |no=>exact υ|op=>exact υ|B=>exact λ_=>.head _|K=>exact λ_=>.tail _ (.head _)|V=>exact λ_=>.tail _ (.tail _ (.head _))|W=>exact λ_=>.tail _ (.tail _ (.tail _ (.head _)))
theorem rN{t:Td}:t.typed=true->t.tx=[.lit [t.code]]:=by cases t with
 |no=>exact υ|op=>exact υ|_=>exact λ_=>rfl
theorem tZ{t:Td}:t.typed=true->t.aZ=false:=by cases t<;>first|exact υ|exact λ_=>rfl
theorem iG{t:Td}:t.typed=false->t=.no\/t=.op:=by cases t<;>first|exact cq|exact λ_=>.inl rfl|exact λ_=>.inr rfl
noncomputable def tk{α:Type}(n:Nat)(a b c:α):List α:=bif Nat.beq n 1 then[a]else bif Nat.beq n 2 then[a,b]else[a,b,c]
theorem nC{α β:Type}(f:α->β)(n:Nat)(a b c:α):(tk n a b c).map f=tk n (f a) (f b) (f c):=by
 unfold tk
 cases Nat.beq n 1<;>cases Nat.beq n 2<;>rfl
structure Sh where
 k:Kd
 n:Nat
 m:Nat
 c:UInt8
noncomputable def jF:List Kd:=[.a,.s,.c,.t,.d,.v,.j,.n,.l,.u]
noncomputable def uL:List Kd:=[.wV,.wW,.wX,.FE,.FG,.FH,.FI]
def Kd.sh(k:Kd)(m:Nat)(c:UInt8):Sh:=⟨k,k.ar,m,c⟩
noncomputable def n3:List Nat:=[1,2,3]
noncomputable def m5:List Nat:=[0,1,2,3,4]
inductive dU:Sh->Prop|w{k:Kd}(m:Nat)(c:UInt8):k∈jF->dU ⟨k,1,m,c⟩|t{k:Kd}(m:Nat)(c:UInt8):k∈uL->dU ⟨k,2,m,c⟩|a(m:Nat)(c:UInt8):dU ⟨.dN,3,m,c⟩|h{n m:Nat}(c:UInt8):n∈n3->m∈m5->dU ⟨.aR,n,m,c⟩
def EZ(m:Nat)(c:UInt8):List Sh:=jF.map (⟨·,1,m,c⟩)++(uL.map (⟨·,2,m,c⟩)++[⟨.dN,3,m,c⟩])
def shT(c:UInt8):List Sh:=n3.flatMap λn=>m5.map (⟨.aR,n,·,c⟩)
def ER(m:Nat)(c:UInt8):List Sh:=EZ m c++n3.map (⟨.aR,·,m,c⟩)
def shA(m:Nat)(c:UInt8):List Sh:=EZ m c++shT c
theorem inW{k:Kd}{m:Nat}{c:UInt8}(h:k∈jF):(⟨k,1,m,c⟩:Sh)∈EZ m c:=List.mem_append_left _ (List.mem_map.mpr ⟨_,h,rfl⟩)
theorem inT{k:Kd}{m:Nat}{c:UInt8}(h:k∈uL):(⟨k,2,m,c⟩:Sh)∈EZ m c:=List.mem_append_right _ (List.mem_append_left _ (List.mem_map.mpr ⟨_,h,rfl⟩))
theorem inA{m:Nat}{c:UInt8}:(⟨.dN,3,m,c⟩:Sh)∈EZ m c:=List.mem_append_right _ (List.mem_append_right _ (.head _))
theorem inH{n m:Nat}{c:UInt8}(h:n∈n3)(k:m∈m5):(⟨.aR,n,m,c⟩:Sh)∈shT c:=List.mem_flatMap.mpr ⟨_,h,List.mem_map.mpr ⟨_,k,rfl⟩⟩
theorem dU.f{κ:Sh}(h:dU κ):κ∈ER κ.m κ.c:=h.rec (λm c h=>List.mem_append_left _ (inW h)) (λm c h=>List.mem_append_left _ (inT h)) (λm c=>List.mem_append_left _ inA) λc h _=>List.mem_append_right _ (List.mem_map.mpr ⟨_,h,rfl⟩)
theorem dU.a'{κ:Sh}(h:dU κ):κ∈shA κ.m κ.c:=h.rec (λm c h=>List.mem_append_left _ (inW h)) (λm c h=>List.mem_append_left _ (inT h)) (λm c=>List.mem_append_left _ inA) λc h k=>List.mem_append_right _ (inH h k)
inductive fL:Nat->Td->Td->Prop|a:fL 1 .B .B|b(u:Td):fL 2 u .B|c(u v:Td):fL 3 u v
noncomputable def bY(FJ n:Nat):Bool:=Nat.ble 1 FJ&&Nat.ble FJ n
def Sh.i(κ:Sh):Bool:=bY κ.m κ.n
def aT(t u v:Td):Bool:=t.typed&&(u.typed&&v.typed)
noncomputable def du(x:Ls):Bool:=bif x.d then x.u else false
def thC(n:Nat)(t:Td)(x:Ls)(u:Td)(y:Ls)(v:Td)(z:Ls):Bool:=bif t.fk&&(Nat.beq n 1||(u.mD&&(Nat.beq n 2||v.mD)))then bif du x then bif Nat.beq n 1 then true else bif du y then bif Nat.beq n 2 then true else du z else false else false else false
noncomputable def tB(b:Bool)(t:Td):Td:=bif b then t else .no
noncomputable def tDu(x:Ls)(t:Td):Td:=bif x.d then bif x.u then t else .op else bif x.u then .op else .no
def kM(i:Bool)(k:Kd)(n:Nat)(t:Td)(x:Ls)(u:Td)(y:Ls)(v:Td)(z:Ls):Td:=qH k (bif iX k then tB (thC n t x u y v z) (tB i .B)else qI k (bif t.fk&&(Td.same u v&&!u.mD)then tDu x u else .no) (tB (t.qS&&!u.mD) u) (tB (t.fk&&u.mD) .B) (bif t.fk&&u.fk then tDu x .B else .no) (bif t.fk&&u.mD then bif x.d then tB y.d .B else .no else .no) (tB (t.fk&&u.qS) (bif x.d then tB x.u .V else .no)) (tB (t.fk&&u.fk) (bif x.d then tB x.u .B else .no)) (tB (Td.same t u&&!t.mD) t)) (tB t.fk .W) (bif t.fk then tB x.o .W else .no) (tB t.Y4 .B) (bif t.qS then .B else .op) (bif t.qS then tB x.z .B else .no) (tB t.fk .V) (bif t.fk then tB x.n .B else .no) (tB t.fk .B) (tB t.fk .B) (tB t.fk .B)
def ES(t u v:Td):Td:=bif t.aZ||(u.aZ||v.aZ)then .no else .op
def p6{α:Type}(k:Kd)(B V W T U:α):α:=qH k (bif iX k then B else qI k U U B U B V B T) W W B B B V B B B B
def WD(k:Kd):List Td:=p6 k [.B] [.V] [.W] [.B,.K,.V] (qI k [.B,.K,.V] [.B,.K,.V] [] [.B] [] [] [] [])
def rS(κ:Sh)(t:Td)(x:Ls)(u:Td)(y:Ls)(v:Td)(z:Ls):Td:=bif aT t u v then kM κ.i κ.k κ.n t x u y v z else ES t u v
def yO(fk:Bool)(x y:Ls):Ls:=⟨x.has 122&&y.has 122,(x.has 122&&y.has 111)||(x.has 111&&y.has 122),x.has 110||(x.has 122&&y.has 110),fk&&(x.has 100&&y.has 100),y.has 117||fk⟩
def pAo(x y z:Ls):Ls:=⟨x.has 122&&(y.has 122&&z.has 122),(x.has 122&&(y.has 111&&z.has 111))||(x.has 111&&(y.has 122&&z.has 122)),false,z.has 100,y.has 117&&z.has 117⟩
def pOb(x y:Ls):Ls:=⟨x.has 122&&y.has 122,(x.has 122&&y.has 111)||(x.has 111&&y.has 122),false,true,true⟩
def pOc(xc:Bool)(x y:Ls):Ls:=⟨x.has 122&&y.has 122,x.has 111&&y.has 122,false,xc&&y.has 100,xc&&y.has 117⟩
def pOi(x y:Ls):Ls:=⟨false,x.has 122&&y.has 122,false,x.has 100||y.has 100,x.has 117&&y.has 117⟩
noncomputable def acq:Ls:=⟨true,false,false,false,true⟩
noncomputable def wY:Ls:=⟨true,false,false,true,true⟩
noncomputable def Rr:List Ls->Bool
 |[]=>true|l::r=>l.z&&Rr r
noncomputable def thO:List Ls->Bool
 |[]=>false|l::r=>bif l.z then thO r else bif Rr r then l.has 111 else false
def pTh(xs:List Ls):Ls:=⟨Rr xs,thO xs,false,true,true⟩
def pL(k:Kd)(n:Nat)(aB:Bool)(x y z:Ls):Ls:=qH k (bif iX k then pTh (tk n x y z)else qI k (pAo x y z) (yO false x y) (yO true x y) (pAo x y wY) (pOb x y) (pOc false x y) (pOc true x y) (pOi x y)) ⟨false,false,false,x.has 100,x.has 117⟩ ⟨false,false,false,x.has 100,x.has 117⟩ ⟨false,x.has 111,x.has 110,x.has 100,true⟩ (yO false x acq) ⟨false,true,true,true,aB⟩ ⟨x.has 122,x.has 111,x.has 110,false,false⟩ ⟨false,x.has 111,true,true,x.has 117⟩ ⟨x.has 122,x.has 111,x.has 110,x.has 100,true⟩ (pOi wY x) (pOi wY x)
def rL(R:Td)(l:Ls):Ls:=bif R.typed then l else sR
noncomputable def an:List Bool->Bool
 |[]=>true|a::r=>a&&an r
noncomputable def orr:List Bool->Bool
 |[]=>false|a::r=>a||orr r
def yP(fk:Bool)(x y:Ls):Ls:=⟨an [x.has 122,y.has 122],orr [an [x.has 122,y.has 111],an [y.has 122,x.has 111]],orr [x.has 110,an [x.has 122,y.has 110]],fk&&an [x.has 100,y.has 100],bif fk then true else y.has 117⟩
def qAo(x y z:Ls):Ls:=⟨an [x.has 122,y.has 122,z.has 122],orr [an [x.has 122,y.has 111,z.has 111],an [x.has 111,y.has 122,z.has 122]],false,z.has 100,an [y.has 117,z.has 117]⟩
def qOb(x y:Ls):Ls:=⟨an [x.has 122,y.has 122],orr [an [x.has 122,y.has 111],an [y.has 122,x.has 111]],false,true,true⟩
def qOc(xc:Bool)(x y:Ls):Ls:=⟨an [x.has 122,y.has 122],an [x.has 111,y.has 122],false,xc&&y.has 100,xc&&y.has 117⟩
def qOi(x y:Ls):Ls:=⟨false,an [x.has 122,y.has 122],false,orr [x.has 100,y.has 100],an [x.has 117,y.has 117]⟩
noncomputable def qO:List Ls->Bool
 |[]=>false|l::r=>bif l.z then qO r else bif Rr r then an [l.has 111]else false
def qTh(xs:List Ls):Ls:=⟨Rr xs,qO xs,false,true,true⟩
def qL(k:Kd)(n:Nat)(aB:Bool)(x y z:Ls):Ls:=qH k (bif iX k then qTh (tk n x y z)else qI k (qAo x y z) (yP false x y) (yP true x y) (qAo x y wY) (qOb x y) (qOc false x y) (qOc true x y) (qOi x y)) ⟨false,false,false,x.has 100,x.has 117⟩ ⟨false,false,false,x.has 100,x.has 117⟩ ⟨false,x.has 111,x.has 110,x.has 100,true⟩ (yP false x acq) ⟨false,x.has 122,true,true,aB⟩ ⟨x.has 122,x.has 111,x.has 110,false,false⟩ ⟨false,x.has 111,true,true,x.has 117⟩ ⟨x.has 122,x.has 111,x.has 110,x.has 100,true⟩ ⟨false,x.has 122,false,true,x.has 117⟩ ⟨false,x.has 122,false,true,x.has 117⟩
noncomputable def nt(K c:Nat):Bool:=!dk [K] [c]
def WE(K:Nat):Bool:=!cr K [66,75,86]
def nDu(x:Ls):Bool:=orr [!x.has 100,!x.has 117]
def vSp(i:Bool)(k:Kd)(n K:Nat)(x:Ls)(J:Nat)(y:Ls)(H:Nat)(z:Ls):Bool:=orr (qH k (bif iX k then(!i)::nt K 66::nDu x::bif Nat.beq n 1 then[]else[orr (orr [nt J 87,nDu y]::bif Nat.beq n 2 then[]else[orr [nt H 87,nDu z]])]else qI k [nt K 66,an [!x.has 100,!x.has 117],!dk [J] [H],WE J] [nt K 86,WE J] [nt K 66,nt J 87] [nt K 66,an [!x.has 100,!x.has 117],nt J 66] [nt K 66,!x.has 100,nt J 87,!y.has 100] [nt K 66,nt J 86,orr [!x.has 100,!x.has 117]] [nt K 66,nt J 66,orr [!x.has 100,!x.has 117]] [!dk [K] [J],WE K]) [nt K 66] [nt K 66,!x.has 111] [nt K 75] [] [nt K 86,!x.has 122] [nt K 66] [nt K 66,!x.has 110] [nt K 66] [nt K 66] [nt K 66])
noncomputable def sB(i:Nat):Bx:=[.ini i,.lst i]
noncomputable def sC(c:UInt8):Bx:=[.ini 0,.lit [c]]
noncomputable def ec:List UInt8:=[172,178,177,135,174,154,155,104,81,146,65,136,108,173,175,105]
noncomputable def bxV(c:UInt8):Bx:=bif c.toNat==172||c.toNat==174||c.toNat==135 then[.ini 0,.lit [c+1]]else[.ini 0,.lit [c,105]]
def Sh.b0(κ:Sh):Bx:=bif qS κ.k then sC κ.c else sB 0
noncomputable def args(n:Nat):Tx:=.sym 0::bif Nat.beq n 1 then[]else .lit [44]::.sym 1::bif Nat.beq n 2 then[]else[.lit [44],.sym 2]
noncomputable def txW(wr:Bool):Tx:=[bif wr then .lit []else .lit [58],.sym 0]
def Sh.txN(κ:Sh):Tx:=(bif iX κ.k then[.lit [48+κ.m],.lit [44]]else[])++(args κ.n++[.lit [41]])
def Sh.tx(κ:Sh)(wr:Bool):Tx:=.lit κ.k.name::bif mD κ.k then txW wr else .lit [40]::κ.txN
noncomputable def bL(l:List UInt8):Bx:=[.lit l]
def Sh.bx(κ:Sh):Bx:=om (qH κ.k (bif iX κ.k then sB 0::app (bif Nat.beq κ.n 1 then[]else sB 1::bL [147]::bif Nat.beq κ.n 2 then[]else[sB 2,bL [147]]) [bL [80+UInt8.ofNat κ.m,135]]else qI κ.k [sB 0,bL [100],sB 2,bL [103],sB 1,bL [104]] [sB 0,sB 1] [sB 0,sB 1,bL [154]] [sB 0,bL [100,0,103],sB 1,bL [104]] [sB 0,sB 1,bL [155]] [sB 0,bL [100],sB 1,bL [104]] [sB 0,bL [115,100],sB 1,bL [104]] [bL [99],sB 0,bL [103],sB 1,bL [104]]) [bL [107],sB 0,bL [108]] [bL [124],sB 0] [sB 0,bL [172]] [sB 0,bL [81]] [bL [118,99],sB 0,bL [104]] [bxV κ.c] [bL [130,146,99],sB 0,bL [104]] [sB 0,bL [146]] [bL [99,0,103],sB 0,bL [104]] [bL [99],sB 0,bL [103,0,104]])
noncomputable def nJ(n:Nat):XV:=.int (.ofNat n)
def ahL(m:Nat):XV:=.obj iF [(yA,nJ m)]
def Sh.obj(κ:Sh)(t a b c:XV):XV:=fO κ.k.cls ((bif iX κ.k then[ahL κ.m]else[])++tk κ.n a b c) t
def pX(β:Nd)(t:Td)(x:Ls)(a b:XV):XV:=.tuple [.node β,t.x,.dD x,a,b]
def Yr(P:Params)(col:Nat->Bool)(res:List ((Nat×Nat×Nat)×Int))(k:List Nat)(ps:List XV)(FJ:XV):Option XV:=(Ae P col res).call 30 io [.str [.lit k],.list ps,FJ] []
noncomputable def eX(l:List Bool)(i:Nat):Bool:=(gR l i).getD false
def Tr(W W':aE)(h:Heap)(m m':XV):Prop:=∀v,ω W h m v->ω W' h m' v
def uX(W W':aE)(h:Heap)(l l':List XV):Prop:=∀vs,Ξ W h l vs->Ξ W' h l' vs
section
variable{W W':aE}{h:Heap}
theorem gP:uX W W' h [] []:=λ_ x=>x
theorem aK{m m' l l'}(c:Tr W W' h m m')(r:uX W W' h l l'):uX W W' h (m::l) (m'::l'):=λ_ x=>x.imp λ_=>Exists.imp λ_ y=>⟨y.1,c _ y.2.1,r _ y.2.2⟩
theorem QJ{l l'}(r:uX W W' h l l'):Tr W W' h (.tuple l) (.tuple l'):=λ_ x=>x.imp λ_=>Exists.imp λ_ y=>⟨y.1,y.2.1,r _ y.2.2⟩
theorem vH{l l'}(r:uX W W' h l l'):Tr W W' h (.list l) (.list l'):=λ_ x=>x.imp λ_=>Exists.imp λ_=>Exists.imp λ_ y=>⟨y.1,y.2.1,r _ y.2.2⟩
theorem p7{x y:Tx}(e:x.den W.S=y.den W'.S):Tr W W' h (.str x) (.str y):=λ_ x=>x.imp λt q=>q.trans (congrArg (λz=>Value.str (aD z) t) e)
theorem QK{x y:Bx}(e:x.den W.S=y.den W'.S):Tr W W' h (.bytes x) (.bytes y):=λ_ x=>x.imp λt q=>q.trans (congrArg (λz=>Value.bytes (bu z) t) e)
end
def qJ(wr:Bool)(d:Nat)(told:Td)(v:gp Jm)(l:Ls)(tx:Tx)(bx:Bx)(k:Nat)(n:List Nat):Nd:=bif told.typed then⟨wr,d,.ok .none,.ok (.str told.tx),.ok (.dD l),.ok (.str tx),.ok (.bytes bx),.ok (.dj k n)⟩else⟨wr,d,bif told.aZ then .exc else v,.stuck,.stuck,.stuck,.stuck,.stuck⟩
def prt(wr:Bool)(d:Nat)(told:Td)(v:gp Jm)(l:Ls)(tx:Tx)(bx:Bx)(k:Nat)(n:List Nat):XV:=pX (qJ wr d told v l tx bx k n) told l (.str tx) (.bytes bx)
def Bz(W W':aE)(o o':gp Jm):Prop:=o'.casesOn (λj'=>∃j,o=.ok j/\∀v,mU W j v->mU W' j' v) False True
def VTr(o o':gp Jm):Prop:=o'.casesOn (λ_=>∃j,o=.ok j) (o=.exc) True
theorem Es(o:gp Jm):VTr o o:=by cases o with
 |ok j=>exact⟨j,rfl⟩|exc=>rfl|stuck=>trivial
section
variable{w:World}{S S':ay}{hS:S.Ok}{ux:S'.Ok}{h:Heap}
theorem p8{vol:List Addr}{s:Shared}(I:Inv (W1 w S hS) vol s):Inv (W1 w S' ux) vol s:=⟨I.top,I.vol⟩
theorem Ho{f a:Addr}{d d':Nat}{o o':gp Jm}(hd:d<=d')(c:Bz (W1 w S hS) (W1 w S' ux) o o')(x:gB (W1 w S hS) h f a d o):gB (W1 w S' ux) h f a d' o':=by cases o' with
 |stuck=>trivial|exc=>exact c.elim|ok j'=>exact c.elim λj e A s R RD k I q=>(show gB (W1 w S hS) h f a d (.ok j)from e.1▸x) A s R (RD.le hd) k (p8 I) λv s' a b=>q v s' (e.2 v a) b
theorem Hp{f a:Addr}{d d':Nat}{o o':gp Jm}(hd:d<=d')(c:VTr o o')(x:gJ (W1 w S hS) h f a d o):gJ (W1 w S' ux) h f a d' o':=by cases o' with
 |stuck=>trivial|exc=>exact λA s B fr R RD a1 k I=>(show gJ (W1 w S hS) h f a d .exc from c▸x) A s B fr R (RD.le hd) a1 k (p8 I)|ok j'=>exact c.elim λj e A s B fr R RD a1 k I=>(show gJ (W1 w S hS) h f a d (.ok j)from e▸x) A s B fr R (RD.le hd) a1 k (p8 I)
theorem CN{β Ij:Nd}(hw:β.wr=Ij.wr)(hd:β.d<=Ij.d)(hm:∀m,Bz (W1 w S hS) (W1 w S' ux) (β.of m) (Ij.of m))(hv:VTr β.v Ij.v):Tr (W1 w S hS) (W1 w S' ux) h (.node β) (.node Ij):=λv x=>x.imp λa y=>⟨y.1,y.2.rec λC dx od τ h0 h1 h2 h3 h4 h5=>.mk C dx od τ (h0.trans (congrArg some hw)) h1 h2 h3 h4 λm f e=>⟨Ho hd (hm m) (h5 m f e).1,λz=>Hp hd hv ((h5 m f e).2 z)⟩⟩
theorem adX{d':Nat}{β:Nd}{wr:Bool}{v:gp Jm}(m:Mt):Bz (W1 w S hS) (W1 w S' ux) (β.of m) (Nd.of ⟨wr,d',v,.stuck,.stuck,.stuck,.stuck,.stuck⟩ m):=by cases m<;>trivial
theorem adY(t:Td):t.tx.den S=t.tx.den S':=by cases t<;>rfl
theorem WF{wr:Bool}{d d':Nat}{told:Td}{v:gp Jm}{l:Ls}{tx Ik:Tx}{bx Il:Bx}{k k':Nat}{n n':List Nat}(hd:d<=d')(h1:tx.den S=Ik.den S')(h2:bx.den S=Il.den S')(h3:k+aj S n=k'+aj S' n'):Tr (W1 w S hS) (W1 w S' ux) h (.node (qJ wr d told v l tx bx k n)) (.node (qJ wr d' told v l Ik Il k' n')):=by
 unfold qJ
 cases told.typed with
 |false=>exact CN rfl hd (adX (wr:=wr) (d':=d') (v:=bif told.aZ then .exc else v)) (Es _)|true=>
  refine CN rfl hd (λm=>?_) ⟨_,rfl⟩
  cases m with
  |v=>trivial|t=>exact⟨_,rfl,λv y=>y.imp λu e=>e.trans (congrArg (λz=>Value.str (aD z) u) (adY told))⟩|p=>exact⟨_,rfl,λv y=>y⟩|s=>exact⟨_,rfl,λv y=>y.imp λu e=>e.trans (congrArg (λz=>Value.str (aD z) u) h1)⟩|c=>exact⟨_,rfl,λv y=>y.imp λu e=>e.trans (congrArg (λz=>Value.bytes (bu z) u) h2)⟩|l=>exact⟨_,rfl,λv y=>y.imp λu e=>e.trans (congrArg (λz:Nat=>Value.int (z:Int) u) h3)⟩
theorem CO(t:Td):Tr (W1 w S hS) (W1 w S' ux) h t.x t.x:=by cases t with
 |no=>exact λv x=>x|_=>exact p7 rfl
theorem pTr{β Ij:Nd}{told:Td}{l:Ls}{tx Ik:Tx}{bx Il:Bx}(hn:Tr (W1 w S hS) (W1 w S' ux) h (.node β) (.node Ij))(h1:tx.den S=Ik.den S')(h2:bx.den S=Il.den S'):Tr (W1 w S hS) (W1 w S' ux) h (pX β told l (.str tx) (.bytes bx)) (pX Ij told l (.str Ik) (.bytes Il)):=QJ (aK hn (aK (CO told) (aK (λv x=>x) (aK (p7 h1) (aK (QK h2) gP)))))
theorem QL{wr:Bool}{d d':Nat}{told:Td}{v:gp Jm}{l:Ls}{tx Ik:Tx}{bx Il:Bx}{k k':Nat}{n n':List Nat}(hd:d<=d')(h1:tx.den S=Ik.den S')(h2:bx.den S=Il.den S')(h3:k+aj S n=k'+aj S' n'):Tr (W1 w S hS) (W1 w S' ux) h (prt wr d told v l tx bx k n) (prt wr d' told v l Ik Il k' n'):=pTr (WF hd h1 h2 h3) h1 h2
end
noncomputable def TP.flat(p:TP):Tx:=p.casesOn (λl=>l.map λc=>.lit [c]) λi=>[.sym i]
noncomputable def BP.flat(p:BP):Bx:=p.casesOn (λl=>l.map λc=>.lit [c]) (λi=>[.ini i]) λi=>[.lst i]
def vI(x:Tx):Tx:=x.flatMap TP.flat
def vJ(x:Bx):Bx:=x.flatMap BP.flat
theorem TP.nY{S:ay}(p:TP):Tx.den S p.flat=p.den S:=by cases p with
 |sym i=>exact List.append_nil _|lit l=>induction l with
  |nil=>rfl|cons c r ih=>exact congrArg (c::·) ih
theorem BP.nY{S:ay}(p:BP):Bx.den S p.flat=p.den S:=by cases p with
 |ini i=>exact List.append_nil _|lst i=>rfl|lit l=>induction l with
  |nil=>rfl|cons c r ih=>exact congrArg (c::·) ih
theorem oa{S:ay}{x:Tx}:(vI x).den S=x.den S:=by induction x with
 |nil=>rfl|cons p r ih=>exact(Tx.bG ..).trans (congr (congrArg _ p.nY) ih)
theorem og{S:ay}{x:Bx}:(vJ x).den S=x.den S:=by induction x with
 |nil=>rfl|cons p r ih=>exact(Bx.bG ..).trans (congr (congrArg _ p.nY) ih)
def rl(x y:Tx):Bool:=E7 (vI x) (vI y)
def rm(x y:Bx):Bool:=Ry (vJ x) (vJ y)
theorem oh{S:ay}{x y:Tx}(h:rl x y=true):x.den S=y.den S:=oa.symm.trans ((sV h).trans oa)
theorem oj{S:ay}{x y:Bx}(h:rm x y=true):x.den S=y.den S:=og.symm.trans ((sW h).trans og)
def av(W:aE)(d:Nat)(f:Addr)(ms:List XV)(m:XV):Prop:=∀{A:Around}{vol:List Addr}{s:Shared}{vs:List Value},Inv W vol s->ψ A d->Ξ W (vis vol s.heap) ms vs->aM W A vol (.call (.ref f) ⟨vs,[]⟩) m s
def QM(st:Stmt):Option (Expr×Expr):=st.casesOn (λ_ _ _ _ _ _ _ _ _ _=>none) (λ_ _ _ _ _ _ _ _ _ _=>none) (λ_ _ _ _ _ _ _ _ _ _ _=>none) (λ_ _=>none) (λ_ _=>none) (λts e _=>(cQ ts).map λt=>(t,e)) (λ_ _ _ _ _ _ _=>none) (λ_ _ _ _=>none) (λ_ _ _ _ _=>none) (λ_ _ _ _ _=>none) (λ_ _ _ _ _=>none) (λ_ _ _ _=>none) (λ_ _ _ _=>none) (λ_ _ _=>none) (λ_ _ _=>none) (λ_ _ _=>none) (λ_ _ _=>none) (λ_ _ _ _ _=>none) (λ_ _ _ _ _=>none) (λ_ _ _=>none) (λ_ _=>none) (λ_ _ _ _=>none) (λ_ _=>none) (λ_ _=>none) (λ_ _=>none) (λ_=>none) (λ_=>none) (λ_=>none)
theorem Et{st:Stmt}{q:Expr×Expr}:QM st=some q->∃p,st=.Assign [q.1] q.2 p:=by cases st with
 |Assign ts e p=>exact λh=>χ (P:=λq:Expr×Expr=>∃p',Stmt.Assign ts e p=.Assign [q.1] q.2 p') h λt ht=>⟨p,congrArg (Stmt.Assign · e p) (bX ht)⟩|_=>exact ζ
inductive sS(nm x:Str)(q:Pos)(es:List Expr):Stmt->Prop|mk(p pos fY:Pos):sS nm x q es (.Assign [.Name x p] (.Call (.Name nm q) es [] pos) fY)
def FK(nm:Str)(st:Stmt):Option (Str×Pos×List Expr):=(QM st).bind λa=>two (bA a.1) (dI a.2) λx c=>bif Fast.sEq c.1.1 nm then some (x,c.1.2,c.2)else none
theorem xX{nm:Str}{st:Stmt}{r}(h:FK nm st=some r):sS nm r.1 r.2.1 r.2.2 st:=O h λa h1 h=>π h λx c h2 h3 h=>Φ (P:=λr:Str×Pos×List Expr=>sS nm r.1 r.2.1 r.2.2 st) h λk=>(Et h1).elim λp z=>(cz h2).elim λp2 z2=>(dh h3).elim λp3 z3=>by
 rw[z,z2,z3,aA k]
 exact .mk _ _ _
noncomputable def WG(G:fj)(sv:Sv)(nm:Str)(f0:Nat)(R:XV)(d:Nat)(cx:Cx):List Stmt->au->Option (Option (List XV)×fP)
 |[],ρ=>some (none,.next ρ)|st::r,ρ=>(FK nm st).elim ((H' G sv d cx ρ st).bind λx=>x.casesOn (λaV=>WG G sv nm f0 R d cx r aV) λm=>some (none,.ret m)) λq=>bif bO cx q.1&&(!bk q.2.2&&gc (sv.ev d cx ρ (.Name nm q.2.1)) f0)then two (bF (sv.ev d cx ρ) q.2.2) (w_ G sv d cx r ((q.1,R)::ρ)) λas res=>some (some as,res)else none
section
variable{W:aE}{G:fj}{A:Around}{vol own:List Addr}{s:Shared}{d:Nat}{env:Env}{cx:Cx}{ρ:au}{sv:Sv}
theorem av.le{d':Nat}{f:Addr}{ms:List XV}{m:XV}(h:av W d f ms m)(e:d<=d'):av W d' f ms m:=λI R hv=>h I (R.le e) hv
theorem mw(ok:al W sv)(R:ψ A d){n:Str}{q pos:Pos}{es:List Expr}{ms:List XV}{f:Addr}{m:XV}(X:az W own vol cx ρ env s)(h0:bk es=false)(e0:sv.ev d cx ρ (.Name n q)=some (.addr f))(hk:keepIn W.K (.ref f)=true)(e1:bF (sv.ev d cx ρ) es=some ms)(C:av W d f ms m):ο W A vol (eval (.Call (.Name n q) es [] pos) env) m s:=λE Q k=>by
 rw[arm_eval_Call_Name']
 refine wpAny_bind (ok.ev e0 X R E _ λvf s1 h1 k1=>?_)
 cases(show vf=.ref f from h1)
 exact site (first:=[]) (kws:=[]) (ks:=[]) ok R (X.step k1) h0 e1 rfl (λs' k2=>jf ((X.step k1).step k2).inv.k hk) (λs' vs kv k2 hv hkv=>(show kv=[]from hkv)▸(C ((X.step k1).step k2).inv R hv).call) E Q λv s' a b=>k v s' a (k1.trans b)
theorem t0{e:Expr}{x:Str}{p pos:Pos}{m:XV}(X:az W own vol cx ρ env s)(h0:i_ e=false)(hc:bO cx x=true)(h:ο W A vol (eval e env) m s):Runs W A own vol cx env (exec (.Assign [.Name x p] e pos) env) (.next ((x,m)::ρ)) s:=λE Q k=>wpAny_Assign_Name (h E _ λv s1 h1 k1=>eg (X.step k1) hc h1 E _ λs2 X2 k2=>k _ _ ⟨rfl,X2⟩ ((ae.of k1).trans k2)) (km h0)
theorem Hq(GO:bM W G)(ok:al W sv)(R:ψ A d){nm:Str}{f0:Nat}{m0:XV}(hk:keepIn W.K (.ref f0)=true){l:List Stmt}:∀{ρ:au}{q:Option (List XV)×fP}{s:Shared},WG G sv nm f0 m0 d cx l ρ=some q->(∀as,q.1=some as->av W d f0 as m0)->az W own vol cx ρ env s->Runs W A own vol cx env (execs l env) q.2 s:=by induction l with
|nil=>exact λ{ρ q s}h=>θ (P:=λq:Option (List XV)×fP=>(∀as,q.1=some as->av W d f0 as m0)->az W own vol cx ρ env s->Runs W A own vol cx env (execs [] env) q.2 s) h λ_ X=>RE X|cons st l ih=>
    intro ρ q s h C X
    refine db h (λ_ h=>O h λx e1 h=>?_) λa h1 h=>ξ h λc h=>η c λc1 c=>η c λc2 c3=>π h λas res e1 e2 h=>?_
    · have h1:=hX GO ok e1 X R
      cases x with
|next aV=>exact iK h1 λs' X'=>ih h C X'|ret m=>
        cases h
        exact nH h1
    · cases h
      cases xX h1 with|mk p pos fY=>exact iK (t0 X rfl c1 (mw ok R X (aP c2) (di c3) hk e1 (C as rfl))) λs' X'=>q7 GO ok R e2 X'
def callC(G:fj)(sv:Sv)(nm:Str)(f0:Nat)(R:XV)(d f:Nat)(ms:List XV):Option (Option (List XV)×XV):=d.casesOn none λd=>(G.fn f).bind λft=>(ft.bind ms []).bind λρ=>bif bp ft.names ρ then(WG G sv nm f0 R d ⟨ft.names⟩ ft.body ρ).bind λp=>some (p.1,u_ p.2)else none
theorem Eu(GO:bM W G)(ok:al W sv){nm:Str}{f0 d f:Nat}{m0 m:XV}{ms:List XV}{as:List XV}(hk:keepIn W.K (.ref f0)=true)(e:callC G sv nm f0 m0 (d+1) f ms=some (some as,m))(C:av W d f0 as m0):av W (d+1) f ms m:=λ{A vol s vs}I R hv=>O e λft e1 e=>O e λρ e2 e=>ξ e λc e=>O e λp e3 e4=>by
 obtain⟨a,b⟩:=Prod.mk.inj (Option.some.inj e4)
 exact b▸nI I R (GO.fn _ _ e1) e2 c hv aL λX R=>Hq GO ok R hk e3 (λas' z=>Option.some.inj (a.symm.trans z)▸C) X
theorem jl(ok:al W sv){d f:Nat}{ms:List XV}{m:XV}(e:sv.call d f ms []=some m):av W d f ms m:=λI R hv=>ok.call e I R hv aL
end
noncomputable def pr{α β:Type}(l:List α)(r:List β):List (α×β):=l.flatMap λa=>r.map λb=>(a,b)
theorem aw{α β:Type}{l:List α}{r:List β}{a:α}{b:β}(h:a∈l)(k:b∈r):(a,b)∈pr l r:=List.mem_flatMap.mpr ⟨a,h,List.mem_map.mpr ⟨b,k,rfl⟩⟩
theorem bK{α:Type}{l:List α}{p:α->Bool}{a:α}(h:a∈l)(k:p a=true):a∈l.filter p:=List.mem_filter.mpr ⟨h,k⟩
theorem jG{a:Bool}(e:a=false):(!a)=true:=e▸rfl
noncomputable def zon(b:List Bool)(x:Ls):Ls:=⟨b.getD 0 false,b.getD 1 false,b.getD 2 false,x.d,x.u⟩
noncomputable def eJ(b:List Bool)(i:Nat)(x:Ls):Ls:=⟨x.z,x.o,x.n,b.getD i x.d,b.getD (i+1) x.u⟩
section
variable(P:Params)(col:Nat->Bool)(res:List ((Nat×Nat×Nat)×Int))(β γ δ:Nd)(a b a2 b2 a3 b3 nd:XV)(i:Bool)(x y z:Ls)
def cY(k:List Nat)(n:Nat)(t:Td)(x:Ls)(u:Td)(y:Ls)(v:Td)(z:Ls)(nd:XV):Option XV:=Yr P col res k (tk n (pX β t x a b) (pX γ u y a2 b2) (pX δ v z a3 b3)) nd
noncomputable def acr:List Td:=[.no,.op]
def acs:List (Td×Td):=(pr mR mR).filter λq=>!aT q.1 q.2 .B
def act:List (Td×Td×Td):=(pr mR (pr mR mR)).filter λq=>!aT q.1 q.2.1 q.2.2
theorem ahM(k:List Nat):acr.map (λt=>cY P col res β γ δ a b a2 b2 a3 b3 k 1 t x .B y .B z nd)=acr.map λt=>some (ES t .B .B).x:=by kernel_rfl
theorem ahN(k:List Nat):acs.map (λq=>cY P col res β γ δ a b a2 b2 a3 b3 k 2 q.1 x q.2 y .B z nd)=acs.map λq=>some (ES q.1 q.2 .B).x:=by kernel_rfl
theorem ahO(k:List Nat):act.map (λq=>cY P col res β γ δ a b a2 b2 a3 b3 k 3 q.1 x q.2.1 y q.2.2 z nd)=act.map λq=>some (ES q.1 q.2.1 q.2.2).x:=by kernel_rfl
def Z7(q:Kd×Td):Bool:=qH q.1 false false q.2.fk false false q.2.qS false q.2.fk false false false
def Z8(q:Kd×Td×Td):Bool:=qI q.1 false false false (q.2.1.fk&&q.2.2.fk) (q.2.1.fk&&q.2.2.mD) (q.2.1.fk&&q.2.2.qS) (q.2.1.fk&&q.2.2.fk) false
def Z9(q:Td×Td×Td):Bool:=q.1.fk&&(Td.same q.2.1 q.2.2&&!q.2.1.mD)
def k1L:List (Kd×Td):=pr jF qT
def Z_:List (Kd×Td×Td):=pr uL (pr qT qT)
def Zf:List (Td×Td×Td):=pr qT (pr qT qT)
theorem ahP:(k1L.filter λq=>!Z7 q).map (λq=>cY P col res β γ δ a b a2 b2 a3 b3 q.1.name 1 q.2 x .B y .B z nd)=(k1L.filter λq=>!Z7 q).map λq=>some (kM i q.1 1 q.2 x .B y .B z).x:=by kernel_rfl
theorem ahQ:(pr (k1L.filter Z7) (bD 3)).map (λq=>cY P col res β γ δ a b a2 b2 a3 b3 q.1.1.name 1 q.1.2 (zon q.2 x) .B y .B z nd)=(pr (k1L.filter Z7) (bD 3)).map λq=>some (kM i q.1.1 1 q.1.2 (zon q.2 x) .B y .B z).x:=by kernel_rfl
theorem ahR:(Z_.filter λq=>!Z8 q).map (λq=>cY P col res β γ δ a b a2 b2 a3 b3 q.1.name 2 q.2.1 x q.2.2 y .B z nd)=(Z_.filter λq=>!Z8 q).map λq=>some (kM i q.1 2 q.2.1 x q.2.2 y .B z).x:=by kernel_rfl
theorem ahS:(pr (Z_.filter Z8) (bD 4)).map (λq=>cY P col res β γ δ a b a2 b2 a3 b3 q.1.1.name 2 q.1.2.1 (eJ q.2 0 x) q.1.2.2 (eJ q.2 2 y) .B z nd)=(pr (Z_.filter Z8) (bD 4)).map λq=>some (kM i q.1.1 2 q.1.2.1 (eJ q.2 0 x) q.1.2.2 (eJ q.2 2 y) .B z).x:=by kernel_rfl
theorem ahT:(Zf.filter λq=>!Z9 q).map (λq=>cY P col res β γ δ a b a2 b2 a3 b3 Kd.dN.name 3 q.1 x q.2.1 y q.2.2 z nd)=(Zf.filter λq=>!Z9 q).map λq=>some (kM i .dN 3 q.1 x q.2.1 y q.2.2 z).x:=by kernel_rfl
theorem ahU:(pr (Zf.filter Z9) (bD 2)).map (λq=>cY P col res β γ δ a b a2 b2 a3 b3 Kd.dN.name 3 q.1.1 (eJ q.2 0 x) q.1.2.1 y q.1.2.2 z nd)=(pr (Zf.filter Z9) (bD 2)).map λq=>some (kM i .dN 3 q.1.1 (eJ q.2 0 x) q.1.2.1 y q.1.2.2 z).x:=by kernel_rfl
def thL:List (Nat×Td×Td×Td):=qT.map (λt=>(1,t,.B,.B))++((pr qT qT).map (λq=>(2,q.1,q.2,.B))++Zf.map λq=>(3,q))
def FL(n:Nat)(t u v:Td):Bool:=t.fk&&(Nat.beq n 1||(u.mD&&(Nat.beq n 2||v.mD)))
def acu:List (Nat×List Bool):=n3.flatMap λn=>((bD (2*n)).filter λb=>!b.all id).map λb=>(n,b)
noncomputable def spT(n:Nat):Td×Td:=bif Nat.beq n 1 then(.B,.B)else bif Nat.beq n 2 then(.W,.B)else(.W,.W)
noncomputable def m_(n:Nat):List Bool:=List.replicate (2*n) true
theorem thA:(thL.filter λq=>!FL q.1 q.2.1 q.2.2.1 q.2.2.2).map (λq=>cY P col res β γ δ a b a2 b2 a3 b3 Kd.aR.name q.1 q.2.1 x q.2.2.1 y q.2.2.2 z nd)=(thL.filter λq=>!FL q.1 q.2.1 q.2.2.1 q.2.2.2).map λq=>some (kM i .aR q.1 q.2.1 x q.2.2.1 y q.2.2.2 z).x:=by kernel_rfl
theorem thB:acu.map (λq=>cY P col res β γ δ a b a2 b2 a3 b3 Kd.aR.name q.1 .B (eJ q.2 0 x) (spT q.1).1 (eJ q.2 2 y) (spT q.1).2 (eJ q.2 4 z) nd)=acu.map λq=>some (kM i .aR q.1 .B (eJ q.2 0 x) (spT q.1).1 (eJ q.2 2 y) (spT q.1).2 (eJ q.2 4 z)).x:=by kernel_rfl
theorem ahV:(pr n3 m5).map (λq=>cY P col res β γ δ a b a2 b2 a3 b3 Kd.aR.name q.1 .B (eJ (m_ q.1) 0 x) (spT q.1).1 (eJ (m_ q.1) 2 y) (spT q.1).2 (eJ (m_ q.1) 4 z) (nJ q.2))=(pr n3 m5).map λq=>some (kM (bY q.2 q.1) .aR q.1 .B (eJ (m_ q.1) 0 x) (spT q.1).1 (eJ (m_ q.1) 2 y) (spT q.1).2 (eJ (m_ q.1) 4 z)).x:=by kernel_rfl
end
section
variable{P:Params}{col:Nat->Bool}{res:List ((Nat×Nat×Nat)×Int)}{β γ δ:Nd}{a b a2 b2 a3 b3 nd:XV}{i:Bool}{x y z:Ls}{t u v:Td}
theorem adZ{n:Nat}(k:List Nat)(F:fL n u v)(e:aT t u v=false):cY P col res β γ δ a b a2 b2 a3 b3 k n t x u y v z nd=some (ES t u v).x:=by cases F with
 |a=>exact ai (ahM P col res β γ δ a b a2 b2 a3 b3 nd x y z k) t ((iG ((Bool.and_true _).symm.trans e)).elim (λe=>e▸.head _) λe=>e▸.tail _ (.head _))|b u=>exact ai (ahN P col res β γ δ a b a2 b2 a3 b3 nd x y z k) (t,u) (bK (aw (dC t) (dC u)) (jG e))|c u v=>exact ai (ahO P col res β γ δ a b a2 b2 a3 b3 nd x y z k) (t,u,v) (bK (aw (dC t) (aw (dC u) (dC v))) (jG e))
theorem vK{n m:Nat}(hn:n∈n3)(hm:m∈m5)(bs:List Bool)(hl:bs.length=2*n):cY P col res β γ δ a b a2 b2 a3 b3 Kd.aR.name n .B (eJ bs 0 x) (spT n).1 (eJ bs 2 y) (spT n).2 (eJ bs 4 z) (nJ m)=some (kM (bY m n) .aR n .B (eJ bs 0 x) (spT n).1 (eJ bs 2 y) (spT n).2 (eJ bs 4 z)).x:=by cases h:bs.all id with
 |false=>exact ai (thB P col res β γ δ a b a2 b2 a3 b3 (nJ m) (bY m n) x y z) (n,bs) (List.mem_flatMap.mpr ⟨n,hn,List.mem_map.mpr ⟨bs,bK (hl▸aO bs) (jG h),rfl⟩⟩)|true=>
  have e:bs=m_ n:=(List.eq_replicate_of_mem λb m=>List.all_eq_true.mp h b m).trans (congrArg (List.replicate · true) hl)
  exact e▸ai (ahV P col res β γ δ a b a2 b2 a3 b3 x y z) (n,m) (aw hn hm)
theorem thT{n m:Nat}(hn:n∈n3)(hm:m∈m5){q:Nat×Td×Td×Td}(hq:q∈thL)(k:FL q.1 q.2.1 q.2.2.1 q.2.2.2=true->cY P col res β γ δ a b a2 b2 a3 b3 Kd.aR.name q.1 q.2.1 x q.2.2.1 y q.2.2.2 z (nJ m)=some (kM (bY m n) .aR q.1 q.2.1 x q.2.2.1 y q.2.2.2 z).x):cY P col res β γ δ a b a2 b2 a3 b3 Kd.aR.name q.1 q.2.1 x q.2.2.1 y q.2.2.2 z (nJ m)=some (kM (bY m n) .aR q.1 q.2.1 x q.2.2.1 y q.2.2.2 z).x:=by cases h:FL q.1 q.2.1 q.2.2.1 q.2.2.2 with
 |false=>exact ai (thA P col res β γ δ a b a2 b2 a3 b3 (nJ m) (bY m n) x y z) q (bK hq (jG h))|true=>exact k h
theorem ad0{κ:Sh}(ok:dU κ)(F:fL κ.n u v)(e:aT t u v=true):cY P col res β γ δ a b a2 b2 a3 b3 κ.k.name κ.n t x u y v z (nJ κ.m)=some (kM κ.i κ.k κ.n t x u y v z).x:=by
 refine η e λe1 e=>η e λe2 e3=>?_
 cases ok with
 |@w k m c hk=>
  cases(show fL 1 u v from F)
  have hm:=aw hk (ao e1)
  cases h:Z7 (k,t)with
  |false=>exact ai (ahP P col res β γ δ a b a2 b2 a3 b3 (nJ m) _ x y z) (k,t) (bK hm (jG h))|true=>exact ai (ahQ P col res β γ δ a b a2 b2 a3 b3 (nJ m) _ x y z) ((k,t),[x.z,x.o,x.n]) (aw (bK hm h) (aO [x.z,x.o,x.n]))
 |@t k m c hk=>
  cases(show fL 2 u v from F)
  have hm:=aw hk (aw (ao e1) (ao e2))
  cases h:Z8 (k,t,u)with
  |false=>exact ai (ahR P col res β γ δ a b a2 b2 a3 b3 (nJ m) _ x y z) (k,t,u) (bK hm (jG h))|true=>exact ai (ahS P col res β γ δ a b a2 b2 a3 b3 (nJ m) _ x y z) ((k,t,u),[x.d,x.u,y.d,y.u]) (aw (bK hm h) (aO [x.d,x.u,y.d,y.u]))
 |a m c=>
  have hm:=aw (ao e1) (aw (ao e2) (ao e3))
  cases h:Z9 (t,u,v)with
  |false=>exact ai (ahT P col res β γ δ a b a2 b2 a3 b3 (nJ m) _ x y z) (t,u,v) (bK hm (jG h))|true=>exact ai (ahU P col res β γ δ a b a2 b2 a3 b3 (nJ m) _ x y z) ((t,u,v),[x.d,x.u]) (aw (bK hm h) (aO [x.d,x.u]))
 |@h n m c hn hm=>cases(show fL n u v from F)with
  |a=>
   refine thT (q:=(1,t,.B,.B)) hn hm (List.mem_append_left _ (List.mem_map.mpr ⟨t,ao e1,rfl⟩)) λh=>η h λh1 _=>?_
   cases dZ (t:=t) (u:=.B) h1
   exact vK (x:=x) (y:=y) (z:=z) hn hm [x.d,x.u] rfl|b u=>
   refine thT (q:=(2,t,u,.B)) hn hm (List.mem_append_right _ (List.mem_append_left _ (List.mem_map.mpr ⟨(t,u),aw (ao e1) (ao e2),rfl⟩))) λh=>η h λh1 h=>η h λh2 _=>?_
   cases dZ (t:=t) (u:=.B) h1
   cases dZ (t:=u) (u:=.W) h2
   exact vK (x:=x) (y:=y) (z:=z) hn hm [x.d,x.u,y.d,y.u] rfl|c u v=>
   refine thT (q:=(3,t,u,v)) hn hm (List.mem_append_right _ (List.mem_append_right _ (List.mem_map.mpr ⟨(t,u,v),aw (ao e1) (aw (ao e2) (ao e3)),rfl⟩))) λh=>η h λh1 h=>η h λh2 h3=>?_
   cases dZ (t:=t) (u:=.B) h1
   cases dZ (t:=u) (u:=.W) h2
   cases dZ (t:=v) (u:=.W) h3
   exact vK (x:=x) (y:=y) (z:=z) hn hm [x.d,x.u,y.d,y.u,z.d,z.u] rfl
theorem Ys{κ:Sh}(ok:dU κ)(F:fL κ.n u v):cY P col res β γ δ a b a2 b2 a3 b3 κ.k.name κ.n t x u y v z (nJ κ.m)=some (rS κ t x u y v z).x:=by
 unfold rS
 cases e:aT t u v with
 |false=>exact adZ _ F e|true=>exact ad0 ok F e
end
theorem CP{x:XV}{y}:Ab x=some y->x=.tuple y:=by cases x with
 |tuple l=>exact λe=>congrArg XV.tuple (Option.some.inj e)|_=>exact ζ
theorem rn{x:XV}{y}:dK x=some y->x=.str y:=by cases x with
 |str l=>exact λe=>congrArg XV.str (Option.some.inj e)|_=>exact ζ
theorem CQ{x:XV}{y}:mA x=some y->x=.bytes y:=by cases x with
 |bytes l=>exact λe=>congrArg XV.bytes (Option.some.inj e)|_=>exact ζ
structure qK where
 o:XV
 told:XV
 p:XV
 t:Tx
 b:Bx
noncomputable def qK.x(f:qK):XV:=.tuple [f.o,f.told,f.p,.str f.t,.bytes f.b]
def QN(ms:List XV):Option qK:=ms.casesOn none λa r=>r.casesOn none λb r=>r.casesOn none λc r=>(jt r).bind λp=>two (dK p.1) (mA p.2) λt u=>some ⟨a,b,c,t,u⟩
def five(m:XV):Option qK:=(Ab m).bind QN
theorem Ev{ms:List XV}{f:qK}(h:QN ms=some f):ms=[f.o,f.told,f.p,.str f.t,.bytes f.b]:=by cases ms with
 |nil=>exact ζ h|cons a r=>cases r with
  |nil=>exact ζ h|cons b r=>cases r with
   |nil=>exact ζ h|cons c r=>
    refine O h λp h3 h2=>π h2 λt u h4 h5 h2=>?_
    cases h2
    exact congrArg (λr=>a::b::c::r) ((mf h3).trans (congr (congrArg List.cons (rn h4)) (congrArg (λy=>[y]) (CQ h5))))
theorem xY{m:XV}{f:qK}(h:five m=some f):m=f.x:=O h λms h1 h2=>(CP h1).trans (congrArg XV.tuple (Ev h2))
noncomputable def pS(β:Nd)(t:XV)(l:Ls)(i:Nat)(b:Bx):XV:=.tuple [.node β,t,.dD l,.str [.sym i],.bytes b]
abbrev LnT:=List XV×XV×XV×Ls
def QO(e:Option (Option (List XV)×XV))(tx:Tx)(bx:Bx):Option LnT:=e.bind λq=>two q.1 (five q.2) λas f=>(eQ f.p).bind λL=>bif rl f.t tx&&rm f.b bx then some (as,f.o,f.told,L)else none
structure ahW(e:Option (Option (List XV)×XV))(tx:Tx)(bx:Bx)(as:List XV)(o R:XV)(L:Ls)(f:qK):Prop where
 e:e=some (some as,f.x)o:f.o=o
 R:f.told=R
 L:eQ f.p=some L
 t:rl f.t tx=true
 b:rm f.b bx=true
theorem Ew{e:Option (Option (List XV)×XV)}{tx:Tx}{bx:Bx}{as:List XV}{o R:XV}{L:Ls}(h:QO e tx bx=some (as,o,R,L)):∃f,ahW e tx bx as o R L f:=O h λq h1 h=>π h λas' f h2 h3 h=>O h λL' h4 h=>ξ h λc h=>η c λc1 c2=>by
 cases h
 exact⟨f,h1.trans (congrArg some (congr (congrArg Prod.mk h2) (xY h3))),rfl,rfl,h4,c1,c2⟩
section
variable(P:Params)(aB wr eu eK:Bool)(m:Nat)(β γ δ:Nd)(t u v:XV)(x y z:Ls)(c:UInt8)
def Sh.ps(κ:Sh)(β γ δ:Nd)(t u v:XV)(x y z:Ls):List XV:=tk κ.n (pS β t x 0 κ.b0) (pS γ u y 1 (sB 1)) (pS δ v z 2 (sB 2))
def lnC(κ:Sh)(R:Td):Option (Option (List XV)×XV):=callC (G1 P (eX [wr,eu,eK]) []) (Ae P (eX [wr,eu,eK]) []) uK io R.x 45 aH [.str [.lit κ.k.name],.list (κ.ps β γ δ t u v x y z),nJ κ.m,.bool aB]
def lx(κ:Sh)(R:Td):Option LnT:=QO (lnC P aB wr eu eK β γ δ t u v x y z κ R) (κ.tx wr) κ.bx
def ly(κ:Sh)(R:Td):Option LnT:=some ([.str [.lit κ.k.name],.list (κ.ps β γ δ t u v x y z),nJ κ.m],κ.obj (.bool aB) (.node β) (.node γ) (.node δ),R.x,rL R (pL κ.k κ.n aB x y z))
def mT(k:Kd):List Td:=.no::.op::WD k
noncomputable def bs:List Bool:=[true,false]
theorem bJ(b:Bool):b∈bs:=by cases b with
 |true=>exact .head _|false=>exact .tail _ (.head _)
def ks(l:List Kd):List (Kd×Td):=l.flatMap λk=>(mT k).map λR=>(k,R)
theorem CR{l:List Kd}{k:Kd}{R:Td}(h:k∈l)(g:R∈mT k):(k,R)∈ks l:=List.mem_flatMap.mpr ⟨k,h,List.mem_map.mpr ⟨R,g,rfl⟩⟩
def ord(k:Kd):Bool:=!(qS k||xc k)
theorem lnW:(pr bs (ks (jF.filter ord))).map (λq=>lx P aB q.1 eu eK β γ δ t u v x y z ⟨q.2.1,1,m,c⟩ q.2.2)=(pr bs (ks (jF.filter ord))).map λq=>ly aB β γ δ t u v x y z ⟨q.2.1,1,m,c⟩ q.2.2:=by kernel_rfl
theorem lnD:(pr bs (pr bs (mT .d))).map (λq=>lx P q.2.1 q.1 eu eK β γ δ t u v x y z ⟨.d,1,m,c⟩ q.2.2)=(pr bs (pr bs (mT .d))).map λq=>ly q.2.1 β γ δ t u v x y z ⟨.d,1,m,c⟩ q.2.2:=by kernel_rfl
theorem lnV:(pr bs (pr ec (mT .v))).map (λq=>lx P aB q.1 eu eK β γ δ t u v x y z ⟨.v,1,m,q.2.1⟩ q.2.2)=(pr bs (pr ec (mT .v))).map λq=>ly aB β γ δ t u v x y z ⟨.v,1,m,q.2.1⟩ q.2.2:=by kernel_rfl
theorem ln2:(ks uL).map (λq=>lx P aB wr eu eK β γ δ t u v x y z ⟨q.1,2,m,c⟩ q.2)=(ks uL).map λq=>ly aB β γ δ t u v x y z ⟨q.1,2,m,c⟩ q.2:=by kernel_rfl
theorem ln3:(mT .dN).map (λR=>lx P aB wr eu eK β γ δ t u v x y z ⟨.dN,3,m,c⟩ R)=(mT .dN).map λR=>ly aB β γ δ t u v x y z ⟨.dN,3,m,c⟩ R:=by kernel_rfl
theorem ahX:(pr [.no,.op] (pr n3 m5)).map (λq=>lx P aB wr eu eK β γ δ t u v x y z ⟨.aR,q.2.1,q.2.2,c⟩ q.1)=(pr [.no,.op] (pr n3 m5)).map λq=>ly aB β γ δ t u v x y z ⟨.aR,q.2.1,q.2.2,c⟩ q.1:=by kernel_rfl
noncomputable def zb(b:List Bool)(i:Nat)(x:Ls):Ls:=⟨b.getD i x.z,x.o,x.n,x.d,x.u⟩
def acv:List ((Nat×Nat)×List Bool):=((pr n3 m5).filter λq=>bY q.2 q.1).flatMap λq=>(bD q.1).map λb=>(q,b)
theorem ahY:acv.map (λq=>lx P aB wr eu eK β γ δ t u v (zb q.2 0 x) (zb q.2 1 y) (zb q.2 2 z) ⟨.aR,q.1.1,q.1.2,c⟩ .B)=acv.map λq=>ly aB β γ δ t u v (zb q.2 0 x) (zb q.2 1 y) (zb q.2 2 z) ⟨.aR,q.1.1,q.1.2,c⟩ .B:=by kernel_rfl
end
inductive Lv where|z|a|b
noncomputable def dl(lv:Lv):Nat:=lv.casesOn 22 30 38
noncomputable def E0(lv:Lv):Nat:=lv.casesOn 30 38 46
def ndS(wr:Bool)(lv:Lv)(K:Nat)(l:Ls)(i:Nat)(b:Bx):Nd:=⟨wr,dl lv,.ok .none,.ok (.str [.lit [K]]),.ok (.dD l),.ok (.str [.sym i]),.ok (.bytes b),.ok (.dj 0 [i])⟩
def CS(k:Nat)(ns:List Nat)(b:Bx):Bool:=Nat.beq (k+ns.length) (g6 b)&&ns.isPerm (dM b)
def cOk(o:Option XV)(bx:Bx):Bool:=(o.bind mA).elim false (rm · bx)
def sOk(o:Option XV)(tx:Tx):Bool:=(o.bind dK).elim false (rl · tx)
def lOk(o:Option XV)(bx:Bx):Bool:=(o.bind gZ).elim false λp=>CS p.1 p.2 bx
section
variable(P:Params)(cl:List Bool)(aB:Bool)(lv:Lv)(wr eu eK:Bool)(K J H:Nat)(x y z:Ls)(m:Nat)(c:UInt8)(i:Bool)
def oS(κ:Sh):XV:=κ.obj (.bool aB) (.node (ndS wr lv K x 0 κ.b0)) (.node (ndS eu lv J y 1 (sB 1))) (.node (ndS eK lv H z 2 (sB 2)))
def mS(t:Mt)(κ:Sh):Option XV:=gO P (eX cl) [] (E0 lv) κ.k.cls t (oS aB lv wr eu eK K J H x y z κ)
def mCL(κ:Sh):Bool:=cOk (mS P cl aB lv wr eu eK K J H x y z .c κ) κ.bx&&lOk (mS P cl aB lv wr eu eK K J H x y z .l κ) κ.bx
def noV(κ:Sh):Bool:=!qS κ.k
def clL(m:Nat)(c:UInt8):List Sh:=(EZ m c).filter noV++(shT c).filter (·.i)
theorem mcl:((clL m c).all λκ=>mCL P cl aB lv wr eu eK K J H x y z κ)=true:=by cases lv<;>kernel_rfl
theorem ahZ:(ec.all λc=>mCL P cl aB lv wr eu eK K J H x y z ⟨.v,1,m,c⟩)=true:=by cases lv<;>kernel_rfl
theorem ms:(bs.all λwr=>(shA m c).all λκ=>sOk (mS P cl aB lv wr eu eK K J H x y z .s κ) (κ.tx wr))=true:=by cases lv<;>kernel_rfl
theorem mt:(ER m c).map (mS P cl aB lv wr eu eK K J H x y z .t)=(ER m c).map λκ=>some (.str (p6 κ.k (Td.tx .B) (Td.tx .V) (Td.tx .W) [.lit [K]] [.lit [J]])):=by cases lv<;>kernel_rfl
theorem mp:(pr bs (EZ m c)).map (λq=>(mS P cl q.1 lv wr eu eK K J H x y z .p q.2).bind eQ)=(pr bs (EZ m c)).map λq=>some (qL q.2.k q.2.n q.1 x y z):=by cases lv<;>kernel_rfl
def n3z:List (Nat×List Bool):=n3.flatMap λn=>(bD n).map λb=>(n,b)
theorem mpT:n3z.map (λq=>(mS P cl aB lv wr eu eK K J H (zb q.2 0 x) (zb q.2 1 y) (zb q.2 2 z) .p ⟨.aR,q.1,m,c⟩).bind eQ)=n3z.map λq=>some (qL .aR q.1 aB (zb q.2 0 x) (zb q.2 1 y) (zb q.2 2 z)):=by cases lv<;>kernel_rfl
theorem mv:(shA m c).map (λκ=>hZ P (eX cl) [] (E0 lv) κ.k.cls (oS aB lv wr eu eK K J H x y z κ))=(shA m c).map λκ=>some (vSp κ.i κ.k κ.n K x J y H z):=by cases lv<;>kernel_rfl
variable(tp:XV)(a b d e f a2 b2 d2 e2 f2 a3 b3 d3 e3 f3:gp Jm)(j j2:Jm)(γ δ:Nd)
def oX(κ:Sh)(β γ δ:Nd):Option Bool:=hZ P (eX cl) [] (E0 lv) κ.k.cls (κ.obj tp (.node β) (.node γ) (.node δ))
theorem x1:(ER m c).map (λκ=>oX P cl lv tp κ ⟨wr,dl lv,.exc,a,b,d,e,f⟩ γ δ)=(ER m c).map λ_=>some true:=by cases lv<;>kernel_rfl
theorem x2:((ER m c).filter λκ=>Nat.ble 2 κ.n).map (λκ=>oX P cl lv tp κ ⟨wr,dl lv,.ok j,a,b,d,e,f⟩ ⟨eu,dl lv,.exc,a2,b2,d2,e2,f2⟩ δ)=((ER m c).filter λκ=>Nat.ble 2 κ.n).map λ_=>some true:=by cases lv<;>kernel_rfl
theorem x3:((ER m c).filter λκ=>Nat.ble 3 κ.n).map (λκ=>oX P cl lv tp κ ⟨wr,dl lv,.ok j,a,b,d,e,f⟩ ⟨eu,dl lv,.ok j2,a2,b2,d2,e2,f2⟩ ⟨eK,dl lv,.exc,a3,b3,d3,e3,f3⟩)=((ER m c).filter λκ=>Nat.ble 3 κ.n).map λ_=>some true:=by cases lv<;>kernel_rfl
end
noncomputable def xd(a b:Bool):Bool:=bif a then b else !b
theorem fD{a b:Bool}:xd a b=true->a=b:=by cases a<;>cases b<;>first|exact λ_=>rfl|exact υ
def eqL(x y:Ls):Bool:=xd x.z y.z&&(xd x.o y.o&&(xd x.n y.n&&(xd x.d y.d&&xd x.u y.u)))
theorem Rs{a b c d e a' b' c' d' e':Bool}(h1:a=a')(h2:b=b')(h3:c=c')(h4:d=d')(h5:e=e'):Ls.mk a b c d e=⟨a',b',c',d',e'⟩:=h1▸h2▸h3▸h4▸h5▸rfl
theorem ro{x y:Ls}(h:eqL x y=true):x=y:=η h λh1 h=>η h λh2 h=>η h λh3 h=>η h λh4 h5=>Rs (fD h1) (fD h2) (fD h3) (fD h4) (fD h5)
noncomputable def Zg(b:List Bool):Ls:=⟨b.getD 0 false,b.getD 1 false,b.getD 2 false,b.getD 3 false,b.getD 4 false⟩
theorem ew{α:Type}{l:List α}{p:α->Bool}:l.all p=true↔∀x∈l,p x=true:=List.all_eq_true
theorem vM{p:Ls->Bool}(h:((bD 5).all λb=>p (Zg b))=true)(x:Ls):p x=true:=ew.mp h [x.z,x.o,x.n,x.d,x.u] (aO [x.z,x.o,x.n,x.d,x.u])
def abF(x y:Ls):Bool:=eqL (qOb x y) (pOb x y)&&(eqL (yP true x y) (yO true x y)&&eqL (yP false x y) (yO false x y))
theorem ad1:((bD 5).all λb=>(bD 5).all λc=>abF (Zg b) (Zg c))=true:=by kernel_rfl
theorem QP(x y:Ls):abF x y=true:=vM (p:=abF x) (vM (p:=λx=>(bD 5).all λc=>abF x (Zg c)) ad1 x) y
section
variable{p:Ls->Ls->Ls->Bool}{x y z:Ls}
theorem CT(h:((bD 2).all λb=>p (eJ b 0 x) (eJ b 2 y) (eJ b 4 z))=true):p x y z=true:=ew.mp h [x.d,x.u] (aO [x.d,x.u])
theorem CU(h:((bD 4).all λb=>p (eJ b 0 x) (eJ b 2 y) (eJ b 4 z))=true):p x y z=true:=ew.mp h [x.d,x.u,y.d,y.u] (aO [x.d,x.u,y.d,y.u])
theorem Yt(h:((bD 6).all λb=>p (eJ b 0 x) (eJ b 2 y) (eJ b 4 z))=true):p x y z=true:=ew.mp h [x.d,x.u,y.d,y.u,z.d,z.u] (aO [x.d,x.u,y.d,y.u,z.d,z.u])
end
theorem rO(i:Bool)(x y:Ls):yP i x y=yO i x y:=η (QP x y) λ_ h=>η h λh1 h2=>by cases i with
 |true=>exact ro h1|false=>exact ro h2
theorem Im{a b:Bool}:an [a,b]=(a&&b):=congrArg (a&&·) (Bool.and_true b)
theorem an3{a b c:Bool}:an [a,b,c]=(a&&(b&&c)):=congrArg (a&&·) Im
theorem or2{a b:Bool}:orr [a,b]=(a||b):=congrArg (a||·) (Bool.or_false b)
theorem CV(x y z:Ls):qAo x y z=pAo x y z:=Rs an3 (or2.trans (congr (congrArg or an3) an3)) rfl rfl Im
theorem ad2(xs:List Ls):qO xs=thO xs:=by induction xs with
 |nil=>rfl|cons l r ih=>exact(congrArg (λq=>bif l.z then q else bif Rr r then an [l.has 111]else false) ih).trans (congrArg (λq=>bif l.z then thO r else bif Rr r then q else false) (Bool.and_true _))
theorem ad3{k:Kd}{n:Nat}{aB:Bool}{x y z:Ls}:(xc k=true->x.z=true)->qL k n aB x y z=pL k n aB x y z:=by cases k with
 |dN=>exact λ_=>CV x y z|wV=>exact λ_=>rO _ x y|wW=>exact λ_=>rO _ x y|wX=>exact λ_=>CV x y _|FE=>exact λ_=>η (QP x y) λh _=>ro h|FG=>exact λ_=>Rs Im Im rfl (congrArg (_&&·) rfl) rfl|FH=>exact λ_=>Rs Im Im rfl rfl rfl|FI=>exact λ_=>Rs rfl Im rfl or2 Im|aR=>exact λ_=>Rs rfl (ad2 _) rfl rfl rfl|t=>exact λ_=>rO _ x _|d=>exact λh=>Rs rfl (a8 (C:=λb=>(122==122&&b||(122==111&&x.o)||(122==110&&x.n)||(122==100&&x.d)||(122==117&&x.u))=true) (h rfl) rfl) rfl rfl rfl|_=>exact λ_=>rfl
def okS(i:Bool)(k:Kd)(n:Nat)(t:Td)(x:Ls)(u:Td)(y:Ls)(v:Td)(z:Ls):Bool:=xd (vSp i k n t.code x u.code y v.code z) (kM i k n t x u y v z).aZ&&(!(kM i k n t x u y v z).typed||((WD k).any (Td.same (kM i k n t x u y v z))&&(Nat.beq (p6 k 66 86 87 t.code u.code) (kM i k n t x u y v z).code&&((!xc k||x.z)&&(!iX k||i)))))
section
variable{t u v:Td}{x y z:Ls}
def Af(i:Bool)(k:Kd)(n:Nat)(t u v:Td)(x y z:Ls):Bool:=okS i k n t x u y v z
theorem ck1(i:Bool)(y z:Ls):((pr jF qT).all λq=>(bD 5).all λb=>Af i q.1 1 q.2 .B .B (Zg b) y z)=true:=by kernel_rfl
theorem ck2(i:Bool)(x y z:Ls):(Z_.all λq=>(bD 4).all λb=>Af i q.1 2 q.2.1 q.2.2 .B (eJ b 0 x) (eJ b 2 y) (eJ b 4 z))=true:=by kernel_rfl
theorem ck3(i:Bool)(x y z:Ls):(Zf.all λq=>(bD 2).all λb=>Af i .dN 3 q.1 q.2.1 q.2.2 (eJ b 0 x) (eJ b 2 y) (eJ b 4 z))=true:=by kernel_rfl
theorem ckT(x y z:Ls):(bs.all λi=>thL.all λq=>(bD (2*q.1)).all λb=>Af i .aR q.1 q.2.1 q.2.2.1 q.2.2.2 (eJ b 0 x) (eJ b 2 y) (eJ b 4 z))=true:=by kernel_rfl
theorem Hr{κ:Sh}(ok:dU κ)(F:fL κ.n u v)(e:aT t u v=true):Af κ.i κ.k κ.n t u v x y z=true:=by
 refine η e λe1 e=>η e λe2 e3=>?_
 cases ok with
 |@w k m c hk=>
  cases(show fL 1 u v from F)
  exact vM (p:=λx=>Af _ k 1 t .B .B x y z) (ew.mp (ck1 (bY m 1) y z) (k,t) (aw hk (ao e1))) x|@t k m c hk=>
  cases(show fL 2 u v from F)
  exact CU (p:=Af _ k 2 t u .B) (ew.mp (ck2 (bY m 2) x y z) (k,t,u) (aw hk (aw (ao e1) (ao e2))))|a m c=>exact CT (p:=Af _ .dN 3 t u v) (ew.mp (ck3 (bY m 3) x y z) (t,u,v) (aw (ao e1) (aw (ao e2) (ao e3))))|@h n m c hn hm=>
  have go:=ew.mp (ew.mp (ckT x y z) (bY m n) (bJ _))
  cases(show fL n u v from F)with
  |a=>exact CT (p:=Af _ .aR 1 t .B .B) (go (1,t,.B,.B) (List.mem_append_left _ (List.mem_map.mpr ⟨t,ao e1,rfl⟩)))|b u=>exact CU (p:=Af _ .aR 2 t u .B) (go (2,t,u,.B) (List.mem_append_right _ (List.mem_append_left _ (List.mem_map.mpr ⟨(t,u),aw (ao e1) (ao e2),rfl⟩))))|c u v=>exact Yt (p:=Af _ .aR 3 t u v) (go (3,t,u,v) (List.mem_append_right _ (List.mem_append_right _ (List.mem_map.mpr ⟨(t,u,v),aw (ao e1) (aw (ao e2) (ao e3)),rfl⟩))))
theorem zR{α β:Type}(f:α->β)(k:Kd)(a b c d e:α):f (p6 k a b c d e)=p6 k (f a) (f b) (f c) (f d) (f e):=by cases k<;>rfl
theorem nor{a b:Bool}(h:(!a||b)=true)(k:a=true):b=true:=(Bool.or_eq_true_iff.mp h).resolve_left λz=>Bool.noConfusion ((aP z).symm.trans k)
structure ah0(i:Bool)(k:Kd)(n:Nat)(t:Td)(x:Ls)(u:Td)(y:Ls)(v:Td)(z:Ls)(R:Td):Prop where
 v:vSp i k n t.code x u.code y v.code z=R.aZ
 c:R.typed=true->R∈WD k
 t:R.typed=true->p6 k (Td.tx .B) (Td.tx .V) (Td.tx .W) [.lit [t.code]] [.lit [u.code]]=R.tx
 d:R.typed=true->xc k=true->x.z=true
 i:R.typed=true->iX k=true->i=true
theorem acw{κ:Sh}(ok:dU κ)(F:fL κ.n u v)(e:aT t u v=true):ah0 κ.i κ.k κ.n t x u y v z (kM κ.i κ.k κ.n t x u y v z):=η (Hr (x:=x) (y:=y) (z:=z) ok F e) λh1 h=>have q:∀h':(kM κ.i κ.k κ.n t x u y v z).typed=true,_:=λh'=>nor h h'
 ⟨fD h1,λh'=>η (q h') λa _=>(List.any_eq_true.mp a).elim λw y=>dZ y.2▸y.1,λh'=>η (q h') λ_ b=>η b λb _=>(zR (λc:Nat=>([.lit [c]]:Tx)) κ.k 66 86 87 t.code u.code).symm.trans ((congrArg (λc:Nat=>([.lit [c]]:Tx)) (Nat.eq_of_beq_eq_true b)).trans (rN h').symm),λh'=>η (q h') λ_ b=>η b λ_ b=>η b λb _=>nor b,λh'=>η (q h') λ_ b=>η b λ_ b=>η b λ_ b=>nor b⟩
end
structure Pt where
 told:Td
 v:gp Jm
 l:Ls
 t:List Nat
 b:List UInt8
 c:UInt8
 wr:Bool
def Pt.lit(d:Nat)(p:Pt):XV:=prt p.wr d p.told p.v p.l [.lit p.t] [.lit (p.b++[p.c])] (p.b.length+1) []
def Pt.sym(d i:Nat)(b:Bx)(p:Pt):XV:=prt p.wr d p.told p.v p.l [.sym i] b 0 [i]
def WH(t:List Nat)(wr:Bool):Prop:=∃h r,t=h++40::r/\40∉h/\h≠[]/\(58∈h↔wr=true)
structure Pt.Good(N:Nat)(p:Pt):Prop where
 tl:p.t.length<=N
 bl:p.b.length+1<=N
 hd:WH p.t p.wr
 lb:p.c∈ec
def Pt.known(p:Pt):Prop:=p.told=.op->p.v=.exc\/∃j,p.v=.ok j
def p0:Pt:=⟨.B,.stuck,sR,[65,40],[],65,false⟩
def d8(ps:List Pt)(i:Nat):Pt:=(gR ps i).getD p0
def rq(ps:List Pt)(num:Nat->Int)(mz:List Int)(res:List ((Nat×Nat×Nat)×Int)):ay:=⟨λi=>(d8 ps i).t,λi=>(d8 ps i).b,λi=>(d8 ps i).c,eX (ps.map (·.wr)),num,mz,res⟩
theorem Hs(ps:List Pt)(i:Nat):eX (ps.map (·.wr)) i=(d8 ps i).wr:=(congrArg (Option.getD · false) (List.getElem?_map ..)).trans (by
 unfold d8
 show((gR ps i).map (·.wr)).getD false=_
 cases gR ps i<;>rfl)
theorem Pt.Good.le{N M:Nat}{p:Pt}(g:p.Good N)(h:N<=M):p.Good M:=⟨Nat.le_trans g.tl h,Nat.le_trans g.bl h,g.hd,g.lb⟩
theorem good0{N:Nat}(h:2<=N):p0.Good N:=⟨h,Nat.le_trans (by decide) h,⟨[65],[],rfl,by decide+kernel,by decide+kernel,by decide+kernel⟩,by decide+kernel⟩
theorem fX{N:Nat}{ps:List Pt}(hN:2<=N)(h:∀p∈ps,p.Good N)(i:Nat):(d8 ps i).Good N:=by
 unfold d8
 cases e:gR ps i with
 |none=>exact good0 hN|some p=>exact h p (List.mem_of_getElem? e)
theorem vN{N:Nat}{ps:List Pt}{num:Nat->Int}{mz:List Int}{rs:List ((Nat×Nat×Nat)×Int)}(h2:2<=N)(hN:N<=3900)(h:∀p∈ps,p.Good N)(hr:∀j d m r,((j,d,m),r)∈rs->((num j).fdiv d).fmod m=r):(rq ps num mz rs).Ok where
 txt:=λi=>Nat.le_trans (fX h2 h i).tl (Nat.le_trans hN (by decide))
 ini:=λi=>Nat.le_trans (fX h2 h i).bl (Nat.le_trans hN (by decide))
 head:=λi=>(fX h2 h i).hd.imp λa=>Exists.imp λr e=>⟨e.1,e.2.1,e.2.2.1,e.2.2.2.trans (iff_of_eq (congrArg (·=true) (Hs ps i).symm))⟩
 res:=hr
theorem zS{S:ay}{a b:List Nat}(h:a.Perm b):aj S a=aj S b:=by induction h with
 |nil=>rfl|cons x _ ih=>exact congrArg ((S.ini x).length+1+·) ih|swap x y l=>exact Nat.add_left_comm ..|trans _ _ h k=>exact h.trans k
theorem zT{S:ay}{k:Nat}{ns:List Nat}{b:Bx}(h:CS k ns b=true):k+aj S ns=(b.den S).length:=η h λh1 h2=>have p:=List.isPerm_iff.mp h2
 have e:=vm (S:=S) b
 Nat.add_right_cancel (m:=ns.length) ((Nat.add_right_comm ..).trans ((congr (congrArg (·+·) (Nat.eq_of_beq_eq_true h1)) (zS p)).trans (e.symm.trans (congrArg (_+·) p.length_eq.symm))))
noncomputable def AM:Tx->Nat
 |[]=>0|p::q=>p.casesOn (λl=>l.length+AM q) λ_=>AM q
noncomputable def FM:Tx->Nat
 |[]=>0|p::q=>p.casesOn (λ_=>FM q) λ_=>FM q+1
theorem Yu{S:ay}{N:Nat}(h:∀i,(S.txt i).length<=N)(x:Tx):(x.den S).length<=FM x*N+AM x:=by induction x with
 |nil=>exact Nat.zero_le _|cons p q ih=>
  refine Nat.le_trans (Nat.le_of_eq List.length_append) ?_
  cases p with
  |lit l=>exact Nat.le_trans (Nat.add_le_add_left ih _) (Nat.le_of_eq (Nat.add_left_comm ..))|sym i=>exact Nat.le_trans (Nat.add_le_add (h i) ih) (Nat.le_of_eq ((Nat.add_left_comm ..).trans ((Nat.add_assoc ..).symm.trans (congrArg (·+AM q) ((Nat.succ_mul ..).symm.trans rfl)))))
theorem Ht{S:ay}{N:Nat}(h:∀i,(S.ini i).length+1<=N)(l:List Nat):aj S l<=l.length*N:=by induction l with
 |nil=>exact Nat.zero_le _|cons a r ih=>exact Nat.le_trans (Nat.add_le_add (h a) ih) (Nat.le_of_eq ((Nat.add_comm ..).trans (Nat.succ_mul ..).symm))
theorem ad4{S:ay}{N:Nat}(h:∀i,(S.ini i).length+1<=N)(x:Bx):(x.den S).length<=(dM x).length*N+g6 x:=Nat.le_trans (Nat.le_add_right _ _) (Nat.le_trans (Nat.le_of_eq ((vm (S:=S) x).trans (Nat.add_comm ..))) (Nat.add_le_add_right (Ht h _) _))
noncomputable def WI(c:UInt8)(l:List UInt8):Bool:=l.any λa=>Nat.beq a.toNat c.toNat
theorem t_{c:UInt8}{l:List UInt8}(h:WI c l=true):c∈l:=(List.any_eq_true.mp h).elim λa y=>UInt8.toNat_inj.mp (Nat.eq_of_beq_eq_true y.2)▸y.1
def ad5(p:BP):Bool:=p.casesOn (λl=>(wB l).elim false (WI · ec)) (λ_=>false) λ_=>true
noncomputable def vP:Bx->Bool
 |[]=>false|p::q=>q.casesOn (ad5 p) λ_ _=>vP q
theorem Hu{S:ay}(hl:∀i,S.lst i∈ec){x:Bx}:vP x=true->∃b c,x.den S=b++[c]/\c∈ec:=by induction x with
 |nil=>exact υ|cons p q ih=>cases q with
  |cons a r=>exact λh=>(ih h).elim λb=>Exists.rec λc e=>⟨p.den S++b,c,(congrArg (p.den S++·) e.1).trans (List.append_assoc ..).symm,e.2⟩|nil=>cases p with
   |lit l=>exact λh=>ac h λc e m=>⟨ln l,c,(List.append_nil _).trans (nG e),t_ m⟩|ini i=>exact υ|lst i=>exact λ_=>⟨[],S.lst i,rfl,hl i⟩
def wZ(wr:Bool)(κ:Sh):Bool:=Nat.ble (AM (κ.tx wr)) 20&&(Nat.beq (FM (κ.tx wr)) κ.n&&(Nat.ble (g6 κ.bx) 20&&(Nat.beq (dM κ.bx).length κ.n&&(vP κ.bx&&(Hv (iL EQ κ.k.cls) (mD κ.k))))))where Hv(o:Option Bool)(b:Bool):Bool:=o.elim false (xd · b)
theorem ad6(m:Nat)(c:UInt8):(bs.all λwr=>((ER m c).filter noV).all (wZ wr))=true:=by kernel_rfl
theorem Yv(m:Nat):(bs.all λwr=>ec.all λc=>wZ wr ⟨.v,1,m,c⟩)=true:=by kernel_rfl
theorem ad7:(yN.all λk=>!cr 40 k.name&&(!cr 58 k.name&&!ak k.name))=true:=by kernel_rfl
theorem CW{k:Kd}(h:qS k=true):k=.v:=have at_:∀k:Kd,yN[k.ctorIdx]?=some k:=λk=>by cases k<;>rfl
 Option.some.inj ((at_ k).symm.trans ((congrArg (λi:Nat=>yN[i]?) (Nat.eq_of_beq_eq_true h)).trans (at_ .v)))
theorem shV{κ:Sh}(ok:dU κ)(h:qS κ.k=true):κ=⟨.v,1,κ.m,κ.c⟩:=by cases ok with
 |w m c hk=>exact congrArg (Sh.mk · 1 m c) (CW h)|@t k m c hk=>exact cq (h.symm.trans (aP (ew.mp (by kernel_rfl:(uL.all λk=>!qS k)=true) k hk)))|a m c=>exact υ h|h c hn hm=>exact υ h
theorem Ex{κ:Sh}(ok:dU κ)(hc:κ.c∈ec)(wr:Bool):wZ wr κ=true:=by cases h:qS κ.k with
 |true=>exact a8 (C:=λκ=>wZ wr κ=true) (shV ok h) (ew.mp (ew.mp (Yv κ.m) wr (bJ wr)) κ.c hc)|false=>exact ew.mp (ew.mp (ad6 κ.m κ.c) wr (bJ wr)) κ (bK ok.f (jG h))
theorem BA{a:Nat}{l:List Nat}(h:(!cr a l)=true)(m:a∈l):False:=υ ((aP h).symm.trans ((jI a l).trans (decide_eq_true m)))
theorem QQ{S:ay}{κ:Sh}{wr b:Bool}(h:mD κ.k=b):(κ.tx wr).den S=κ.k.name++Tx.den S (bif b then txW wr else .lit [40]::κ.txN):=congrArg (λb=>Tx.den S (.lit κ.k.name::bif b then txW wr else .lit [40]::κ.txN)) h
theorem Hw{S:ay}{κ:Sh}{p:Pt}(hd:WH p.t p.wr)(e:S.txt 0=p.t):WH ((κ.tx p.wr).den S) (mD κ.k):=η (ew.mp ad7 κ.k (tY _)) λh1 h=>η h λh2 h3=>by
 have ne:κ.k.name≠[]:=λz=>cq ((congrArg ak z).symm.trans (aP h3))
 cases hw:mD κ.k with
 |false=>exact⟨κ.k.name,_,QQ hw,BA h1,ne,λm=>(BA h2 m).elim,λz=>υ z⟩|true=>
  obtain⟨h,r,a1,a2,a3,a4⟩:=hd
  have e2:∀l,l++(S.txt 0++[])=(l++h)++40::r:=λl=>(congrArg (l++·) ((List.append_nil _).trans (e.trans a1))).trans (List.append_assoc ..).symm
  have e3:∀l l',l++(l'++(S.txt 0++[]))=(l++(l'++h))++40::r:=λl l'=>(congrArg (l++·) (e2 l')).trans (List.append_assoc ..).symm
  refine⟨_,r,(QQ hw).trans (e3 _ (TP.den S (bif p.wr then .lit []else .lit [58]))),λm=>(List.mem_append.mp m).elim (BA h1) λm=>(List.mem_append.mp m).elim (λm=>?_) a2,λz=>ne (List.append_eq_nil_iff.mp z).1,λ_=>rfl,λ_=>List.mem_append_right _ ?_⟩
  ·cases hv:p.wr with
   |true=>exact nomatch(hv▸m:40∈TP.den S (bif true then .lit []else .lit [58]))|false=>exact nomatch List.mem_singleton.mp (hv▸m:40∈TP.den S (bif false then .lit []else .lit [58]))
  ·cases hv:p.wr with
   |true=>exact List.mem_append_right _ (a4.mpr hv)|false=>exact List.mem_append_left _ (.head _)
structure AsT(P:Params)(col:Nat->Bool)(rs:List ((Nat×Nat×Nat)×Int))(d C:Nat)(o:XV)(R:Td)(L:Ls)(tx:Tx)(bx:Bx):Prop where
 c:cOk (gO P col rs d C .c o) bx=true
 l:lOk (gO P col rs d C .l o) bx=true
 s:sOk (gO P col rs d C .s o) tx=true
 p:(gO P col rs d C .p o).bind eQ=some L
 t:gO P col rs d C .t o=some (.str R.tx)v:hZ P col rs d C o=some false
structure Asm(P:Params)(col:Nat->Bool)(rs:List ((Nat×Nat×Nat)×Int))(d C:Nat)(o:XV)(R:Td)(v:gp Jm)(L:Ls)(tx:Tx)(bx:Bx):Prop where
 ty:R.typed=true->AsT P col rs d C o R L tx bx
 un:R.typed=false->Ze (hZ P col rs d C o) (bif R.aZ then .exc else v)
section
variable{w:World}{S1 S:ay}{jH:S1.Ok}{hS:S.Ok}{h:Heap}{d:Nat}{wr:Bool}{C:Nat}{ms:List XV}{tp:XV}{R:Td}{v:gp Jm}{L:Ls}{tx:Tx}{bx:Bx}
theorem jm(h:R.typed=true){tx:Tx}{bx:Bx}{k:Nat}{n:List Nat}:qJ wr d R v L tx bx k n=⟨wr,d,.ok .none,.ok (.str R.tx),.ok (.dD L),.ok (.str tx),.ok (.bytes bx),.ok (.dj k n)⟩:=congrArg (λb=>bif b then _ else _) h
theorem xZ(h:R.typed=false){tx:Tx}{bx:Bx}{k:Nat}{n:List Nat}:qJ wr d R v L tx bx k n=⟨wr,d,bif R.aZ then .exc else v,.stuck,.stuck,.stuck,.stuck,.stuck⟩:=congrArg (λb=>bif b then _ else _) h
theorem Ey(A:Asm w.params S1.colon S1.res d C (fO C ms tp) R v L tx bx)(hC:iL EQ C=some wr){T:List Nat}{B:List UInt8}{k:Nat}(hT:tx.den S1=T)(hB:bx.den S1=B)(hk:B.length=k):Tr (W1 w S1 jH) (W1 w S hS) h (fO C ms tp) (.node (qJ wr d R v L [.lit T] [.lit B] k [])):=λu hv=>by
 have eT:T=Tx.den S [.lit T]:=(List.append_nil T).symm
 have eB:B=Bx.den S [.lit B]:=(List.append_nil B).symm
 cases ht:R.typed with
 |true=>
  have a:=A.ty ht
  refine ac a.c λb' c1 c2=>O c1 λcv c3 c4=>ac a.s λt' d1 d2=>O d1 λsv d3 d4=>ac a.l λl' e1 e2=>O e1 λlv e3 e4=>O a.p λpv p1 p2=>?_
  refine WF (tx:=t') (bx:=b') (k:=l'.1) (n:=l'.2) (k':=k) (n':=[]) (Nat.le_refl _) ((oh d2).trans (hT.trans eT)) ((oj c2).trans (hB.trans eB)) ((zT e2).trans ((congrArg List.length hB).trans hk)) u (a8 (C:=λβ=>ω (W1 w S1 jH) h (.node β) u) (jm ht) (xV hC hv (λm=>?_) a.v))
  cases m with
  |v=>trivial|t=>exact⟨_,a.t,rfl⟩|p=>exact⟨_,p1,p2⟩|s=>exact⟨_,d3,rn d4⟩|c=>exact⟨_,c3,CQ c4⟩|l=>exact⟨_,e3,e4⟩
 |false=>exact WF (tx:=tx) (bx:=bx) (k:=k) (n:=[]) (Nat.le_refl _) (hT.trans eT) (hB.trans eB) rfl u (a8 (C:=λβ=>ω (W1 w S1 jH) h (.node β) u) (xZ ht) (xV hC hv (λm=>by cases m<;>trivial) (A.un ht)))
theorem x0{told:XV}(tr:Tr (W1 w S1 jH) (W1 w S hS) h told R.x)(A:Asm w.params S1.colon S1.res d C (fO C ms tp) R v L tx bx)(hC:iL EQ C=some wr){pp:XV}{tt:Tx}{bb:Bx}(eL:eQ pp=some L){T:List Nat}{b:List UInt8}{c:UInt8}(hT:tx.den S1=T)(hB:bx.den S1=b++[c])(eT:tt.den S1=T)(eB:bb.den S1=b++[c]):Tr (W1 w S1 jH) (W1 w S hS) h (.tuple [fO C ms tp,told,pp,.str tt,.bytes bb]) (Pt.lit d ⟨R,v,L,T,b,c,wr⟩):=QJ (aK (Ey A hC hT hB List.length_append) (aK tr (aK (λv x=>gi eL x) (aK (p7 (eT.trans (List.append_nil T).symm)) (aK (QK (eB.trans (List.append_nil (b++[c])).symm)) gP)))))
end
def nd(lv:Lv)(i:Nat)(b:Bx)(p:Pt):Nd:=qJ p.wr (dl lv) p.told p.v p.l [.sym i] b 0 [i]
def rP(κ:Sh)(p p2 p3:Pt):Td:=rS κ p.told p.l p2.told p2.l p3.told p3.l
noncomputable def vO(b:Bool):gp Jm:=bif b then .ok .none else .stuck
def Sh.nds(κ:Sh)(lv:Lv)(aB:Bool)(p p2 p3:Pt):XV:=κ.obj (.bool aB) (.node (nd lv 0 κ.b0 p)) (.node (nd lv 1 (sB 1) p2)) (.node (nd lv 2 (sB 2) p3))
theorem BB{lv:Lv}{i:Nat}{b:Bx}{p:Pt}(h:p.told.typed=true):nd lv i b p=ndS p.wr lv p.told.code p.l i b:=(jm h).trans (congrArg (λt=>Nd.mk p.wr (dl lv) (.ok .none) (.ok (.str t)) (.ok (.dD p.l)) (.ok (.str [.sym i])) (.ok (.bytes b)) (.ok (.dj 0 [i]))) (rN h))
inductive XF(wr:Bool)(lv:Lv):Nd->Prop|mk(a b d e f:gp Jm):XF wr lv ⟨wr,dl lv,.exc,a,b,d,e,f⟩
inductive KF(wr:Bool)(lv:Lv):Nd->Prop|mk(j:Jm)(a b d e f:gp Jm):KF wr lv ⟨wr,dl lv,.ok j,a,b,d,e,f⟩
section
variable{lv:Lv}{i:Nat}{b:Bx}{p:Pt}
theorem BC(h:p.told.aZ=true):XF p.wr lv (nd lv i b p):=by
 unfold nd
 rw[xW h]
 exact .mk _ _ _ _ _
theorem CX(hk:p.known):XF p.wr lv (nd lv i b p)\/(p.told.aZ=false/\KF p.wr lv (nd lv i b p)):=by cases ht:p.told.typed with
 |true=>exact .inr ⟨tZ ht,a8 (C:=KF p.wr lv) (jm ht) (.mk _ _ _ _ _ _)⟩|false=>
  refine(iG ht).elim (λe=>.inl (BC (e▸rfl))) λe=>?_
  have z:nd lv i b p=⟨p.wr,dl lv,p.v,.stuck,.stuck,.stuck,.stuck,.stuck⟩:=(xZ ht).trans (congrArg (λt:Td=>Nd.mk p.wr (dl lv) (bif t.aZ then .exc else p.v) .stuck .stuck .stuck .stuck .stuck) e)
  exact(hk e).elim (λq=>.inl (a8 (C:=XF p.wr lv) z (q▸.mk _ _ _ _ _))) λq=>q.elim λj q=>.inr ⟨e▸rfl,a8 (C:=KF p.wr lv) z (q▸.mk _ _ _ _ _ _)⟩
end
theorem Sh.cl{κ:Sh}(ok:dU κ):noV κ=true->(iX κ.k=true->κ.i=true)->κ∈clL κ.m κ.c:=ok.rec (λm c h a _=>List.mem_append_left _ (bK (inW h) a)) (λm c h a _=>List.mem_append_left _ (bK (inT h) a)) (λm c a _=>List.mem_append_left _ (bK inA a)) λc h k _ b=>List.mem_append_right _ (bK (inH h k) (b rfl))
section
variable(P:Params)(cl:List Bool){κ:Sh}(aB:Bool)(lv:Lv)(wr eu eK:Bool)(K J H:Nat)(x y z:Ls)
theorem Yw(ok:dU κ)(hc:κ.c∈ec)(hi:iX κ.k=true->κ.i=true):mCL P cl aB lv wr eu eK K J H x y z κ=true:=by cases h:qS κ.k with
 |true=>exact a8 (C:=λκ=>mCL P cl aB lv wr eu eK K J H x y z κ=true) (shV ok h) (ew.mp (ahZ P cl aB lv wr eu eK K J H x y z κ.m) κ.c hc)|false=>exact ew.mp (mcl P cl aB lv wr eu eK K J H x y z κ.m κ.c) κ (Sh.cl ok (jG h) hi)
theorem ad8(ok:dU κ):(mS P cl aB lv wr eu eK K J H x y z .p κ).bind eQ=some (qL κ.k κ.n aB x y z):=by
 have base:κ∈EZ κ.m κ.c->(mS P cl aB lv wr eu eK K J H x y z .p κ).bind eQ=some (qL κ.k κ.n aB x y z):=λm=>ai (mp P cl lv wr eu eK K J H x y z κ.m κ.c) (aB,κ) (aw (bJ aB) m)
 cases ok with
 |w m c h=>exact base (inW h)|t m c h=>exact base (inT h)|a m c=>exact base inA|@h n m c hn hm=>
  have go:∀b,b∈bD n->_:=λb hb=>ai (mpT P cl aB lv wr eu eK K J H x y z m c) (n,b) (List.mem_flatMap.mpr ⟨n,hn,List.mem_map.mpr ⟨b,hb,rfl⟩⟩)
  rcases hn with _|⟨_,_|⟨_,_|⟨_,hn⟩⟩⟩
  ·exact go [x.z] (aO [x.z])
  ·exact go [x.z,y.z] (aO [x.z,y.z])
  ·exact go [x.z,y.z,z.z] (aO [x.z,y.z,z.z])
  ·exact nomatch hn
end
theorem vQ(t u v:Td):(ES t u v).typed=false:=by
 unfold ES
 cases t.aZ||(u.aZ||v.aZ)<;>rfl
theorem raises(P:Params)(cl:List Bool){κ:Sh}(ok:dU κ){p p2 p3:Pt}(F:fL κ.n p2.told p3.told)(k1:p.known)(k2:p2.known)(aB:Bool)(lv:Lv)(h:(p.told.aZ||(p2.told.aZ||p3.told.aZ))=true):hZ P (eX cl) [] (E0 lv) κ.k.cls (κ.nds lv aB p p2 p3)=some true:=by
 have y1:∀{β γ δ},XF p.wr lv β->oX P cl lv (.bool aB) κ β γ δ=some true:=λx=>x.rec λa b d e f=>ai (x1 P cl lv p.wr κ.m κ.c (.bool aB) a b d e f _ _) κ ok.f
 have y2:∀{β γ δ},Nat.ble 2 κ.n=true->KF p.wr lv β->XF p2.wr lv γ->oX P cl lv (.bool aB) κ β γ δ=some true:=λhn x y=>x.rec λj a b d e f=>y.rec λa2 b2 d2 e2 f2=>ai (x2 P cl lv p.wr p2.wr κ.m κ.c (.bool aB) a b d e f a2 b2 d2 e2 f2 j _) κ (bK ok.f hn)
 have y3:∀{β γ δ},Nat.ble 3 κ.n=true->KF p.wr lv β->KF p2.wr lv γ->XF p3.wr lv δ->oX P cl lv (.bool aB) κ β γ δ=some true:=λhn x y z=>x.rec λj a b d e f=>y.rec λj2 a2 b2 d2 e2 f2=>z.rec λa3 b3 d3 e3 f3=>ai (x3 P cl lv p.wr p2.wr p3.wr κ.m κ.c (.bool aB) a b d e f a2 b2 d2 e2 f2 a3 b3 d3 e3 f3 j j2) κ (bK ok.f hn)
 refine(CX k1).elim y1 λq1=>?_
 have h:=(Bool.or_eq_true_iff.mp h).resolve_left λz=>cq (z.symm.trans q1.1)
 generalize hn:κ.n=n at F
 generalize e2:p2.told=u at F
 generalize e3:p3.told=v at F
 rw[e2,e3]at h
 cases F with
 |a=>exact υ h|b u=>exact y2 ((congrArg (Nat.ble 2) hn).trans rfl) q1.2 (BC (e2▸(Bool.or_false _).symm.trans h))|c u v=>exact(CX k2).elim (y2 ((congrArg (Nat.ble 2) hn).trans rfl) q1.2) λq2=>y3 ((congrArg (Nat.ble 3) hn).trans rfl) q1.2 q2.2 (BC (e3▸(Bool.or_eq_true_iff.mp h).resolve_left λz=>cq (z.symm.trans (e2▸q2.1))))
theorem Yx(P:Params)(cl:List Bool){κ:Sh}(ok:dU κ){p p2 p3:Pt}(F:fL κ.n p2.told p3.told)(hc:κ.c∈ec)(k1:p.known)(k2:p2.known)(aB:Bool)(lv:Lv):Asm P (eX cl) [] (E0 lv) κ.k.cls (κ.nds lv aB p p2 p3) (rP κ p p2 p3) (vO (aT p.told p2.told p3.told)) (rL (rP κ p p2 p3) (pL κ.k κ.n aB p.l p2.l p3.l)) (κ.tx p.wr) κ.bx:=by
 unfold rP rS vO
 cases e:aT p.told p2.told p3.told with
 |true=>
  refine η e λt1 t23=>η t23 λt2 t3=>?_
  have sp:=acw (x:=p.l) (y:=p2.l) (z:=p3.l) ok F e
  have ho:κ.nds lv aB p p2 p3=oS aB lv p.wr p2.wr p3.wr p.told.code p2.told.code p3.told.code p.l p2.l p3.l κ:=by
   unfold Sh.nds
   rw[BB t1,BB t2,BB t3]
   rfl
  rw[ho]
  have hv:=(ai (mv P cl aB lv p.wr p2.wr p3.wr p.told.code p2.told.code p3.told.code p.l p2.l p3.l κ.m κ.c) κ ok.a').trans (congrArg some sp.v)
  refine⟨λh=>η (Yw P cl aB lv p.wr p2.wr p3.wr p.told.code p2.told.code p3.told.code p.l p2.l p3.l ok hc (sp.i h)) λc l=>⟨c,l,ew.mp (ew.mp (ms P cl aB lv p2.wr p3.wr p.told.code p2.told.code p3.told.code p.l p2.l p3.l κ.m κ.c) p.wr (bJ _)) κ ok.a',(ad8 P cl aB lv p.wr p2.wr p3.wr p.told.code p2.told.code p3.told.code p.l p2.l p3.l ok).trans (congrArg some ((ad3 (sp.d h)).trans (congrArg (λb=>bif b then _ else _) h).symm)),(ai (mt P cl aB lv p.wr p2.wr p3.wr p.told.code p2.told.code p3.told.code p.l p2.l p3.l κ.m κ.c) κ ok.f).trans (congrArg (λt=>some (XV.str t)) (sp.t h)),hv.trans (congrArg some (tZ h))⟩,λh=>?_⟩
  generalize kM κ.i κ.k κ.n p.told p.l p2.told p2.l p3.told p3.l=R at hv
  show Ze _ (bif R.aZ then .exc else .ok .none)
  cases hn:R.aZ with
  |true=>exact hv.trans (congrArg some hn)|false=>exact hv.trans (congrArg some hn)
 |false=>
  refine⟨λh=>υ ((vQ ..).symm.trans h),λ_=>?_⟩
  show Ze _ (bif(ES p.told p2.told p3.told).aZ then .exc else .stuck)
  unfold ES
  cases h:p.told.aZ||(p2.told.aZ||p3.told.aZ)with
  |true=>exact raises P cl ok F k1 k2 aB lv h|false=>trivial
theorem Yy{k:Kd}:xc k=true->k=.d:=by cases k<;>first|exact υ|exact λ_=>rfl
section
variable{P:Params}{aB wr eu eK:Bool}{β γ δ:Nd}{t u v:XV}{x y z:Ls}
theorem Yz{κ:Sh}(ok:dU κ)(hc:κ.c∈ec){R:Td}(hR:R∈mT κ.k)(hT:iX κ.k=true->R.typed=true->κ.i=true):lx P aB wr eu eK β γ δ t u v x y z κ R=ly aB β γ δ t u v x y z κ R:=by cases ok with
|@w k m c hk=>cases hv:qS k with
   |true=>
      cases CW hv
      exact ai (lnV P aB eu eK m β γ δ t u v x y z) (wr,c,R) (aw (bJ _) (aw hc hR))|false=>cases hd:xc k with
   |true=>
        cases Yy hd
        exact ai (lnD P eu eK m β γ δ t u v x y z c) (wr,aB,R) (aw (bJ _) (aw (bJ _) hR))|false=>exact ai (lnW P aB eu eK m β γ δ t u v x y z c) (wr,k,R) (aw (bJ _) (CR (bK hk (show(!(qS k||xc k))=true by rw[hv,hd];rfl)) hR))
|@t k m c hk=>exact ai (ln2 P aB wr eu eK m β γ δ t u v x y z c) (k,R) (CR hk hR)|a m c=>exact ai (ln3 P aB wr eu eK m β γ δ t u v x y z c) R hR|@h n m c hn hm=>
    have un:=λ(R:Td)(h:R∈[Td.no,.op])=>ai (ahX P aB wr eu eK β γ δ t u v x y z c) (R,n,m) (aw h (aw hn hm))
    rcases(show R∈[Td.no,.op,.B]from hR)with _|⟨_,_|⟨_,_|⟨_,h⟩⟩⟩
    ·exact un .no (.head _)
    ·exact un .op (.tail _ (.head _))
    · have go:∀b,b∈bD n->_:=λb hb=>ai (ahY P aB wr eu eK β γ δ t u v x y z c) ((n,m),b) (List.mem_flatMap.mpr ⟨(n,m),bK (aw hn hm) (hT rfl rfl),List.mem_map.mpr ⟨b,hb,rfl⟩⟩)
      rcases hn with _|⟨_,_|⟨_,_|⟨_,hn⟩⟩⟩
      ·exact go [x.z] (aO [x.z])
      ·exact go [x.z,y.z] (aO [x.z,y.z])
      ·exact go [x.z,y.z,z.z] (aO [x.z,y.z,z.z])
      ·exact nomatch hn
    ·exact nomatch h
end
theorem x5{k:Kd}{t:Td}(h:t.typed=false):t∈mT k:=(iG h).elim (λe=>e▸.head _) λe=>e▸.tail _ (.head _)
theorem CY{κ:Sh}(ok:dU κ){t u v:Td}{x y z:Ls}(F:fL κ.n u v):rS κ t x u y v z∈mT κ.k/\(iX κ.k=true->(rS κ t x u y v z).typed=true->κ.i=true):=by
 unfold rS
 cases e:aT t u v with
 |true=>
  have sp:=acw (x:=x) (y:=y) (z:=z) ok F e
  show kM κ.i κ.k κ.n t x u y v z∈_/\(_->(kM κ.i κ.k κ.n t x u y v z).typed=true->_)
  cases ht:(kM κ.i κ.k κ.n t x u y v z).typed with
  |true=>exact⟨.tail _ (.tail _ (sp.c ht)),λh _=>sp.i ht h⟩|false=>exact⟨x5 ht,λ_ z=>υ z⟩
 |false=>exact⟨x5 (vQ t u v),λ_ z=>υ ((vQ t u v).symm.trans z)⟩
def iY(t u v:Td):Bool:=t.fK||(u.fK||v.fK)
theorem YA:((pr mR (pr mR mR)).all λq=>iY q.1 q.2.1 q.2.2||(aT q.1 q.2.1 q.2.2||(ES q.1 q.2.1 q.2.2).aZ))=true:=by kernel_rfl
theorem ad9{κ:Sh}{t u v:Td}{x y z:Ls}(h:iY t u v=false)(e:rS κ t x u y v z=.op):aT t u v=true:=by
 unfold rS at e
 cases a:aT t u v with
 |true=>rfl|false=>
  have q:=ew.mp YA (t,u,v) (aw (dC _) (aw (dC _) (dC _)))
  rw[a]at e
  have r:=((Bool.or_eq_true_iff.mp q).resolve_left λz=>cq (z.symm.trans h))
  exact nomatch(xW ((Bool.or_eq_true_iff.mp r).resolve_left λz=>cq (z.symm.trans a))).symm.trans e
theorem wx(P:Params):keepIn (K1 P) (.ref io)=true:=by kernel_rfl
theorem BD{W W':aE}{h:Heap}{i:Int}:Tr W W' h (.int i) (.int i):=λ_ x=>x
theorem vR{W W':aE}{h:Heap}{b:Bool}:Tr W W' h (.bool b) (.bool b):=λ_ x=>x
theorem ah1{W W':aE}{h:Heap}{n:Nat}{a b c a' b' c':XV}(x:Tr W W' h a a')(y:Tr W W' h b b')(z:Tr W W' h c c'):uX W W' h (tk n a b c) (tk n a' b' c'):=by
 unfold tk
 cases Nat.beq n 1 with
 |true=>exact aK x gP|false=>cases Nat.beq n 2 with
  |true=>exact aK x (aK y gP)|false=>exact aK x (aK y (aK z gP))
theorem rr{w:World}{S S1:ay}{hS:S.Ok}{jH:S1.Ok}{h:Heap}{d i:Nat}{p:Pt}{b:Bx}(e1:S1.txt i=p.t)(e2:S1.ini i=p.b)(e3:b.den S1=p.b++[p.c]):Tr (W1 w S hS) (W1 w S1 jH) h (p.lit d) (p.sym d i b):=QL (Nat.le_refl _) (congrArg (·++[]) e1.symm) ((List.append_nil _).trans e3.symm) ((congrArg (λl=>l.length+1) e2.symm).trans (Nat.zero_add _).symm)
def gQ(p p2 p3:Pt):ay:=rq [p,p2,p3] (λ_=>0) [] []
def litsOf(κ:Sh)(d:Nat)(aB:Bool)(p p2 p3:Pt):List XV:=[.str [.lit κ.k.name],.list (tk κ.n (p.lit d) (p2.lit d) (p3.lit d)),nJ κ.m,.bool aB]
theorem YB{κ:Sh}{p p2 p3:Pt}(hc:κ.c=p.c):κ.b0.den (gQ p p2 p3)=p.b++[p.c]:=by
 unfold Sh.b0
 cases qS κ.k with
 |true=>exact congrArg (λc=>p.b++[c]) hc|false=>rfl
theorem zU(w:World){κ:Sh}(ok:dU κ){p p2 p3:Pt}(F:fL κ.n p2.told p3.told)(lv:Lv)(aB:Bool)(jH:(gQ p p2 p3).Ok)(k1:p.known)(k2:p2.known)(hc:κ.c=p.c)(hl:κ.c∈ec){b:List UInt8}{c:UInt8}(hb:κ.bx.den (gQ p p2 p3)=b++[c])(hC:iL EQ κ.k.cls=some (mD κ.k))(S:ay)(hS:S.Ok):av (W1 w S hS) 45 aH (litsOf κ (dl lv) aB p p2 p3) (Pt.lit (E0 lv) ⟨rP κ p p2 p3,vO (aT p.told p2.told p3.told),rL (rP κ p p2 p3) (pL κ.k κ.n aB p.l p2.l p3.l),(κ.tx p.wr).den (gQ p p2 p3),b,c,mD κ.k⟩):=by
 obtain⟨⟨o,told,pp,tt,bb⟩,e,rfl,rfl,eL,eT,eB⟩:=Ew (Yz (P:=w.params) (aB:=aB) (wr:=p.wr) (eu:=p2.wr) (eK:=p3.wr) (β:=nd lv 0 κ.b0 p) (γ:=nd lv 1 (sB 1) p2) (δ:=nd lv 2 (sB 2) p3) (t:=p.told.x) (u:=p2.told.x) (v:=p3.told.x) (x:=p.l) (y:=p2.l) (z:=p3.l) ok hl (CY ok F).1 (CY (t:=p.told) (x:=p.l) (y:=p2.l) (z:=p3.l) ok F).2)
 have hty:av _ _ _ _ _:=jl (hY w (gQ p p2 p3) jH) (Ys (P:=w.params) (col:=(gQ p p2 p3).colon) (res:=[]) (β:=nd lv 0 κ.b0 p) (γ:=nd lv 1 (sB 1) p2) (δ:=nd lv 2 (sB 2) p3) (a:=.str [.sym 0]) (b:=.bytes κ.b0) (a2:=.str [.sym 1]) (b2:=.bytes (sB 1)) (a3:=.str [.sym 2]) (b3:=.bytes (sB 2)) (t:=p.told) (x:=p.l) (y:=p2.l) (z:=p3.l) ok F)
 have C1:av _ _ _ _ _:=Eu (rk w (gQ p p2 p3) jH) (hY w (gQ p p2 p3) jH) (wx w.params) e (av.le hty (by decide))
 exact λ{A vol s vs}I RD hv RR kk=>C1 (p8 I) RD ((show uX (W1 w S hS) (W1 w (gQ p p2 p3) jH) (vis vol s.heap) (litsOf κ (dl lv) aB p p2 p3) _ from aK (p7 rfl) (aK (vH (ah1 (rr rfl rfl (YB hc)) (rr (i:=1) rfl rfl rfl) (rr (i:=2) rfl rfl rfl))) (aK BD (aK vR gP)))) _ hv) RR λu s' a b'=>kk u s' (x0 (CO _) (Yx w.params _ ok F hl k1 k2 aB lv) hC eL rfl hb (oh eT) ((oj eB).trans hb) u a) b'
theorem x6(w:World){κ:Sh}(ok:dU κ){p p2 p3:Pt}(F:fL κ.n p2.told p3.told)(lv:Lv)(aB:Bool){N:Nat}(h2:2<=N)(hN:N<=3900)(g:p.Good N)(g2:p2.Good N)(g3:p3.Good N)(k1:p.known)(k2:p2.known)(hc:κ.c=p.c):∃q:Pt,q.told=rP κ p p2 p3/\q.Good (κ.n*N+20)/\(iY p.told p2.told p3.told=false->q.known)/\∀(S:ay)(hS:S.Ok),av (W1 w S hS) 45 aH (litsOf κ (dl lv) aB p p2 p3) (q.lit (E0 lv)):=by
 have all:∀q∈[p,p2,p3],q.Good N:=aq g (aq g2 (aq g3 λ_ m=>nomatch m))
 have jH:(gQ p p2 p3).Ok:=vN h2 hN all λj d m r hm=>nomatch hm
 have ga:∀i,(d8 [p,p2,p3] i).Good N:=fX h2 all
 have hl:κ.c∈ec:=hc▸g.lb
 refine η (Ex ok hl p.wr) λa1 a=>η a λa2 a=>η a λa3 a=>η a λa4 a=>η a λa5 a6=>?_
 obtain⟨b,c,hb,m⟩:=Hu (S:=gQ p p2 p3) (λi=>(ga i).lb) a5
 have hC:iL EQ κ.k.cls=some (mD κ.k):=ac a6 λo e q=>e.trans (congrArg some (fD q))
 have bl:(κ.bx.den (gQ p p2 p3)).length<=κ.n*N+20:=Nat.le_trans (ad4 (λi=>(ga i).bl) κ.bx) (Nat.add_le_add (Nat.le_of_eq (congrArg (·*N) (Nat.eq_of_beq_eq_true a4))) (ble a3))
 exact⟨_,rfl,⟨Nat.le_trans (Yu (λi=>(ga i).tl) _) (Nat.add_le_add (Nat.le_of_eq (congrArg (·*N) (Nat.eq_of_beq_eq_true a2))) (ble a1)),Nat.le_trans (Nat.le_of_eq ((List.length_append (as:=b) (bs:=[c])).symm.trans (congrArg List.length hb.symm))) bl,Hw g.hd rfl,m⟩,λho e=>.inr ⟨.none,congrArg vO (ad9 ho e)⟩,zU w ok F lv aB jH k1 k2 hc hl hb hC⟩
def Kd.size(k:Kd)(n:Nat):Nat:=bif iX k then n+1 else k.ar
theorem wAt{k:Kd}:mD k=true->k∈jF:=λh=>List.mem_of_getElem? (i:=k.ctorIdx-9) (by revert h;cases k<;>first|exact υ|exact λ_=>rfl)
theorem Hx(k:Kd){n m:Nat}(c:UInt8)(hn:n+1∈n3)(hm:m∈m5):dU ⟨k,k.size n,m,c⟩:=by cases k with
 |dN=>exact .a m c|aR=>exact .h c hn hm|wV=>exact .t m c (List.mem_of_getElem? (i:=0) rfl)|wW=>exact .t m c (List.mem_of_getElem? (i:=1) rfl)|wX=>exact .t m c (List.mem_of_getElem? (i:=2) rfl)|FE=>exact .t m c (List.mem_of_getElem? (i:=3) rfl)|FG=>exact .t m c (List.mem_of_getElem? (i:=4) rfl)|FH=>exact .t m c (List.mem_of_getElem? (i:=5) rfl)|FI=>exact .t m c (List.mem_of_getElem? (i:=6) rfl)|_=>exact .w m c (wAt rfl)
theorem rQ{k:Kd}{n:Nat}(hn:n+1∈n3):k.size n∈n3:=by cases k<;>first|exact hn|exact .head _|exact .tail _ (.head _)|exact .tail _ (.tail _ (.head _))
theorem Ez{ps:List Pt}(h:ps.length∈n3):tk ps.length (d8 ps 0) (d8 ps 1) (d8 ps 2)=ps/\fL ps.length (d8 ps 1).told (d8 ps 2).told:=by cases ps with
 |nil=>exact nomatch h|cons a r=>cases r with
  |nil=>exact⟨rfl,.a⟩|cons b r=>cases r with
   |nil=>exact⟨rfl,.b _⟩|cons c r=>cases r with
    |nil=>exact⟨rfl,.c _ _⟩|cons d r=>exact nomatch h
theorem ua{M:Pt->Prop}{ps:List Pt}(h0:M p0)(h:∀p∈ps,M p)(i:Nat):M (d8 ps i):=by
 unfold d8
 cases e:gR ps i with
 |none=>exact h0|some p=>exact h p (List.mem_of_getElem? e)
theorem QR{n:Nat}(h:n∈n3):n<=3:=ble (ew.mp (rfl:(n3.all λn=>Nat.ble n 3)=true) n h)
theorem x9(w:World)(lv:Lv)(aB:Bool)(k:Kd){m n:Nat}(hm:m∈m5)(hn:n+1∈n3)(ps:List Pt)(hl:ps.length=k.size n){N:Nat}(h2:2<=N)(hN:N<=3900)(hg:∀p∈ps,p.Good N)(hk:∀p∈ps,p.known):∃q:Pt,q.Good (3*N+20)/\((∀p∈ps,p.told.fK=false)->q.known)/\∀(S:ay)(hS:S.Ok),av (W1 w S hS) 45 aH [.str [.lit k.name],.list (ps.map (·.lit (dl lv))),nJ m,.bool aB] (q.lit (E0 lv)):=by
  have l3:ps.length∈n3:=hl▸rQ hn
  obtain⟨e,F⟩:=Ez l3
  have kn:=ua (M:=Pt.known) (ps:=ps) (λz=>nomatch z) hk
  have go:=fX h2 hg
  obtain⟨q,_,g,kq,c⟩:=x6 w (κ:=⟨k,ps.length,m,(d8 ps 0).c⟩) (hl▸Hx k _ hn hm) F lv aB h2 hN (go 0) (go 1) (go 2) (kn 0) (kn 1) rfl
  refine⟨q,g.le (Nat.add_le_add_right (Nat.mul_le_mul_right N ?_) _),λho=>kq ?_,λS hS=>?_⟩
  ·exact QR l3
  · have o:=ua (M:=λp=>p.told.fK=false) (ps:=ps) rfl ho
    unfold iY
    rw[o 0,o 1,o 2]
    rfl
  · have x:=(nC (Pt.lit (dl lv)) ps.length (d8 ps 0) (d8 ps 1) (d8 ps 2)).symm.trans (congrArg (List.map (Pt.lit (dl lv))) e)
    have y:av (W1 w S hS) 45 aH (litsOf ⟨k,ps.length,m,(d8 ps 0).c⟩ (dl lv) aB (d8 ps 0) (d8 ps 1) (d8 ps 2)) (q.lit (E0 lv)):=c S hS
    unfold litsOf at y
    rw[x]at y
    exact@y
def acx(x:XV):Option Td:=(bif mr x then some .no else none).or ((dK x).bind λs=>(aF s).bind λl=>qT.find? λt=>dk l [t.code])
theorem Hy{x:XV}{t:Td}(h:acx x=some t):t.fK=false/\∀{W W':aE}{h:Heap},Tr W W' h x t.x:=af h (λh=>Φ (P:=λt:Td=>t.fK=false/\∀{W W':aE}{h:Heap},Tr W W' h x t.x) h λc=>⟨rfl,jk c▸λ_ y=>y⟩) λh=>O h λs e1 h=>O h λl e2 h=>by
 have m:=List.mem_of_find?_eq_some h
 have q:=dY (List.find?_some (p:=λt:Td=>dk l [t.code]) h)
 have ty:t.typed=true:=ew.mp (rfl:(qT.all Td.typed)=true) t m
 have tx:t.x=.str t.tx/\t.fK=false:=by
  revert ty
  cases t<;>first|exact υ|exact λ_=>⟨rfl,rfl⟩
 exact⟨tx.2,λ{W W' h}=>rn e1▸tx.1▸p7 ((aJ e2).trans (q.trans (a8 (C:=λy=>[t.code]=Tx.den W'.S y) (rN ty) rfl)))⟩
noncomputable def BE:List Nat->Option (List Nat)
 |[]=>none|c::r=>bif Nat.beq c 40 then some []else(BE r).map (c::·)
theorem EA{l:List Nat}:∀{h:List Nat},BE l=some h->∃r,l=h++40::r/\40∉h:=by induction l with
 |nil=>exact λe=>ζ e|cons c q ih=>exact λ{h}e=>a9 e (λz e=>θ (P:=λh=>∃r,c::q=h++40::r/\40∉h) e ⟨q,congrArg (·::q) (Nat.eq_of_beq_eq_true z),λm=>nomatch m⟩) λz e=>χ (P:=λh=>∃r,c::q=h++40::r/\40∉h) e λh' e1=>(ih e1).imp λr y=>⟨congrArg (c::·) y.1,λm=>(List.mem_cons.mp m).elim (λm=>cq ((m▸rfl:Nat.beq c 40=true).symm.trans z)) y.2⟩
def QS(t:List Nat)(b:List UInt8)(wr:Bool):Bool:=Nat.ble t.length 300&&(Nat.ble b.length 300&&(((BE t).elim false λh=>!ak h&&xd (cr 58 h) wr)&&(wB b).elim false (WI · ec)))
theorem EB{t:List Nat}{b:List UInt8}{wr:Bool}(h:QS t b wr=true)(told:Td)(v:gp Jm)(l:Ls):∃c,b=ln b++[c]/\Pt.Good 300 ⟨told,v,l,t,ln b,c,wr⟩:=η h λh1 h=>η h λh2 h=>η h λh3 h4=>ac h3 λa e1 z=>η z λz1 z2=>ac h4 λc e2 z3=>have e:=nG e2
 ⟨c,e,ble h1,Nat.le_trans (Nat.le_of_eq ((List.length_append (as:=ln b) (bs:=[c])).symm.trans (congrArg List.length e.symm))) (ble h2),(EA e1).elim λr y=>⟨a,r,y.1,y.2,λn=>cq ((congrArg ak n).symm.trans (aP z1)),(iff_of_eq (congrArg (·=true) ((jI 58 a).symm.trans (fD z2))))|>(decide_eq_true_iff (p:=58∈a)).symm.trans⟩,t_ z3⟩
theorem EC{x:XV}{p}:gN x=some p->x=.obj p.1 p.2:=by cases x with
 |obj C fs=>exact λe=>congrArg (λp:Addr×List (Str×XV)=>XV.obj p.1 p.2) (Option.some.inj e)|_=>exact ζ
def QT(x:XV):Option (Nat×List XV×XV):=(gN x).bind λp=>(jt p.2).bind λq=>bif Fast.sEq q.1.1 aW&&Fast.sEq q.2.1 a_ then(Ab q.1.2).map λms=>(p.1,ms,q.2.2)else none
theorem ED{x:XV}{q}(h:QT x=some q):x=fO q.1 q.2.1 q.2.2:=O h λp e1 h=>O h λr e2 h=>ξ h λc h=>η c λc1 c2=>χ (P:=λq:Nat×List XV×XV=>x=fO q.1 q.2.1 q.2.2) h λms e3=>(EC e1).trans (congrArg (XV.obj p.1) ((mf e2).trans (by rw[<-aA c1,<-aA c2,<-CP e3])))
def acy(P:Params)(rs:List ((Nat×Nat×Nat)×Int))(d C:Nat)(o:XV)(td:Td)(L:Ls)(tx:Tx)(bx:Bx):Bool:=bif td.typed then cOk (gO P (eX []) rs d C .c o) bx&&(lOk (gO P (eX []) rs d C .l o) bx&&(sOk (gO P (eX []) rs d C .s o) tx&&(((gO P (eX []) rs d C .p o).bind eQ).elim false (eqL · L)&&(((gO P (eX []) rs d C .t o).bind dK).elim false (E7 · td.tx)&&(hZ P (eX []) rs d C o).elim false (xd · false)))))else(hZ P (eX []) rs d C o).elim false (xd · true)
theorem vIs{o:Option Bool}{b:Bool}(h:o.elim false (xd · b)=true):o=some b:=ac h λc e q=>e.trans (congrArg some (fD q))
theorem Hz{P:Params}{rs:List ((Nat×Nat×Nat)×Int)}{d C:Nat}{o:XV}{td:Td}{L:Ls}{tx:Tx}{bx:Bx}(h:acy P rs d C o td L tx bx=true)(ho:td.fK=false):Asm P (eX []) rs d C o td .stuck L tx bx:=by
 refine a9 h (λht h=>?_) λht h=>⟨λz=>cq (z.symm.trans ht),λ_=>?_⟩
 ·exact⟨λ_=>η h λh1 h=>η h λh2 h=>η h λh3 h=>η h λh4 h=>η h λh5 h6=>⟨h1,h2,h3,ac h4 λl e q=>e.trans (congrArg some (ro q)),ac h5 λl e q=>O e λy y1 y2=>y1.trans (congrArg some ((rn y2).trans (congrArg XV.str (jP xk q)))),vIs h6⟩,λz=>cq (ht.symm.trans z)⟩
 ·exact(iG ht).elim (λe=>e▸vIs h) λe=>cq ((e▸rfl:td.fK=true).symm.trans ho)
def ah2(P:Params)(rs:List ((Nat×Nat×Nat)×Int))(aB:Bool):Option XV:=(Ae P (eX []) rs).call 45 bV [.num 0,.bool aB] []
def ah3(P:Params)(rs:List ((Nat×Nat×Nat)×Int))(d:Nat)(f:qK):Bool:=(QT f.o).elim false λq=>(acx f.told).elim false λtd=>(eQ f.p).elim false λL=>(aF f.t).elim false λt=>(iu f.b).elim false λbb=>(iL EQ q.1).elim false λwr=>QS t bb wr&&acy P rs d q.1 (fO q.1 q.2.1 q.2.2) td L f.t f.b
def rt(P:Params)(rs:List ((Nat×Nat×Nat)×Int))(d:Nat)(e:Option XV):Bool:=(e.bind five).elim false (ah3 P rs d)
def ef(bS:Int)(rs:List ((Nat×Nat×Nat)×Int)):ay:=rq [] (λ_=>bS) [] rs
structure QU(w:World)(S1:ay)(jH:S1.Ok)(d:Nat)(m:XV)(q:Pt):Prop where
 g:q.Good 300
 o:q.told.fK=false
 tr:∀{S:ay}{hS:S.Ok}{h:Heap},Tr (W1 w S1 jH) (W1 w S hS) h m (q.lit d)
theorem BF{w:World}{bS:Int}{rs:List ((Nat×Nat×Nat)×Int)}{jH:(ef bS rs).Ok}{d:Nat}{e:Option XV}(T:rt w.params rs d e=true):∃m q,e=some m/\QU w (ef bS rs) jH d m q:=ac T λf e1 T=>O e1 λm e2 e3=>ac T λq e4 T=>ac T λtd e5 T=>ac T λL e6 T=>ac T λt e7 T=>ac T λbb e8 T=>ac T λwr e9 T=>η T λg a=>(EB g td .stuck L).elim λc z=>by
 have td':=Hy e5
 have A:=Hz a td'.1
 refine⟨m,_,e2,z.2,td'.1,λ{S hS h}=>?_⟩
 rw[xY e3,qK.x,ED e4]
 exact x0 (S1:=ef bS rs) td'.2 A e9 e6 (aJ e7) ((cM e8).trans z.1) (aJ e7) ((cM e8).trans z.1)
noncomputable def ET(r:Nat):List ((Nat×Nat×Nat)×Int):=[((0,1,16),.ofNat r)]
noncomputable def rsB(r q:Nat):List ((Nat×Nat×Nat)×Int):=[((0,1,16),.ofNat r),((0,16,8),.ofNat q)]
noncomputable def rsC(q z:Nat):List ((Nat×Nat×Nat)×Int):=[((0,1,16),7),((0,16,5),.ofNat q),((0,80,2),.ofNat z)]
def tR(P:Params)(aB:Bool)(rs:List ((Nat×Nat×Nat)×Int)):Bool:=rt P rs 30 (ah2 P rs aB)
noncomputable def rA(aB:Bool):List Nat:=bif aB then[0,1,2,3,6,7,15]else[0,1,2,3,6,15]
noncomputable def rB:List Nat:=[4,5]
noncomputable def uY:Nat->List Nat
 |0=>[]|n+1=>n::uY n
theorem dy{i n:Nat}(h:i<n):i∈uY n:=by induction n with
 |zero=>exact absurd h (Nat.not_lt_zero _)|succ n ih=>exact(Nat.lt_or_eq_of_le (Nat.le_of_lt_succ h)).elim (λh=>.tail _ (ih h)) λe=>e▸.head _
theorem ah4(P:Params):(bs.all λaB=>(rA aB).all λr=>tR P aB (ET r))=true:=by kernel_rfl
theorem ah5(P:Params):(bs.all λaB=>rB.all λr=>(uY 8).all λq=>tR P aB (rsB r q))=true:=by kernel_rfl
theorem ah6(P:Params):((uY 5).all λq=>(uY 2).all λz=>tR P false (rsC q z))=true:=by kernel_rfl
noncomputable def QV(st:Stmt):Option Expr:=st.casesOn (λ_ _ _ _ _ _ _ _ _ _=>none) (λ_ _ _ _ _ _ _ _ _ _=>none) (λ_ _ _ _ _ _ _ _ _ _ _=>none) (λe _=>e) (λ_ _=>none) (λ_ _ _=>none) (λ_ _ _ _ _ _ _=>none) (λ_ _ _ _=>none) (λ_ _ _ _ _=>none) (λ_ _ _ _ _=>none) (λ_ _ _ _ _=>none) (λ_ _ _ _=>none) (λ_ _ _ _=>none) (λ_ _ _=>none) (λ_ _ _=>none) (λ_ _ _=>none) (λ_ _ _=>none) (λ_ _ _ _ _=>none) (λ_ _ _ _ _=>none) (λ_ _ _=>none) (λ_ _=>none) (λ_ _ _ _=>none) (λ_ _=>none) (λ_ _=>none) (λ_ _=>none) (λ_=>none) (λ_=>none) (λ_=>none)
theorem EE{st:Stmt}{e:Expr}:QV st=some e->∃p,st=.Return (some e) p:=by cases st with
 |Return o p=>exact λh=>⟨p,congrArg (Stmt.Return · p) h⟩|_=>exact ζ
def CZ(nm:Str)(st:Stmt):Option (Pos×List Expr):=(QV st).bind λe=>(dI e).bind λc=>bif Fast.sEq c.1.1 nm then some (c.1.2,c.2)else none
inductive BG(nm:Str)(q:Pos)(es:List Expr):Stmt->Prop|mk(pos fY:Pos):BG nm q es (.Return (some (.Call (.Name nm q) es [] pos)) fY)
theorem zV{nm:Str}{st:Stmt}{r}(h:CZ nm st=some r):BG nm r.1 r.2 st:=O h λe e1 h=>O h λc e2 h=>Φ (P:=λr:Pos×List Expr=>BG nm r.1 r.2 st) h λk=>(EE e1).elim λp z=>(dh e2).elim λp2 z2=>by
 rw[z,z2,aA k]
 exact .mk _ _
noncomputable def C0(l:List Stmt):Option (List Stmt×Stmt):=l.getLast?.map λx=>(l.dropLast,x)
theorem zW{l:List Stmt}{p}(h:C0 l=some p):l=p.1++[p.2]:=χ (P:=λp:List Stmt×Stmt=>l=p.1++[p.2]) h λx e=>(List.getLast?_eq_some_iff.mp e).elim λys z=>z.trans (congrArg (·++[x]) ((congrArg List.dropLast z).trans List.dropLast_concat).symm)
noncomputable def Zh:Str:=Str.ofString "pk"
noncomputable def jc:Str:=Str.ofString "older"
noncomputable def nextOf(r:fP):Option au:=r.casesOn some λ_=>none
theorem li{r:fP}{ρ}:nextOf r=some ρ->r=.next ρ:=by cases r with
 |next aV=>exact λe=>congrArg fP.next (Option.some.inj e)|ret m=>exact ζ
abbrev yQ:=Option XV×Option XV×Option (List XV)
def acz(G:fj)(sv:Sv)(d:Nat)(ms:List XV)(X Y:XV):Option yQ:=(G.fn bV).bind λft=>(ft.bind ms []).bind λρ=>(C0 ft.body).bind λp=>(CZ iy p.2).bind λq=>bif bp ft.names ρ&&(fg ⟨ft.names⟩ Zh&&fg ⟨ft.names⟩ jc)then((w_ G sv d ⟨ft.names⟩ p.1 ρ).bind nextOf).bind λiq=>bif !bk q.2&&gc (sv.ev d ⟨ft.names⟩ ((jc,Y)::(Zh,X)::iq) (.Name iy q.1)) aH then some (lk iq Zh,lk iq jc,bF (sv.ev d ⟨ft.names⟩ ((jc,Y)::(Zh,X)::iq)) q.2)else none else none
def BH(P:Params)(r:Nat)(aB:Bool)(X Y:XV):Option yQ:=acz (G1 P (eX []) (ET r)) (Ae P (eX []) (ET r)) 46 [.num 0,.bool aB] X Y
noncomputable def wT:List (Nat×Kd×Bool):=[(8,.v,false),(9,.v,true),(10,.a,false),(11,.s,false),(12,.l,true),(13,.j,false),(14,.a,true)]
noncomputable def l1(e:Option yQ):Option XV:=e.bind (·.1)
noncomputable def l2(e:Option yQ):Option XV:=e.bind (·.2.1)
def yR(P:Params)(aB:Bool)(q:Nat×Kd×Bool):Option yQ:=BH P q.1 aB .none .none
def ah7(P:Params)(X Y:XV)(aB:Bool)(q:Nat×Kd×Bool):Option yQ:=some (l1 (yR P aB q),l2 (yR P aB q),some [.str [.lit q.2.1.name],.list [bif q.2.2 then Y else X],nJ 0,.bool aB])
theorem ah8(P:Params):(bs.all λaB=>wT.all λq=>rt P (ET q.1) 22 (l1 (yR P aB q))&&rt P (ET q.1) 22 (l2 (yR P aB q)))=true:=by kernel_rfl
theorem aea(P:Params)(X Y:XV):(pr bs wT).map (λq=>BH P q.2.1 q.1 X Y)=(pr bs wT).map λq=>ah7 P X Y q.1 q.2:=by kernel_rfl
theorem YC(i:Bool)(x y z:Ls):(wT.all λq=>qT.all λt=>(bD 3).all λb=>!(kM i q.2.1 1 t (zon b x) .B y .B z).fK)=true:=by kernel_rfl
theorem wop{κ:Sh}{q:Nat×Kd×Bool}(h:q∈wT){t:Td}(ht:t.fK=false){x y z:Ls}:(rS ⟨q.2.1,1,0,κ.c⟩ t x .B y .B z).fK=false:=by
 unfold rS aT
 cases e:t.typed with
 |true=>exact aP (ew.mp (ew.mp (ew.mp (YC (bY 0 1) x y z) q h) t (ao e)) [x.z,x.o,x.n] (aO [x.z,x.o,x.n]))|false=>exact(iG e).elim (λe=>e▸rfl) λe=>cq ((e▸rfl:t.fK=true).symm.trans ht)
section
variable{W:aE}{G:fj}{A:Around}{vol own:List Addr}{s:Shared}{d:Nat}{env:Env}{cx:Cx}{ρ:au}{sv:Sv}
theorem EG(I:Inv W vol s)(R:ψ A (d+1)){f:Addr}{ft:kK}(FF:fq W f ft){m:XV}{n:Str}{v:Value}{RR:Result->Shared->Prop}(e1:ft.bind [m] []=some [(n,m)])(e2:lk ft.names n=some .cell)(hv:ω W (vis vol s.heap) m v)(A0:∀(own:List Addr)(env:Env)(s2:Shared),(∀a∈own,s.heap.get? a=none)->Step s s2->az W own (own++vol) ⟨ft.names⟩ [(n,m)] env s2->ψ (A.deeper env) d->env.frame=some env.locals->codeAny (Md W) A (.func ft.body env) RR s2):codeAny (Md W) A (.call (.ref f) ⟨[v],[]⟩) RR s:=by
  obtain⟨oc,od,Q_,fd,hf,hbd,fw,mY,hco,RG,hgl,hbi,A1,ve,A3⟩:=FF.it
  have e2:=aU e2
  have A4:A.depth<recursionLimit:=Nat.lt_of_le_of_lt (Nat.le_trans (Nat.le_add_right _ _) R.depth) (by decide)
  refine codeAny_call_function A4 (I.k _ _ hf) rfl hco RG hbd (codeRec_of I.k A1) ?_
  refine A3 A.in1 vol s [m] [] [v] [] _ I (Δ hv aC) aL e1 _ _ λbinds s1 hb k1=>?_
  have I1:=I.step k1
  refine ve.elim (λh=>(cF h.1 _ (mem_of_lookup e2) rfl).elim) λh=>?_
  obtain⟨uu,A5,hnd⟩:=h
  obtain⟨u,es,e,hu,e'⟩:=hb
  cases(show es=[]from e')
  have hbs:binds=[(n,u)]:=(List.reverse_reverse binds).symm.trans (congrArg List.reverse e)
  subst hbs
  rw[uu]
  have ye:∀L,(cellsFrom L fd.scope.names []).map (·.1)=((ft.names.filter (λx=>x.2==.cell)).map (·.1)).reverse:=λL=>(te ..).trans ((List.append_nil _).trans (congrArg (λl=>((List.filter (λx:Str×NameKind=>x.2==.cell) l).map (·.1)).reverse) fw))
  have nod:(((ft.names.filter (λx=>x.2==.cell)).map (·.1)).reverse).Nodup:=List.pairwise_reverse.mpr (((List.filter_sublist.map _).nodup hnd).imp Ne.symm)
  have cellAt:∀L x,ft.names.lookup x=some .cell->∃c,(cellsFrom L fd.scope.names []).lookup x=some c/\(x,c)∈cellsFrom L fd.scope.names []:=λL x a=>by
    obtain⟨⟨y,c⟩,m2,rfl⟩:=List.mem_map.mp (ye L▸List.mem_reverse.mpr (List.mem_map.mpr ⟨(x,.cell),List.mem_filter.mpr ⟨mem_of_lookup a,rfl⟩,rfl⟩):x∈(cellsFrom L fd.scope.names []).map (·.1))
    exact⟨c,lookup_of_mem_nodup (ye L▸nod) m2,m2⟩
  refine wpAny_newFunctionEnv_cells mY (λx mx=>.inr ?_) λbN he s2 IC=>?_
  · cases List.mem_singleton.mp mx
    exact⟨fw▸e2,(cellAt _ n e2).elim λc h=>congrArg Option.isSome h.1⟩
  obtain⟨h2,tk,rfl,bZ⟩:=IC.done
  have bZ:s1.heap.StaysIn h2:=bZ
  refine⟨(W.lim.keeps I1.keeps).keeps bZ,?_⟩
  have hL:s1.heap.get? s1.heap.objs.size=none:=aX _
  have Al:bN.locals=s1.heap.objs.size:=he▸rfl
  have FN:bN.cells=cellsFrom (s1.heap.objs.size+1) fd.scope.names []:=he▸rfl
  have YX:bN.scope=fd.scope:=he▸rfl
  have Zt:∀x,bN.kindOf x=ft.names.lookup x:=λx=>congrArg (List.lookup x) ((congrArg Scope.names YX).trans fw)
  have cu:∀a∈bN.locals::bN.cells.map (·.2),s1.heap.get? a=none:=λa m=>by
    rcases List.mem_cons.mp m with rfl|m
    ·exact Al▸hL
    · obtain⟨⟨n,c⟩,m2,rfl⟩:=List.mem_map.mp m
      exact Heap.get?_none_of_le (Nat.le_of_lt (Al▸IC.above n c m2))
  have mI:=rD (vol:=vol) bZ cu
  have one:∀{x mv},lk [(n,m)] x=some mv->n=x/\m=mv:=λ{x mv}q=>g0 q (λz w=>⟨z,w⟩) λ_ w=>ζ w
  have Rb:∀x,n=x->ft.names.lookup x=some .local->False:=λx z b=>nomatch(e2.symm.trans (z▸b):some NameKind.cell=some .local)
  refine A0 (bN.locals::bN.cells.map (·.2)) bN _ (λa m=>fT k1 (cu a m)) (k1.trans ⟨bZ,rfl,rfl⟩) ⟨⟨YX▸mY,λx k q=>.inl ((Zt x).trans q),he▸hgl,he▸hbi,⟨Ψ I1.top mI,λa m=>(List.mem_append.mp m).elim (λm=>(List.mem_cons.mp m).elim (λe=>?_) λm=>?_) λm=>(I1.vol a m).imp (bZ a)⟩,⟨_,IC.toInCall.ns,λx mv a b=>(Rb x (one a).1 b).elim⟩,λx mv a b=>?_⟩,λa m=>List.mem_append_left _ m,.head _,λx a=>?_,λx y c p q p' q'=>name_of_addr IC.apart (mem_of_lookup p') (mem_of_lookup q'),λx c a b=>(A5 x a).elim,λx c b=>(IC.cell x c b).imp λ_ e=>e.1⟩ (th R bN) (he▸rfl)
  · obtain⟨o,_,_,ho,_⟩:=IC.toInCall.ns
    exact⟨o,e▸ho⟩
  · obtain⟨⟨n,c⟩,m2,rfl⟩:=List.mem_map.mp m
    exact(IC.cell n c (lookup_of_mem_nodup (FN▸(ye _).symm▸nod) m2)).imp λ_ e=>e.1
  · obtain⟨rfl,rfl⟩:=one a
    obtain⟨c,hc,_⟩:=cellAt (s1.heap.objs.size+1) n e2
    have hc:bN.cells.lookup n=some c:=FN▸hc
    have bc:bindC bN.kindOf [(n,u)] (λ_=>none) n=some u:=(congrFun (if_neg (λz=>Rb n rfl ((Zt n).symm.trans z)):(if bN.kindOf n=some .local then(λ_=>none)else λy=>if y=n then some u else none)=_) n).trans (if_pos rfl)
    exact⟨c,u,hc,bc▸IC.cell n c hc,hu.mono mI⟩
  · obtain⟨c,hc,m⟩:=cellAt (s1.heap.objs.size+1) x a
    have hc:bN.cells.lookup x=some c:=FN▸hc
    have m:(x,c)∈bN.cells:=FN▸m
    exact⟨c,_,hc,.tail _ (List.mem_map_of_mem (f:=(·.2)) m),Nat.ne_of_gt (IC.above x c m),IC.cell x c hc⟩
theorem rR(GO:bM W G)(ok:al W sv)(R:ψ A d){l2:List Stmt}{E:Value->Shared->Prop}{Q:Flow->Shared->Prop}{aV:au}{l:List Stmt}:∀{ρ:au}{s:Shared},w_ G sv d cx l ρ=some (.next aV)->az W own vol cx ρ env s->(∀s',az W own vol cx aV env s'->ae own s s'->wpAny (Md W) A (execs l2 env) Q E s')->wpAny (Md W) A (execs (l++l2) env) Q E s:=by induction l with
 |nil=>
  intro ρ s h X k
  cases h
  exact k s X (.of (.refl _))|cons st l ih=>
  intro ρ s h X k
  refine O h λr1 e1 h=>?_
  cases r1 with
  |ret m=>cases h|next iq=>exact wpAny_execs_cons (hX GO ok e1 X R _ _ λf s1 hf k1=>hf.1▸ih h hf.2 λs' X' k'=>k s' X' (k1.trans k'))
theorem r_{it:kL}(IT:bR W it)(ok:al W sv)(R:ψ A d){elt:Expr}{gens:List Comprehension}{scope:Scope}{qx:Pos}{x:Str}{p pos:Pos}{l:List XV}(X:az W own vol cx ρ env s)(hc:bO cx x=true)(e:hU it sv d cx ρ elt gens scope=some (.list l)){E:Value->Shared->Prop}{Q:Flow->Shared->Prop}(k:∀D ys n s',az W own (D::vol) cx ((x,.addr D)::ρ) env s'->s.heap.get? D=none->s'.heap.get? D=some (aI ys n)->Ξ W (vis (D::vol) s'.heap) l ys->ae own s s'->Q .next s'):wpAny (Md W) A (exec (.Assign [.Name x p] (.ListComp elt gens scope qx) pos) env) Q E s:=by
 obtain⟨b,hb⟩:∃b,swapsWith (.ListComp elt gens scope qx) (some (.Name x p)) pos.line env=pure b:=⟨_,rfl⟩
 obtain⟨⟨tt,ii,ff,aa⟩,gs,jq,ms,xs,rfl,F,hx⟩:=jg e
 cases hx
 cases b with
 |false=>
  refine wpAny_Assign_Name ?_ hb
  rw[eval_ListComp,F.md]
  refine jU (use:=none) IT ok R F X λD C s' mm ys n sG hD hC l4 hg hv k2=>⟨mm,sG,λh' hs=>?_⟩
  have kk:=(tz X.inv hs hD hC l4 hg hv k2).2
  have hg':h'.get? D=some (aI ys n):=(hs.2 D l4).trans hg
  have X1:=X.hide kk hD hg'
  refine eg X1 hc (m:=.addr D) rfl E _ λs2 X2 k3=>k D ys n s2 X2 hD (k3.keep _ _ (λm=>X.inv.fresh hD (X.sub D m)) hg') (Ξ.mono (k3.vis X1.sub) (hv.mono λb o e=>?_)) ((ae.of kk).trans k3)
  have e:=ι.mp e
  exact ι.mpr ⟨(hs.2 b (λz=>e.2 (z▸.head _))).trans e.1,λm=>e.2 (.tail _ m)⟩|true=>
  rw[exec_Assign_Name_used _ _ _ _ hb]
  refine wpAny_bind (wpAny_standAt (wpAny_bind ?_))
  show wpAny (Md W) A (do let _<-comprehension (.ListComp elt (⟨tt,ii,ff,aa⟩::gs) scope qx) scope env (firstIterPos (⟨tt,ii,ff,aa⟩::gs) qx) (newList []) (firstAsync (⟨tt,ii,ff,aa⟩::gs)) (eval ii env) (some (assign (.Name x p) env))) _ E s
  rw[F.md]
  refine wpAny_bind (wpAny_mono (jU (use:=some (assign (.Name x p) env)) (Q:=λ_ s'=>Q .next s') IT ok R F X λD C s' mm ys n sG hD hC l4 hg hv k2=>?_) (λ_ s' hq=>wpAny_pure (wpAny_pure hq)) λ_ _ e=>e)
  obtain⟨oC,es,ep,Zz,r2⟩:=id sG
  have X2:az W own ([C]++(D::vol)) cx ρ env s':=X.I9 (Is:=[C,D]) k2 (aq hC (aq hD λ_ m=>nomatch m)) (aq ⟨_,Zz⟩ (aq ⟨_,hg⟩ λ_ m=>nomatch m))
  have ZA:C∉own:=λm=>X.inv.fresh hC (X.sub C m)
  have hDo:D∉own:=λm=>X.inv.fresh hD (X.sub D m)
  refine gx X2 hc (m:=.addr D) rfl E _ λs3 X3 k3=>⟨mm,⟨oC,es,ep,k3.keep C _ ZA Zz,r2⟩,λh' hs=>?_⟩
  have hx:∀{b:Addr}{o:Obj},s.heap.get? b=some o->b∉[C]:=λe z=>nomatch((congrArg s.heap.get? (List.mem_singleton.mp z)).trans hC).symm.trans e
  have uv:∀b o,b∉[C]->s3.heap.get? b=some o->h'.get? b=some o:=λb o nb e=>(hs.2 b (λz=>nb (z▸.head _))).trans e
  have kk:ae own s s3:=(ae.of k2).trans k3
  refine k D ys n {s3 with heap:=h'} (X3.sub' (Is:=[C]) (s':={s3 with heap:=h'}) uv (λa m=>.tail _ (X.sub a m)) (aG λm=>(List.mem_cons.mp m).elim (λz=>l4 z.symm) (X.inv.fresh hC)) (λz=>ZA (List.mem_singleton.mp z▸X.fF)) λy c q=>(X.cl y c q).elim λo=>hx) hD (uv D _ (λm=>l4 (List.mem_singleton.mp m)) (k3.keep _ _ hDo hg)) (Ξ.mono (jS (Is:=[C]) (s':={s3 with heap:=h'}) uv) (hv.mono (k3.vis X2.sub))) ⟨λb o nb e=>uv b o (hx e) (kk.keep b o nb e),λb o e=>(kk.live b o e).imp λo'=>uv b o' (hx e),kk.os,kk.gens⟩
theorem az.slots{s':Shared}(X:az W own vol cx ρ env s)(k:∀b o,b≠env.locals->s.heap.get? b=some o->s'.heap.get? b=some o)(u:s.heap.UpToSlots s'.heap)(ho:s'.os=s.os)(hg:s'.gens=s.gens):az W own vol cx ρ env s'/\ae own s s':=by
 obtain⟨m',a,b⟩:=X.loc
 have st:ae own s s':=⟨λb o n e=>k b o (λz=>n (z▸X.fF)) e,λb o e=>if z:b=env.locals then a.elim λoo=>Exists.rec λes=>Exists.rec λep h=>(u _ _ h.1 λvs q=>nomatch h.2.1.symm.trans q).elim λsl e'=>⟨_,z▸e'⟩else⟨o,k b o z e⟩,ho,hg⟩
 have V:=st.vis X.sub
 refine⟨⟨⟨X.kind,X.names,X.globals,X.builtins,X.inv.mV X.sub st,⟨m',u.ns a,λy mv p q=>(b y mv p q).imp λv z=>⟨z.1,z.2.mono V⟩⟩,λy mv p q=>(X.z_ y mv p q).imp λc=>Exists.imp λv z=>⟨z.1,z.2.1.imp λoc w=>⟨k c oc ?_ w.1,w.2⟩,z.2.2.mono V⟩⟩,X.sub,X.fF,λx p=>(X.mF x p).imp λc=>Exists.imp λv z=>⟨z.1,z.2.1,z.2.2.1,z.2.2.2.imp λoc w=>⟨k c oc z.2.2.1 w.1,w.2⟩⟩,X.apart,X.free,λn c h=>(X.cl n c h).elim λo e=>st.live c o e⟩,st⟩
 intro z
 obtain⟨oo,es,ep,h1,h2,_⟩:=a
 cases Option.some.inj (h1.symm.trans (z▸w.1))
 exact nomatch h2.symm.trans w.2
theorem aeb(ok:al W sv)(R:ψ A d){n:Str}{q pos:Pos}{es:List Expr}{ms:List XV}{f:Addr}(X:az W own vol cx ρ env s)(h0:bk es=false)(e0:sv.ev d cx ρ (.Name n q)=some (.addr f))(hk:keepIn W.K (.ref f)=true)(e1:bF (sv.ev d cx ρ) es=some ms){E Q:Value->Shared->Prop}(C:∀s' vs,Step s s'->Ξ W (vis vol s'.heap) ms vs->wpAny (Md W) A (call (.ref f) vs []) Q E s'):wpAny (Md W) A (eval (.Call (.Name n q) es [] pos) env) Q E s:=by
 rw[arm_eval_Call_Name']
 refine wpAny_bind (ok.ev e0 X R E _ λvf s1 h1 k1=>?_)
 cases(show vf=.ref f from h1)
 have X1:=X.step k1
 refine wF (first:=[]) (l9 h0) (dB (pos:=pos) ok R (kws:=[]) (ms:=[]) rfl X1).1 (kR ok R e1 X1 E _ λvs s2 h2 k2=>(dB ok R (kws:=[]) (ms:=[]) rfl (X1.step k2)).2 E _ λkv s3 h3 k3=>⟨jf ((X1.step k2).step k3).inv.k hk,?_⟩)
 rw[show _=[]from h3]
 exact C s3 vs ((k1.trans k2).trans k3) (h2.step k3)
theorem C2{e:Expr}(hp:vy e=true){E:Value->Shared->Prop}{Q:Bool->Shared->Prop}(h:wpAny (Md W) A (eval e env) (λv s'=>∃b,v=.bool b/\Q b s') E s):wpAny (Md W) A (isTrue e env (eval e env)) Q E s:=by
 rw[isTrue_plain hp]
 exact wpAny_bind (wpAny_mono h (λv s' h'=>h'.elim λb h=>h.1▸wpAny_bind (wpAny_standAt (wpAny_holding (wpAny_truthy_bool h.2)))) λ_ _ x=>x)
theorem wy{l:Addr}{vs:List Value}{n i:Nat}{k0:Int}{t:Tok}{v:Value}{E:Value->Shared->Prop}{Q:Unit->Shared->Prop}(hl:s.heap.get? l=some (aI vs n))(hk0:k0=(i:Nat))(hi:i<vs.length)(hz:vs.length<=1000)(k:∀h' n',h'.get? l=some (aI (vs.set i v) n')->(∀b,b≠l->h'.get? b=s.heap.get? b)->Q () {s with heap:=h'}):wpAny (Md W) A (setItem (.ref l) (.int k0 t) v) Q E s:=by
 have hL:s.heap.IsList l vs.toArray:=⟨_,hl,rfl,n,rfl⟩
 have hx:vs.toArray[i]?=some vs[i]:=(List.getElem?_toArray ..).trans (List.getElem?_eq_getElem hi)
 have f1:k0<2^63:=hk0▸Int.lt_of_lt_of_le (Int.ofNat_lt.mpr (Nat.lt_of_lt_of_le hi hz)) (by decide)
 have f2:=fitsIndex_of (hk0▸Int.natCast_nonneg i) f1
 clear f1
 unfold setItem
 refine wpAny_holding ?_
 refine wpAny_bind (wpAny_sequenceKey hL.typeIs (by decide) ?_)
 refine wpAny_bind (wpAny_callSpecial?_slot (name:=Str.ofString "__setitem__") hL.typeIs slot_list_setitem (wpAny_call_entry slot_list_setitem hL.typeIs entry_list_setitem ?_ (args_list_setitem _ _ _)))
 show wpAny _ _ (Builtin.List.listSubscript? (.int k0 t)>>=_) _ _ s
 refine wpAny_bind (wpAny_listSubscript_int f2 ?_)
 subst hk0
 show wpAny _ _ ((seqItemAt l i>>=λr=>pure (r.map (i,·)))>>=_) _ _ s
 refine wpAny_bind (wpAny_bind (wpAny_seqItemAt hl rfl (wpAny_pure ?_)))
 rw[hx]
 show wpAny _ _ (setSeqItemAt l i v>>=_) _ _ s
 have he:Obj.mapSeq (·.setIfInBounds i v) (aI vs n)=aI (vs.set i v) n:=by
  unfold aI Obj.mapSeq
  have:(vs.toArray.setIfInBounds i v).size==vs.toArray.size:=by simp
  simp only[this,if_true]
  simp
 have hu:=Heap.get?_update_self (Obj.mapSeq (·.setIfInBounds i v)) hl (he▸rfl)
 refine wpAny_bind (wpAny_setSeqItemAt hl rfl (wpAny_bind (wpAny_pure (wpAny_pure ⟨.none,rfl,wpAny_pure (k _ n (he▸hu) λb hb=>Heap.get?_update_other _ _ (Ne.symm hb))⟩))))
end
theorem aec:Fast.sEq Zh jc=false:=by kernel_rfl
section
variable{W:aE}{G:fj}{sv:Sv}{d:Nat}
theorem EH{A:Around}{vol own:List Addr}{cx:Cx}{ρ:au}{env:Env}{s:Shared}{e:Expr}{pos:Pos}{m:XV}(X:az W own vol cx ρ env s)(h:ο W A vol (eval e env) m s):Runs W A own vol cx env (exec (.Return (some e) pos) env) (.ret m) s:=λE Q k=>(exec_Return_some ..).symm▸wpAny_bind (wpAny_standAt (wpAny_bind (h E _ λv s1 h1 k1=>wpAny_pure (k _ _ ⟨v,rfl,h1,X.inv.step k1⟩ (.of k1)))))
theorem HB(GO:bM W G)(ok:al W sv){ms:List XV}{x y m1 m2 R:XV}{as:List XV}(e:acz G sv d ms x y=some (some m1,some m2,some as))(t1:∀h,Tr W W h m1 x)(t2:∀h,Tr W W h m2 y)(hk:keepIn W.K (.ref aH)=true)(C:av W d aH as R):av W (d+1) bV ms R:=λ{A vol s vs}I RD hv=>O e λft e1 e=>O e λρ e2 e=>O e λp e3 e=>O e λq e4 e=>ξ e λc e=>η c λc1 c=>O e λiq e5 e=>O e5 λr1 e6 e7=>ξ e λcc e=>η cc λcc1 cc2=>by
 obtain⟨h1,h⟩:=Prod.mk.inj (Option.some.inj e)
 obtain⟨h2,h3⟩:=Prod.mk.inj h
 obtain⟨l0,st⟩:=p
 refine nI (r:=.ret R) I RD (GO.fn _ _ e1) e2 c1 hv aL λ{own env s2}X R=>?_
 rw[zW e3]
 cases li e7
 cases zV e4 with|mk pos fY=>exact λE Q k=>rR GO ok R e6 X λs3 X3 k3=>nH (EH X3 (mw ok R ((X3.re (x:=Zh) h1 λ{v}=>t1 _ v).re (x:=jc) ((congrArg (λb=>bif b then some x else lk iq jc) aec).trans h2) λ{v}=>t2 _ v) (aP cc1) (di cc2) hk h3 C)) E Q λf s4 a b=>k f s4 a (k3.trans b)
end
theorem rT{w:World}{S1 S:ay}{jH:S1.Ok}{hS:S.Ok}{d f:Nat}{ms ZE:List XV}{m m':XV}(C:av (W1 w S1 jH) d f ms m)(ha:∀h,uX (W1 w S hS) (W1 w S1 jH) h ZE ms)(hr:∀h,Tr (W1 w S1 jH) (W1 w S hS) h m m'):av (W1 w S hS) d f ZE m':=λ{A vol s vs}I RD hv RR kk=>C (p8 I) RD (ha _ _ hv) RR λv s' a b=>kk v s' (hr _ _ a) b
def w0(bS:Int)(rs:List ((Nat×Nat×Nat)×Int)):Prop:=∀p∈rs,(bS.fdiv (p.1.2.1:Int)).fmod (p.1.2.2:Int)=p.2
theorem j5{bS:Int}{rs:List ((Nat×Nat×Nat)×Int)}(h:w0 bS rs):(ef bS rs).Ok:=vN (N:=2) (Nat.le_refl _) (by decide) (λp m=>nomatch m) λj d m r hm=>h _ hm
theorem C3{w:World}{bS:Int}{rs:List ((Nat×Nat×Nat)×Int)}{S:ay}{hS:S.Ok}{jH:(ef bS rs).Ok}{aB:Bool}{h:Heap}:uX (W1 w S hS) (W1 w (ef bS rs) jH) h [.int bS,.bool aB] [.num 0,.bool aB]:=aK (λv x=>x) (aK vR gP)
theorem w6{w:World}{S S':ay}{hS:S.Ok}{ux:S'.Ok}{h:Heap}{d d':Nat}{p:Pt}(hd:d<=d'):Tr (W1 w S hS) (W1 w S' ux) h (p.lit d) (p.lit d'):=QL hd rfl rfl rfl
structure Zi(w:World)(bS:Int)(aB:Bool)(q:Pt):Prop where
 g:q.Good 320
 o:q.told.fK=false
 c:∀(S:ay)(hS:S.Ok),av (W1 w S hS) 47 bV [.int bS,.bool aB] (q.lit 30)
theorem p9{q:Pt}(h:q.told.fK=false):q.known:=λz=>υ (h.symm.trans (z▸rfl))
theorem jn(w:World){bS:Int}{rs:List ((Nat×Nat×Nat)×Int)}{aB:Bool}(hr:w0 bS rs)(h:tR w.params aB rs=true):∃q,Zi w bS aB q:=by
 obtain⟨m,q,e,L⟩:=BF (jH:=j5 hr) h
 have C:av _ _ _ _ _:=jl (hY w (ef bS rs) (j5 hr)) e
 exact⟨q,L.g.le (by decide),L.o,λS hS=>rT (av.le C (by decide)) (λh=>C3) λh=>L.tr⟩
theorem lj(P:Params):keepIn (K1 P) (.ref aH)=true:=by kernel_rfl
theorem EI(w:World){bS:Int}{aB:Bool}{q:Nat×Kd×Bool}(hq:q∈wT)(hr:w0 bS (ET q.1)):∃q,Zi w bS aB q:=by
 have hS:=j5 hr
 refine η (ew.mp (ew.mp (ah8 w.params) aB (bJ aB)) q hq) λc1 c2=>?_
 obtain⟨m1,q1,e1,L1⟩:=BF (jH:=hS) c1
 obtain⟨m2,q2,e2,L2⟩:=BF (jH:=hS) c2
 have L:QU w (ef bS (ET q.1)) hS 22 (bif q.2.2 then m2 else m1) (bif q.2.2 then q2 else q1):=by cases q.2.2 with
  |true=>exact L2|false=>exact L1
 have hk:q.2.1∈jF:=wAt (ew.mp (rfl:(wT.all λq=>mD q.2.1)=true) q hq)
 obtain⟨r,er,g,kn,c⟩:=x6 w (κ:=⟨q.2.1,1,0,(bif q.2.2 then q2 else q1).c⟩) (.w 0 _ hk) (p:=bif q.2.2 then q2 else q1) (p2:=p0) (p3:=p0) .a .z aB (N:=300) (by decide) (by decide) L.g (good0 (by decide)) (good0 (by decide)) (p9 L.o) (p9 rfl) rfl
 refine⟨r,g.le (Nat.le_refl 320),(congrArg Td.fK er).trans (wop (κ:=⟨q.2.1,1,0,(bif q.2.2 then q2 else q1).c⟩) hq L.o),λS ux=>?_⟩
 have h:BH w.params q.1 aB (q1.lit 22) (q2.lit 22)=some (l1 (yR w.params aB q),l2 (yR w.params aB q),some [.str [.lit q.2.1.name],.list [bif q.2.2 then q2.lit 22 else q1.lit 22],nJ 0,.bool aB]):=ai (aea w.params (q1.lit 22) (q2.lit 22)) (aB,q) (aw (bJ aB) hq)
 rw[e1,e2]at h
 have C:av (W1 w (ef bS (ET q.1)) hS) 46 aH [.str [.lit q.2.1.name],.list [bif q.2.2 then q2.lit 22 else q1.lit 22],nJ 0,.bool aB] (r.lit 30):=by
  have y:av _ _ _ _ _:=av.le (c _ hS) (by decide:45<=46)
  revert y
  cases q.2.2 with
  |true=>exact λy=>@y|false=>exact λy=>@y
 have z:av (W1 w (ef bS (ET q.1)) hS) 47 bV [.num 0,.bool aB] (r.lit 30):=HB (rk w _ hS) (hY w _ hS) h (λ_=>L1.tr) (λ_=>L2.tr) (lj w.params) C
 exact λ{A vol s vs}I RD hv RR kk=>z (p8 I) RD (C3 _ hv) RR λv s' a b=>kk v s' (w6 (Nat.le_refl 30) _ a) b
theorem cg(a:Int){b:Nat}(hb:0<b):∃n:Nat,a.fmod (b:Int)=.ofNat n/\n<b:=by
 have h1:=Int.fmod_nonneg_of_pos a (Int.natCast_pos.mpr hb)
 have h2:=Int.fmod_lt_of_pos a (Int.natCast_pos.mpr hb)
 obtain⟨n,hn⟩:=Int.eq_ofNat_of_zero_le h1
 exact⟨n,hn,Int.ofNat_lt.mp (hn▸h2)⟩
def YD(aB:Bool)(n:Nat):Bool:=cr n (rA aB)||(cr n rB||((Nat.beq n 7&&!aB)||wT.any λq=>Nat.beq q.1 n))
theorem HC:(bs.all λaB=>(uY 16).all (YD aB))=true:=by kernel_rfl
theorem table(w:World)(bS:Int)(aB:Bool):∃q,Zi w bS aB q:=by
  obtain⟨n,e,hn⟩:=cg (bS.fdiv (1:Nat)) (b:=16) (by decide)
  have rA:w0 bS (ET n):=aq e λ_ m=>nomatch m
  refine(Bool.or_eq_true_iff.mp (ew.mp (ew.mp HC aB (bJ aB)) n (dy hn))).elim (λh=>jn w rA (ew.mp (ew.mp (ah4 w.params) aB (bJ aB)) n (dw h))) λh=>(Bool.or_eq_true_iff.mp h).elim (λh=>?_) λh=>(Bool.or_eq_true_iff.mp h).elim (λh=>?_) λh=>?_
  · obtain⟨m,e2,hm⟩:=cg (bS.fdiv (16:Nat)) (b:=8) (by decide)
    exact jn w (rs:=rsB n m) (aq e (aq e2 λ_ m=>nomatch m)) (ew.mp (ew.mp (ew.mp (ah5 w.params) aB (bJ aB)) n (dw h)) m (dy hm))
  · refine η h λh1 h2=>?_
    cases Nat.eq_of_beq_eq_true h1
    cases aP h2
    obtain⟨m,e2,hm⟩:=cg (bS.fdiv (16:Nat)) (b:=5) (by decide)
    obtain⟨l,e3,hl⟩:=cg (bS.fdiv (80:Nat)) (b:=2) (by decide)
    exact jn w (rs:=rsC m l) (aq e (aq e2 (aq e3 λ_ m=>nomatch m))) (ew.mp (ew.mp (ah6 w.params) m (dy hm)) l (dy hl))
  · obtain⟨q,m,z⟩:=List.any_eq_true.mp h
    cases Nat.eq_of_beq_eq_true z
    exact EI w m rA
noncomputable def FP(e:Expr):List Expr×Pos:=e.casesOn (λ_ es p=>(es,p)) (λ_ _ _=>([],default)) (λl _ r p=>([l,r],p)) (λ_ x p=>([x],p)) (λ_ _ _ _=>([],default)) (λt b o p=>([t,b,o],p)) (λ_ _ _=>([],default)) (λ_ _ _=>([],default)) (λ_ _ _ p=>([],p)) (λ_ _ _ _=>([],default)) (λ_ _ _ _ _=>([],default)) (λ_ _ _ _=>([],default)) (λ_ _=>([],default)) (λ_ _=>([],default)) (λ_ _=>([],default)) (λ_ _ _ _=>([],default)) (λf es _ p=>(f::es,p)) (λ_ _ _ _=>([],default)) (λ_ _=>([],default)) (λ_ _ p=>([],p)) (λ_ _ _=>([],default)) (λv i p=>([v,i],p)) (λ_ _=>([],default)) (λ_ p=>([],p)) (λes p=>(es,p)) (λ_ _ _=>([],default)) (λ_ _ _ _=>([],default))
noncomputable def nmE(e:Expr):Str:=e.casesOn (λ_ _ _=>default) (λ_ _ _=>default) (λ_ _ _ _=>default) (λ_ _ _=>default) (λ_ _ _ _=>default) (λ_ _ _ _=>default) (λ_ _ _=>default) (λ_ _ _=>default) (λ_ _ _ _=>default) (λ_ _ _ _=>default) (λ_ _ _ _ _=>default) (λ_ _ _ _=>default) (λ_ _=>default) (λ_ _=>default) (λ_ _=>default) (λ_ _ _ _=>default) (λ_ _ _ _=>default) (λ_ _ _ _=>default) (λ_ _=>default) (λ_ _ _=>default) (λ_ _ _=>default) (λ_ _ _=>default) (λ_ _=>default) (λx _=>x) (λ_ _=>default) (λ_ _ _=>default) (λ_ _ _ _=>default)
noncomputable def ah9(e:Expr):Nat:=e.casesOn (λ_ _ _=>0) (λ_ _ _=>0) (λ_ _ _ _=>0) (λ_ _ _=>0) (λ_ _ _ _=>0) (λ_ _ _ _=>0) (λ_ _ _=>0) (λ_ _ _=>0) (λ_ _ _ _=>0) (λ_ _ _ _=>0) (λ_ _ _ _ _=>0) (λ_ _ _ _=>0) (λ_ _=>0) (λ_ _=>0) (λ_ _=>0) (λ_ _ _ _=>0) (λ_ _ _ _=>0) (λ_ _ _ _=>0) (λ_ _=>0) (λ_ k _=>k) (λ_ _ _=>0) (λ_ _ _=>0) (λ_ _=>0) (λ_ _=>0) (λ_ _=>0) (λ_ _ _=>0) (λ_ _ _ _=>0)
noncomputable def lcE(e:Expr):Expr×List Comprehension×Scope:=e.casesOn (λ_ _ _=>default) (λ_ _ _=>default) (λ_ _ _ _=>default) (λ_ _ _=>default) (λ_ _ _ _=>default) (λ_ _ _ _=>default) (λ_ _ _=>default) (λ_ _ _=>default) (λa b c _=>(a,b,c)) (λ_ _ _ _=>default) (λ_ _ _ _ _=>default) (λ_ _ _ _=>default) (λ_ _=>default) (λ_ _=>default) (λ_ _=>default) (λ_ _ _ _=>default) (λ_ _ _ _=>default) (λ_ _ _ _=>default) (λ_ _=>default) (λ_ _ _=>default) (λ_ _ _=>default) (λ_ _ _=>default) (λ_ _=>default) (λ_ _=>default) (λ_ _=>default) (λ_ _ _=>default) (λ_ _ _ _=>default)
noncomputable def WJ(st:Stmt):List Expr×List Stmt×Pos:=st.casesOn (λ_ _ _ _ _ _ _ _ _ _=>([],[],default)) (λ_ _ _ _ _ _ _ _ _ _=>([],[],default)) (λ_ _ _ _ _ _ _ _ _ _ _=>([],[],default)) (λe p=>(e.toList,[],p)) (λ_ _=>([],[],default)) (λts e p=>(e::ts,[],p)) (λ_ _ _ _ _ _ _=>([],[],default)) (λ_ _ _ _=>([],[],default)) (λ_ _ _ _ _=>([],[],default)) (λt i b _ p=>([t,i],b,p)) (λ_ _ _ _ _=>([],[],default)) (λ_ _ _ _=>([],[],default)) (λt b _ p=>([t],b,p)) (λ_ _ _=>([],[],default)) (λ_ _ _=>([],[],default)) (λ_ _ _=>([],[],default)) (λ_ _ _=>([],[],default)) (λb _ _ _ p=>([],b,p)) (λ_ _ _ _ _=>([],[],default)) (λ_ _ _=>([],[],default)) (λ_ _=>([],[],default)) (λ_ _ _ _=>([],[],default)) (λ_ _=>([],[],default)) (λ_ _=>([],[],default)) (λ_ _=>([],[],default)) (λ_=>([],[],default)) (λ_=>([],[],default)) (λ_=>([],[],default))
noncomputable def aia(st:Stmt):List ExceptHandler:=st.casesOn (λ_ _ _ _ _ _ _ _ _ _=>[]) (λ_ _ _ _ _ _ _ _ _ _=>[]) (λ_ _ _ _ _ _ _ _ _ _ _=>[]) (λ_ _=>[]) (λ_ _=>[]) (λ_ _ _=>[]) (λ_ _ _ _ _ _ _=>[]) (λ_ _ _ _=>[]) (λ_ _ _ _ _=>[]) (λ_ _ _ _ _=>[]) (λ_ _ _ _ _=>[]) (λ_ _ _ _=>[]) (λ_ _ _ _=>[]) (λ_ _ _=>[]) (λ_ _ _=>[]) (λ_ _ _=>[]) (λ_ _ _=>[]) (λ_ h _ _ _=>h) (λ_ _ _ _ _=>[]) (λ_ _ _=>[]) (λ_ _=>[]) (λ_ _ _ _=>[]) (λ_ _=>[]) (λ_ _=>[]) (λ_ _=>[]) (λ_=>[]) (λ_=>[]) (λ_=>[])
noncomputable def aib(h:ExceptHandler):Option Expr×List Stmt×Pos:=h.casesOn λt _ b p=>(t,b,p)
noncomputable def pn{α:Type}[Inhabited α](l:List α)(i:Nat):α:=l.getD i default
def pE(e:Expr):Pos:=(FP e).2
def pq(e:Expr)(i:Nat):Expr:=pn (FP e).1 i
def Io(st:Stmt):Pos:=(WJ st).2.2
def mE(st:Stmt)(i:Nat):Expr:=pn (WJ st).1 i
def Rt(st:Stmt):List Stmt:=(WJ st).2.1
structure AN where
 st:Stmt
 x:Str
 xp:Pos
 ck:Nat
 cp:Pos
 rp:Pos
 hp:Pos
 tp:Pos
 rest:List Stmt
noncomputable def AN.sts(q:AN):List Stmt:=.Try [q.st] [.ExceptHandler (some (.Name q.x q.xp)) none [.Return (some (.Constant (.bool true) q.ck q.cp)) q.rp] q.hp] [] [] q.tp::q.rest
noncomputable def acA(k:NameKind):Bool:=k.casesOn false false false false true
theorem HD{k:NameKind}:acA k=true->k=.globalImplicit:=by cases k<;>first|exact λ_=>rfl|exact υ
def acB(G:fj)(it:kL)(exc:Nat)(sv:Sv)(vv:Vv)(d:Nat)(q:AN)(β:Nd):Option (VO×Option fP):=(G.fn bv).bind λft=>(ft.bind [.node β] []).bind λρ=>bif bp ft.names ρ&&(gc (lk G.gl q.x) exc&&((lk ft.names q.x).elim false acA&&!jZ q.x))then(vL G it exc sv vv d ⟨ft.names⟩ [q.st] ρ).bind λo=>some (o,o.Rm.bind λaV=>w_ G sv d ⟨ft.names⟩ q.rest aV)else none
section
variable{W:aE}{G:fj}{A:Around}{vol own lo:List Addr}{s:Shared}{d:Nat}{env:Env}{cx:Cx}{ρ:au}{sv:Sv}{vv:Vv}{B g:Heap}{fr:List Env}
theorem zX{T:Tb}(GL:Ah W T){x:Str}{pos:Pos}{C:Addr}(e:lk T.gl x=some (.addr C))(hd:jZ x=false)(hk:env.scope.kind=.function)(hx:env.kindOf x=some .globalImplicit)(hg:env.globals=mainGlobals)(hb:env.builtins=builtinsNs)(top:W.top.StaysIn s.heap){M:Around}{E:Value->Shared->Prop}{Q:Value->Shared->Prop}(q:Q (.ref C) s):wpAny (Md W) M (eval (.Name x pos) env) Q E s:=by
 obtain⟨u,h1,mg,h2,h3⟩:=GL x _ e
 cases(show u=.ref C from h1 s.heap top)
 exact Name_function_global hk hx (h3.elim (λh3=>loadGlobal_global (hg▸h2.keeps top) h3 q) λh=>h.2.elim λmb y=>loadGlobal_builtin (hg▸h2.keeps top) h.1 (hb▸y.1.keeps top) y.2 q) (qu (Bool.or_eq_false_iff.mp hd).1)
structure EJ(B:Heap)(s s':Shared):Prop where
 base:B.StaysIn s'.heap
 slots:s.heap.UpToSlots s'.heap
 os:s'.os=s.os
 gens:s'.gens=s.gens
theorem caught(GL:Ah W ⟨G.gl⟩)(EF:cK W){x:Str}{xp cp rp hp:Pos}{ck:Nat}(e1:gc (lk G.gl x) W.exc=true)(hd:jZ x=false)(hk:env.scope.kind=.function)(hx:env.kindOf x=some .globalImplicit)(hg:env.globals=mainGlobals)(hb:env.builtins=builtinsNs)(TB:W.top.StaysIn B)(jp:A.frames=some (env::fr))(hf:env.frame=some env.locals){e:Value}{s':Shared}(r:uw W B g fr env s e s'){E:Value->Shared->Prop}{Q:Flow->Shared->Prop}(k:∀dz,B.StaysIn dz.heap->g.UpToSlots dz.heap->dz.os=s.os->dz.gens=s.gens->Q (.ret (.bool true)) dz):wpAny (Md W) A (noteFrame e env) (λ_ RC=>wpAny (Md W) A (setFlight e none) (λ_ aic=>wpAny (Md W) A (handleBy e env [.ExceptHandler (some (.Name x xp)) none [.Return (some (.Constant (.bool true) ck cp)) rp] hp]) Q E aic) E RC) E s':=by
 refine tK jp hf r λs2 r2 hh=>?_
 cases hh with|mk a a0 aed=>cases r2 with|mk _ _ o2 g2 u2 _=>
 refine wpAny_landsW aed λh5 xb aid=>?_
 have X:=W.w8.keeps (Ψ TB xb.1)
 obtain⟨ob,Ia,aie⟩:=xb.there
 refine wpAny_handleBy_cons (codeAny_handlers_test (zX (s:={s2 with heap:=h5}) GL (di e1) hd hk hx hg hb (Ψ TB xb.1) ?_)) (by intro q;cases q)
 refine wpAny_excMatches_sub_self (EF.obj X) Ia aie ((tail_of_in X EF.tl).hasType rfl) (codeAny_handlers_suite (lands_againW xb λh6 aif aig=>wpAny_execs_cons ?_))
 rw[exec_Return_some]
 refine wpAny_bind (wpAny_standAt (wpAny_bind ?_))
 rw[eval_Constant]
 exact wpAny_pure (wpAny_pure (k _ aif.1 ((u2.trans aid).trans aig) o2 g2))
theorem HE{it:kL}(IT:bR W it)(GO:bM W G)(EF:cK W)(ok:al W sv)(uV:sk W vv){β:Nd}{o:VO}{r:Option fP}{q:AN}(hq:∀ft,G.fn bv=some ft->ft.body=q.sts)(h:acB G it W.exc sv vv d q β=some (o,r))(hr:o.bad=false->r=some (.ret (.bool false))){v:Value}(I:Inv W vol s)(R:ψ A (d+1))(jp:A.frames=some fr)(hv:ω W (vis vol s.heap) (.node β) v)(hB:B.StaysIn s.heap)(hF:s.heap.FunFrames B fr)(TB:W.top.StaysIn B)(RR:Result->Shared->Prop)(kF:o.bad=false->∀s',Step s s'->RR (.ok (.ret (.bool false))) s')(kT:o.bad=true->∀s',EJ B s s'->RR (.ok (.ret (.bool true))) s'):codeAny (Md W) A (.call (.ref bv) ⟨[v],[]⟩) RR s:=by
  refine O h λft e1 h=>O h λρ e2 h=>ξ h λc h=>η c λc1 c=>η c λc2 c=>η c λc3 c4=>O h λo' e4 h=>?_
  cases h
  refine iD I R (GO.fn _ _ e1) e2 c1 (Δ hv aC) aL λown env s2 cu k2 SS RD hff uu fd=>?_
  have GR:Gr B s.heap fr env (A.deeper env) own s2:=⟨Around.frames_deeper jp,hff,hB,k2.keep,cu,hF,SS.fF⟩
  rw[hq ft e1]
  refine codeAny_func (wpAny_execs_cons (wpAny_Try_except (Bf IT GO EF ok uV RD (λ_ m=>m) e4 SS GR _ _ (λz aV q' s3 X3 k3=>wpAny_execs_nil (q7 GO ok RD ((congrArg (λo:Option au=>o.bind λaV=>w_ G sv d ⟨ft.names⟩ q.rest aV) q').symm.trans (hr z)) X3 _ _ λf s4 aih k4=>aih.elim λu y=>?_)) λz e s3 r3=>?_)))
  · have k24:=k3.trans k4
    exact y.1▸(show u=.bool false from y.2.1)▸kF z s4 ⟨λb o e=>k24.keep b o (λm=>ζ ((cu b m).symm.trans e)) (k2.keep b o e),k24.os.trans k2.os,k24.gens.trans k2.gens⟩
  · have hx:env.kindOf q.x=some .globalImplicit:=ac c3 λk z1 z2=>(SS.names _ _ (aU (z1.trans (congrArg some (HD z2))))).resolve_right λz=>NameKind.noConfusion z.1
    exact caught GO.gl EF c2 (aP c4) SS.kind hx SS.globals SS.builtins TB GR.frames GR.fe r3 λs4 b1 b2 b3 b4=>kT z s4 ⟨b1,b2,b3.trans k2.os,b4.trans k2.gens⟩
end
noncomputable def WK:Str:=Str.ofString "tap"
noncomputable def gm:Str:=Str.ofString "script"
noncomputable def vT:Str:=Str.ofString "inner"
noncomputable def kJ:Str:=Str.ofString "parts"
theorem acC(P:Params):(yW P sE).isSome=true:=by kernel_rfl
def AO(P:Params):kK:=(yW P sE).get (acC P)
theorem HG(P:Params):yW P sE=some (AO P):=(Option.some_get (acC P)).symm
section
variable(P:Params)
def pt:List Stmt:=(AO P).body
def ci:Cx:=⟨(AO P).names⟩
def BI:List Stmt:=(pt P).take 5
def BK:List Stmt:=((pt P).drop 6).take 3
def hH:Str×Pos×List Expr:=(FK iy (pn (pt P) 5)).getD (Str.ofString "",default,[])
def Zj:Stmt:=pn (pt P) 9
def uM:Stmt:=pn (pt P) 10
def pu:Stmt:=pn (pt P) 11
def QW:Stmt:=pn (pt P) 12
def E3:Expr×List Comprehension×Scope:=lcE (mE (Zj P) 0)
def lY:Expr:=pq (mE (uM P) 1) 0
def lX:Expr:=pq (mE (uM P) 1) 1
def lV:Expr:=mE (uM P) 0
def EU:Expr:=mE (pu P) 0
def lE:Expr:=pq (mE (pu P) 1) 0
def yX:Expr:=pq (mE (pu P) 1) 1
def Ip(c:Expr):Pos:=pE (pq c 0)
def xe(c:Expr):List Expr:=(FP c).1.tail
def Ag:Stmt:=pn (Rt (pu P)) 0
def E4:Stmt:=pn (Rt (pu P)) 1
def Ru:Stmt:=pn (Rt (E4 P)) 0
def lS4:Stmt:=pn (Rt (E4 P)) 1
def lT1:Expr:=pq (mE (Ag P) 0) 0
def AP:Expr:=pq (pq (mE (Ag P) 0) 1) 0
def lT2:Expr:=mE (E4 P) 0
def AQ:Expr:=pq (mE (Ru P) 0) 0
def BL:List Expr:=(FP (mE (Ru P) 0)).1.tail
theorem YE:pt P=BI P++pn (pt P) 5::(BK P++Zj P::uM P::pu P::[QW P]):=by kernel_rfl
theorem aii:FK iy (pn (pt P) 5)=some (hH P):=by kernel_rfl
theorem aij:Zj P=.Assign [.Name kJ (pE (mE (Zj P) 1))] (.ListComp (E3 P).1 (E3 P).2.1 (E3 P).2.2 (pE (mE (Zj P) 0))) (Io (Zj P)):=by kernel_rfl
theorem aee:uM P=.Assign [.Subscript (lY P) (lX P) (pE (mE (uM P) 1))] (.Name (nmE (lV P)) (pE (lV P))) (Io (uM P)):=by kernel_rfl
theorem YF:lV P=.Name (nmE (lV P)) (pE (lV P)):=by kernel_rfl
theorem aef:pu P=.For (EU P) (.List [lE P,.Call (.Name iy (Ip (yX P))) (xe (yX P)) [] (pE (yX P))] (pE (mE (pu P) 1))) [Ag P,E4 P] [] (Io (pu P)):=by kernel_rfl
theorem YG:eZ (lE P)=false:=by kernel_rfl
theorem aik:Ag P=.If (.BoolOp .And [lT1 P,.UnaryOp .Not (.Call (.Name ph (Ip (AP P))) (xe (AP P)) [] (pE (AP P))) (pE (pq (mE (Ag P) 0) 1))] (pE (mE (Ag P) 0))) (Rt (Ag P)) [] (Io (Ag P)):=by kernel_rfl
theorem ail:E4 P=.If (lT2 P) [Ru P,lS4 P] [] (Io (E4 P)):=by kernel_rfl
theorem aim:Ru P=.If (.BoolOp .Or (.Call (.Name ph (Ip (AQ P))) (xe (AQ P)) [] (pE (AQ P))::BL P) (pE (mE (Ru P) 0))) (Rt (Ru P)) [] (Io (Ru P)):=by kernel_rfl
end
noncomputable def BM(a:XV):Bool:=Nat.beq a.ctorIdx 21
theorem EK{a:XV}:BM a=true->a=.mz:=by cases a<;>first|exact υ|exact λ_=>rfl
def YH(ms:List XV):Option Nat:=(jt ms).bind λp=>bif BM p.1 then(mB p.2).bind λk=>bif Nat.blt k 9 then some k else none else none
def YI(tp:Bool)(ms:List XV):Option Nat:=(jt ms).bind λp=>two (AV p.1) (Aa p.2) λj b=>bif xd b tp then some j else none
def h_(X:Nat->XV)(tp:Bool)(d f:Nat)(ms:List XV)(ks:List (Str×XV)):Option XV:=bif Nat.ble 50 d&&ak ks then(bif Nat.beq f b6 then(YH ms).map .num else bif Nat.beq f bV then(YI tp ms).map X else none)else none
def GL(P:Params)(col:Nat->Bool)(res:List ((Nat×Nat×Nat)×Int))(X:Nat->XV)(tp:Bool):fj:=G0 P col res (h_ X tp)
def i0(P:Params)(col:Nat->Bool)(res:List ((Nat×Nat×Nat)×Int))(X:Nat->XV)(tp:Bool):Sv:=run (GL P col res X tp) 40
noncomputable def Kd.idx(k:Kd):Int:=.ofNat k.ctorIdx
noncomputable def AR(tp:Bool):Int:=.ofNat (bif tp then 1 else 0)
noncomputable def C4(r0 a1 a2:Int)(n3:Nat)(b1 b2:Int)(sz i n4:Nat):List ((Nat×Nat×Nat)×Int):=[((0,1,2),r0),((1,1,19),a1),((1,95,3),a2),((1,19,5),.ofNat n3),((5,1,19),b1),((5,285,3),b2),((5,19,sz),.ofNat i),((5,57,5),.ofNat n4)]
def lA(X:Nat->XV)(b n:Nat):List XV:=tk n (X b) (X (b+1)) (X (b+2))
abbrev E1T:=Option (List XV)×Option XV×Option XV
def QX(P:Params)(col:Nat->Bool)(res:List ((Nat×Nat×Nat)×Int))(X:Nat->XV)(tp:Bool):Option E1T:=((w_ (GL P col res X tp) (i0 P col res X tp) 57 (ci P) (BI P) [(gm,.mz)]).bind nextOf).bind λρ=>bif bO (ci P) (hH P).1&&(Fast.sEq (hH P).1 vT&&(!bk (hH P).2.2&&gc ((i0 P col res X tp).ev 57 (ci P) ρ (.Name iy (hH P).2.1)) aH))then some (bF ((i0 P col res X tp).ev 57 (ci P) ρ) (hH P).2.2,lk ρ WK,lk ρ gm)else none
noncomputable def u3:List Nat:=[0,1,2]
def kn:List (Kd×Nat):=pr yN u3
theorem C5(k:Kd){n:Nat}(h:n∈u3):(k,n)∈kn:=aw (tY k) h
section
variable(P:Params)(col:Nat->Bool)(X:Nat->XV)(r0 a1 a2 b1 b2:Int)(m3 sz i m4:Nat)(I:XV)(D:Nat)(L3:List XV)
theorem E1:(pr bs kn).map (λq=>QX P col (C4 (AR q.1) q.2.1.idx (.ofNat q.2.2) m3 b1 b2 sz i m4) X q.1)=(pr bs kn).map λq=>some (some [.str [.lit q.2.1.name],.list (lA X 2 (q.2.1.size q.2.2)),nJ m3,.bool q.1],some (.bool q.1),some .mz):=by kernel_rfl
def qM(ρ:au)(D:Nat):au:=(kJ,.addr D)::ρ
def sF(ρ:au)(D:Nat)(L3:List XV):au:=(kJ,.list L3)::qM ρ D
def WL(I:XV)(tp:Bool):au:=[(vT,I),(WK,.bool tp),(gm,.mz)]
abbrev E2T:=Option XV×Bool×Option XV×Option XV×Option XV×Option XV×Option (List XV)
def e2R(P:Params)(sv:Sv)(D:Nat)(L3:List XV)(ρ:au):E2T:=(hU (Rh sv) sv 57 (ci P) ρ (E3 P).1 (E3 P).2.1 (E3 P).2.2,bO (ci P) kJ&&(!bk (xe (yX P))&&gc (sv.ev 57 (ci P) (sF ρ D L3) (.Name iy (Ip (yX P)))) aH),sv.ev 57 (ci P) (qM ρ D) (lV P),sv.ev 57 (ci P) (qM ρ D) (lY P),sv.ev 57 (ci P) (qM ρ D) (lX P),sv.ev 57 (ci P) (sF ρ D L3) (lE P),bF (sv.ev 57 (ci P) (sF ρ D L3)) (xe (yX P)))
def acD(P:Params)(col:Nat->Bool)(res:List ((Nat×Nat×Nat)×Int))(X:Nat->XV)(tp:Bool)(I:XV):Option au:=(w_ (GL P col res X tp) (i0 P col res X tp) 57 (ci P) (BK P) (WL I tp)).bind nextOf
def e2V(X:Nat->XV)(I:XV)(D:Nat)(L3:List XV)(i m4:Nat)(tp:Bool)(k:Kd)(n:Nat):Option E2T:=some (some (.list (lA X 6 (k.size n))),true,some I,some (.addr D),some (.int (.ofNat i)),some I,some [.str [.lit k.name],.list L3,nJ m4,.bool tp])
def AS(r0 a1 a2:Int)(m3 i m4:Nat)(k:Kd)(n:Nat):List ((Nat×Nat×Nat)×Int):=C4 r0 a1 a2 m3 k.idx (.ofNat n) (k.size n) i m4
theorem E2:(pr bs kn).map (λq=>(acD P col (AS r0 a1 a2 m3 i m4 q.2.1 q.2.2) X q.1 I).map (e2R P (i0 P col (AS r0 a1 a2 m3 i m4 q.2.1 q.2.2) X q.1) D L3))=(pr bs kn).map λq=>e2V X I D L3 i m4 q.1 q.2.1 q.2.2:=by kernel_rfl
end
def rb(P:Params):List Stmt:=((yW P bv).map λft=>ft.body).getD []
def rh(P:Params):Option Expr×List Stmt×Pos:=((aia (pn (rb P) 0)).head?.map aib).getD (none,[],default)
def WM(P:Params):AN:=⟨pn (Rt (pn (rb P) 0)) 0,nmE ((rh P).1.getD default),pE ((rh P).1.getD default),ah9 (mE (pn (rh P).2.1 0) 0),pE (mE (pn (rh P).2.1 0) 0),Io (pn (rh P).2.1 0),(rh P).2.2,Io (pn (rb P) 0),(rb P).tail⟩
theorem HH(P:Params):(yW P bv).map (λft=>ft.body)=some (WM P).sts:=by kernel_rfl
theorem HI(P:Params)(ft:kK)(h:yW P bv=some ft):ft.body=(WM P).sts:=Option.some.inj ((congrArg (Option.map λft:kK=>ft.body) h).symm.trans (HH P))
def WN(P:Params)(col:Nat->Bool)(res:List ((Nat×Nat×Nat)×Int))(X:Nat->XV)(tp:Bool)(β:Nd):Option (VO×Option fP):=acB (GL P col res X tp) (ZM (i0 P col res X tp)) AJ (i0 P col res X tp) (Ao (GL P col res X tp) (ZM (i0 P col res X tp)) AJ FC (i0 P col res X tp) 12) 54 (WM P) β
def acE(r:fP):Option Bool:=r.casesOn (λ_=>none) Aa
theorem HJ{r:fP}{b}:acE r=some b->r=.ret (.bool b):=by cases r with
 |next ρ=>exact ζ|ret m=>exact λe=>congrArg fP.ret (u0 e)
def FQ(e:Option (VO×Option fP)):Option Bool:=e.bind λp=>bif p.1.bad then some true else(p.2.bind acE).bind λb=>bif b then none else some false
theorem HK{e:Option (VO×Option fP)}{b:Bool}(h:FQ e=some b):∃o r,e=some (o,r)/\o.bad=b/\(o.bad=false->r=some (.ret (.bool false))):=O h λp e1 h=>⟨p.1,p.2,e1,a9 h (λc h=>⟨c.trans (Option.some.inj h),λz=>cq (c.symm.trans z)⟩) λc h=>O h λb' e2 h=>cj h λc2 h=>⟨c.trans (Option.some.inj h),λ_=>O e2 λr e3 e4=>e3.trans (congrArg some ((HJ e4).trans (congrArg (λb=>fP.ret (.bool b)) c2)))⟩⟩
noncomputable def d2(j:Bool):Nat:=bif j then 46 else 38
noncomputable def jN(j:Bool):Nat:=bif j then 1 else 0
def ndJ(j wr:Bool)(t:Td)(v:gp Jm)(l:Ls):Nd:=qJ wr (d2 j) t v l [.sym (jN j)] (sB (jN j)) 0 [jN j]
def mJ(j wr:Bool)(t:Td)(v:gp Jm)(l:Ls):XV:=pX (ndJ j wr t v l) t l (.str [.sym (jN j)]) (.bytes (sB (jN j)))
def acF(P:Params)(ρ:au)(m:XV):au:=(lG (ci P) ρ (EU P) m).getD []
section
variable(P:Params)(col:Nat->Bool)(res:List ((Nat×Nat×Nat)×Int))(X:Nat->XV)(tp:Bool)(ρ:au)(j wr:Bool)(t:Td)(v:gp Jm)(l:Ls)
theorem YJ:lG (ci P) ρ (EU P) (mJ j wr t v l)=some (acF P ρ (mJ j wr t v l)):=by kernel_rfl
def rJ:au:=acF P ρ (mJ j wr t v l)
def WO(sv:Sv)(ρ:au)(c:Expr):Bool:=!bk (xe c)&&gc (sv.ev 57 (ci P) ρ (.Name ph (Ip c))) bv
abbrev NoT:=Option Bool×Option (List XV)×Bool×Option fP×Option Bool
def noR(iq:au)(β:Nd):NoT:=((i0 P col res X tp).tr 57 (ci P) iq (lT1 P),bF ((i0 P col res X tp).ev 57 (ci P) iq) (xe (AP P)),WO P (i0 P col res X tp) iq (AP P),H' (GL P col res X tp) (i0 P col res X tp) 57 (ci P) iq (E4 P),FQ (WN P col res X tp β))
theorem YK:bs.map (λj=>noR P col res X tp (rJ P ρ j wr .no v l) (ndJ j wr .no v l))=bs.map λj=>(some true,some [.node (ndJ j wr .no v l)],true,some (.next (rJ P ρ j wr .no v l)),some true):=by kernel_rfl
theorem YL:bs.map (λj=>(H' (GL P col res X tp) (i0 P col res X tp) 57 (ci P) (rJ P ρ j wr .op v l) (Ag P),H' (GL P col res X tp) (i0 P col res X tp) 57 (ci P) (rJ P ρ j wr .op v l) (E4 P)))=bs.map λj=>(some (.next (rJ P ρ j wr .op v l)),some (.next (rJ P ρ j wr .op v l))):=by kernel_rfl
abbrev TyT:=Option fP×Option Bool×Option (List XV)×Bool×Option fP×Option Bool
def tyR(iq:au)(β:Nd):TyT:=(H' (GL P col res X tp) (i0 P col res X tp) 57 (ci P) iq (Ag P),(i0 P col res X tp).tr 57 (ci P) iq (lT2 P),bF ((i0 P col res X tp).ev 57 (ci P) iq) (xe (AQ P)),WO P (i0 P col res X tp) iq (AQ P),H' (GL P col res X tp) (i0 P col res X tp) 57 (ci P) iq (lS4 P),FQ (WN P col res X tp β))
theorem YM:(pr bs qT).map (λq=>tyR P col res X tp (rJ P ρ q.1 wr q.2 v l) (ndJ q.1 wr q.2 v l))=(pr bs qT).map λq=>(some (.next (rJ P ρ q.1 wr q.2 v l)),some true,some [.node (ndJ q.1 wr q.2 v l)],true,some (.next (rJ P ρ q.1 wr q.2 v l)),some false):=by kernel_rfl
theorem EL:(pr bs (pr qT (bD 5))).map (λq=>pJ ((i0 P col res X tp).tr 57 (ci P) (rJ P ρ q.1 wr q.2.1 v (Zg q.2.2))) false (BL P))=(pr bs (pr qT (bD 5))).map λ_=>some false:=by kernel_rfl
end
noncomputable def eG(l:List Int)(k:Nat):Int:=(gR l (k%l.length)).getD 0+7*k
noncomputable def xsF(f:Nat->Int)(n:Nat):List XV:=(List.range n).map λi=>.int (f i)
noncomputable def acG(f:Nat->Int)(n k:Nat):Int:=n.casesOn 0 λm=>f (k%(m+1))
theorem HL(P:Params)(f:Nat->Int):(pr (uY 64) (uY 9)).map (λq=>(Ae P (eX []) []).call 20 b6 [.list (xsF f q.1),.int (.ofNat q.2)] [])=(pr (uY 64) (uY 9)).map λq=>some (.int (acG f q.1 q.2+7*(q.2:Int))):=by kernel_rfl
theorem uX.cast{W W':aE}{h:Heap}{l l' m m':List XV}(x:uX W W' h l l')(e:l=m)(e':l'=m'):uX W W' h m m':=e▸e'▸x
theorem HM{W:aE}{h:Heap}{l:List Int}:∀{vs:List Value},sJ l vs->Ξ W h (l.map .int) vs:=by induction l with
 |nil=>exact λx=>x|cons i r ih=>exact λx=>x.elim λt=>Exists.rec λvs y=>y.1▸Δ ⟨t,rfl⟩ (ih y.2)
theorem aeg(xs:List Int):xs.map XV.int=xsF (λi=>(gR xs i).getD 0) xs.length:=List.ext_getElem? λi=>(List.getElem?_map ..).trans ((Nat.lt_or_ge i xs.length).elim (λh=>(congrArg (Option.map XV.int) (List.getElem?_eq_getElem h)).trans (((List.getElem?_map ..).trans ((congrArg (Option.map λi=>XV.int ((gR xs i).getD 0)) (List.getElem?_range h)).trans (congrArg (λo:Option Int=>some (XV.int (o.getD 0))) (List.getElem?_eq_getElem h)))).symm)) λh=>(congrArg (Option.map XV.int) (List.getElem?_eq_none h)).trans ((List.getElem?_eq_none (Nat.le_trans (Nat.le_of_eq ((List.length_map ..).trans List.length_range)) h)).symm))
theorem HN(xs:List Int)(k:Nat):acG (λi=>(gR xs i).getD 0) xs.length k+7*(k:Int)=eG xs k:=by cases xs<;>rfl
theorem number(w:World)(xs:List Int)(hx:xs.length<=63){k:Nat}(hk:k<9){S:ay}{hS:S.Ok}(e1:S.Rv=xs)(e2:S.num=eG xs):av (W1 w S hS) 20 b6 [.mz,.int (.ofNat k)] (.num k):=by
 have hS0:(ef 0 []).Ok:=j5 λ_ m=>nomatch m
 have h:=ai (HL w.params λi=>(gR xs i).getD 0) (xs.length,k) (aw (dy (Nat.lt_succ_of_le hx)) (dy hk))
 have C:av (W1 w (ef 0 []) hS0) 20 b6 [.list (xs.map .int),.int (.ofNat k)] (.int (eG xs k)):=aeg xs▸HN xs k▸jl (hY w _ hS0) h
 have t1:∀h,Tr (W1 w S hS) (W1 w (ef 0 []) hS0) h .mz (.list (xs.map .int)):=λh v x=>x.imp λa=>Exists.imp λvs=>Exists.imp λn y=>⟨y.1,y.2.1,HM (e1▸y.2.2)⟩
 have t2:∀h,Tr (W1 w (ef 0 []) hS0) (W1 w S hS) h (.int (eG xs k)) (.num k):=λh v x=>x.imp λt y=>y.trans (congrArg (λf:Nat->Int=>Value.int (f k) t) e2.symm)
 exact@rT w (ef 0 []) S hS0 hS 20 b6 _ _ _ _ C (λh=>aK (t1 h) (aK BD gP)) t2
theorem HP{W:aE}{h:Heap}{a b:XV}(e:BM a=true){v:Value}(x:ω W h a v):ω W h .mz v:=EK e▸x
theorem zY(w:World)(xs:List Int)(hx:xs.length<=63){S:ay}{hS:S.Ok}(e1:S.Rv=xs)(e2:S.num=eG xs){Q:Nat->Pt}{tp:Bool}(hQ:∀j,Zi w (eG xs j) tp (Q j)):g9 (W1 w S hS) (h_ (λj=>(Q j).lit 30) tp):=λd f ms ks m h{A vol s vs kws}I R hv hk=>by
  refine ξ h λc g=>η c λc1 c2=>?_
  cases nil_of c2
  cases(show kws=[]from hk)
  have R50:=R.le (ble c1)
  refine a9 g (λq g=>?_) λ_ g=>ξ g λq g=>?_
  · cases Nat.eq_of_beq_eq_true q
    refine χ (P:=λm=>aM (W1 w S hS) A vol (.call (.ref b6) ⟨vs,[]⟩) m s) g λk e3=>O e3 λp e4 e5=>ξ e5 λc e5=>O e5 λk' e6 e7=>ξ e7 λc' e7=>?_
    cases e7
    exact number w xs hx ((iff_of_eq Nat.blt_eq).mp c') e1 e2 I (R50.le (by decide)) (gj (P:=λvs=>Ξ (W1 w S hS) (vis vol s.heap) [.mz,.int (.ofNat k)] vs) e4 hv λu u2 w1 w2=>Δ (HP (b:=.mz) c w1) (Δ (vz e6 w2) aC))
  · cases Nat.eq_of_beq_eq_true q
    refine χ (P:=λm=>aM (W1 w S hS) A vol (.call (.ref bV) ⟨vs,[]⟩) m s) g λj e3=>O e3 λp e4 e5=>π e5 λj' b e6 e7 e8=>ξ e8 λc e8=>?_
    cases e8
    cases fD c
    refine(hQ j).c S hS I (R50.le (by decide)) (gj (P:=λvs=>Ξ (W1 w S hS) (vis vol s.heap) [.int (eG xs j),.bool tp] vs) e4 hv λu u2 w1 w2=>Δ (xi (P:=λv=>ω (W1 w S hS) (vis vol s.heap) (.int (eG xs j)) v) e6 w1 λt=>⟨t,congrArg (λf:Nat->Int=>Value.int (f j) t) e2⟩) (Δ (pI e7 w2) aC))
theorem ru{M:Pt->Prop}{n:Nat}{a b c:Pt}(h1:M a)(h2:M b)(h3:M c):∀p∈tk n a b c,M p:=by
 unfold tk
 cases Nat.beq n 1 with
 |true=>exact aq h1 λ_ m=>nomatch m|false=>cases Nat.beq n 2 with
  |true=>exact aq h1 (aq h2 λ_ m=>nomatch m)|false=>exact aq h1 (aq h2 (aq h3 λ_ m=>nomatch m))
theorem vU{α:Type}{n:Nat}(h:n∈n3)(a b c:α):(tk n a b c).length=n:=by
 rcases h with _|⟨_,_|⟨_,_|⟨_,h⟩⟩⟩
 ·rfl
 ·rfl
 ·rfl
 ·exact nomatch h
section
variable{W W':aE}{h:Heap}{α:Type}{f g:α->XV}
theorem aeh(H:∀a,Tr W W' h (f a) (g a))(l:List α):uX W W' h (l.map f) (l.map g):=by induction l with
 |nil=>exact gP|cons a r ih=>exact aK (H a) ih
theorem aei(H:∀a,Tr W W' h (f a) (g a)){m m':XV}(hm:Tr W W' h m m')(l:List α):∀i,uX W W' h ((l.map f).set i m) ((l.map g).set i m'):=by induction l with
 |nil=>exact λ_=>gP|cons a r ih=>exact λi=>i.casesOn (aK hm (aeh H r)) λi=>aK (H a) (ih i)
end
structure gW(w:World)(xs:List Int)where
 tp:Bool
 k1:Kd
 n1:Nat
 m1:Nat
 k2:Kd
 n2:Nat
 m2:Nat
 i:Nat
 Q:Nat->Pt
 p1:Pt
 p2:Pt
 hr:∀j d m r,((j,d,m),r)∈AS (AR tp) k1.idx (.ofNat n1) m1 i m2 k2 n2->((eG xs j).fdiv d).fmod m=r
 b1:n1∈u3
 b2:n2∈u3
 s2:k2.size n2∈n3
 bi:i<k2.size n2
 row:∀j,Zi w (eG xs j) tp (Q j)g1:p1.Good 3000
 g2:p2.Good 3000
 c1:∀(S:ay)(hS:S.Ok),av (W1 w S hS) 45 aH [.str [.lit k1.name],.list (lA (λj=>(Q j).lit 30) 2 (k1.size n1)),nJ m1,.bool tp] (p1.lit 38)c2:∀(S:ay)(hS:S.Ok),av (W1 w S hS) 45 aH [.str [.lit k2.name],.list ((lA (λj=>(Q j).lit 30) 6 (k2.size n2)).set i (p1.lit 38)),nJ m2,.bool tp] (p2.lit 46)
theorem w7{n:Nat}(h:n∈u3):n+1∈n3:=dw (ew.mp (rfl:(u3.all λn=>cr (n+1) n3)=true) n h)
theorem QY{n:Nat}(h:n<3):n∈u3:=dw (ew.mp (rfl:((uY 3).all λn=>cr n u3)=true) n (dy h))
theorem QZ{n:Nat}(h:n<5):n∈m5:=dw (ew.mp (rfl:((uY 5).all λn=>cr n m5)=true) n (dy h))
theorem Q0{n:Nat}(h:n<19):∃k:Kd,n=k.ctorIdx:=(List.any_eq_true.mp (ew.mp (by kernel_rfl:((uY 19).all λn=>yN.any λk=>Nat.beq n k.ctorIdx)=true) n (dy h))).imp λk y=>Nat.eq_of_beq_eq_true y.2
theorem aej{n:Nat}(h:n<2):∃tp:Bool,n=bif tp then 1 else 0:=(List.any_eq_true.mp (ew.mp (by kernel_rfl:((uY 2).all λn=>bs.any λb=>Nat.beq n (bif b then 1 else 0))=true) n (dy h))).imp λk y=>Nat.eq_of_beq_eq_true y.2
theorem YN{n:Nat}(h:n∈n3):0<n:=ble (ew.mp (rfl:(n3.all λn=>Nat.ble 1 n)=true) n h)
theorem bS(w:World)(xs:List Int):Nonempty (gW w xs):=by
  obtain⟨n0,h0,b0⟩:=cg ((eG xs 0).fdiv (1:Nat)) (b:=2) (by decide)
  obtain⟨tp,rfl⟩:=aej b0
  obtain⟨j1,h1,d1⟩:=cg ((eG xs 1).fdiv (1:Nat)) (b:=19) (by decide)
  obtain⟨k1,rfl⟩:=Q0 d1
  obtain⟨n1,h2,b1⟩:=cg ((eG xs 1).fdiv (95:Nat)) (b:=3) (by decide)
  obtain⟨m1,h3,b3⟩:=cg ((eG xs 1).fdiv (19:Nat)) (b:=5) (by decide)
  obtain⟨j2,h4,d4⟩:=cg ((eG xs 5).fdiv (1:Nat)) (b:=19) (by decide)
  obtain⟨k2,rfl⟩:=Q0 d4
  obtain⟨n2,h5,b5⟩:=cg ((eG xs 5).fdiv (285:Nat)) (b:=3) (by decide)
  have b1:=QY b1
  have b5:=QY b5
  have z1:=rQ (k:=k1) (w7 b1)
  have z2:=rQ (k:=k2) (w7 b5)
  obtain⟨i,h6,bi⟩:=cg ((eG xs 5).fdiv (19:Nat)) (b:=k2.size n2) (YN z2)
  obtain⟨m2,h7,b7⟩:=cg ((eG xs 5).fdiv (57:Nat)) (b:=5) (by decide)
  have T:=λj=>table w (eG xs j) tp
  obtain⟨Q,hQ⟩:∃Q:Nat->Pt,∀j,Zi w (eG xs j) tp (Q j):=⟨λj=>(T j).choose,λj=>(T j).choose_spec⟩
  obtain⟨p1,g1,kn1,c1⟩:=x9 w .a tp k1 (QZ b3) (w7 b1) (tk (k1.size n1) (Q 2) (Q 3) (Q 4)) (vU z1 ..) (N:=320) (by decide) (by decide) (ru (hQ 2).g (hQ 3).g (hQ 4).g) (ru (p9 (hQ 2).o) (p9 (hQ 3).o) (p9 (hQ 4).o))
  have kn1:=kn1 (ru (M:=λp=>p.told.fK=false) (hQ 2).o (hQ 3).o (hQ 4).o)
  have Q1:∀{M:Pt->Prop},(∀j,M (Q j))->M p1->∀p∈(tk (k2.size n2) (Q 6) (Q 7) (Q 8)).set i p1,M p:=λa b p m=>(List.mem_or_eq_of_mem_set m).elim (ru (a 6) (a 7) (a 8) p) λe=>e▸b
  obtain⟨p2,g2,_,c2⟩:=x9 w .b tp k2 (QZ b7) (w7 b5) ((tk (k2.size n2) (Q 6) (Q 7) (Q 8)).set i p1) (List.length_set.trans (vU z2 ..)) (N:=980) (by decide) (by decide) (Q1 (λj=>(hQ j).g.le (by decide)) (g1.le (by decide))) (Q1 (λj=>p9 (hQ j).o) kn1)
  refine⟨⟨tp,k1,n1,m1,k2,n2,m2,i,Q,p1,p2,?_,b1,b5,z2,bi,hQ,g1.le (by decide),g2.le (by decide),λS hS=>?_,λS hS=>?_⟩⟩
  · have all:∀p∈AS (AR tp) k1.idx (.ofNat n1) m1 i m2 k2 n2,((eG xs p.1.1).fdiv p.1.2.1).fmod p.1.2.2=p.2:=aq h0 (aq h1 (aq h2 (aq h3 (aq h4 (aq h5 (aq h6 (aq h7 λ_ m=>nomatch m)))))))
    exact λj d m r hm=>all _ hm
  · have y:av _ _ _ _ _:=c1 S hS
    rw[nC]at y
    exact@y
  · have y:av _ _ _ _ _:=c2 S hS
    rw[List.map_set]at y
    exact@rT w S S hS hS 45 aH _ _ _ _ y (λh=>aK (p7 rfl) (aK (vH ((aei (h:=h) (f:=λj=>(Q j).lit 30) (g:=λj=>(Q j).lit 38) (λj=>w6 (by decide)) (w6 (Nat.le_refl _)) (tk (k2.size n2) 6 7 8) i).cast (congrArg (λl=>l.set i (p1.lit 38)) (nC (λj=>(Q j).lit 30) (k2.size n2) 6 7 8)) (congrArg (λl=>l.set i (p1.lit 38)) ((nC (λj=>(Q j).lit 38) (k2.size n2) 6 7 8).trans (nC (Pt.lit 38) (k2.size n2) (Q 6) (Q 7) (Q 8)).symm)))) (aK BD (aK vR gP)))) λh=>w6 (Nat.le_refl _)
section
variable{w:World}{S:ay}{hS:S.Ok}{X:Nat->XV}{tp:Bool}{A:Around}{vol own lo:List Addr}{s:Shared}{env:Env}{ρ:au}{g:Heap}{B:Heap}
theorem glL(ho:g9 (W1 w S hS) (h_ X tp)):bM (W1 w S hS) (GL w.params S.colon S.res X tp):=nB w S hS ho
theorem jd(ho:g9 (W1 w S hS) (h_ X tp)):al (W1 w S hS) (i0 w.params S.colon S.res X tp):=nx (glL ho) 40
theorem YO(ho:g9 (W1 w S hS) (h_ X tp)):sk (W1 w S hS) (Ao (GL w.params S.colon S.res X tp) (ZM (i0 w.params S.colon S.res X tp)) AJ FC (i0 w.params S.colon S.res X tp) 12):=xL (vA (jd ho)) (glL ho) (Wx w S hS) (Bw w S hS) (CG w S hS) (jd ho) 12
theorem EM(P:Params):keepIn (K1 P) (.ref bv)=true:=by kernel_rfl
theorem ifF{a b:Prop}(x:b):if false=true then a else b:=x
theorem ifT{a b:Prop}(x:a):if true=true then a else b:=x
theorem x_(ho:g9 (W1 w S hS) (h_ X tp))(R:ψ A 57)(XS:az (W1 w S hS) own vol (ci w.params) ρ env s)(jp:A.frames=some [env])(hf:env.frame=some env.locals){β:Nd}{b:Bool}(hb:FQ (WN w.params S.colon S.res X tp β)=some b){c:Expr}{pos:Pos}(h0:WO w.params (i0 w.params S.colon S.res X tp) ρ c=true)(e1:bF ((i0 w.params S.colon S.res X tp).ev 57 (ci w.params) ρ) (xe c)=some [.node β]){E Q:Value->Shared->Prop}(k:∀s',az (W1 w S hS) own vol (ci w.params) ρ env s'->ae own s s'->Q (.bool b) s'):wpAny (Md (W1 w S hS)) A (eval (.Call (.Name ph (Ip c)) (xe c) [] pos) env) Q E s:=η h0 λh0 e0=>by
  obtain⟨o,r,h1,h2,h3⟩:=HK hb
  refine aeb (jd ho) R XS (aP h0) (di e0) (EM w.params) e1 λs1 vs k1 hv=>wpAny_call ?_
  have X1:=XS.step k1
  obtain⟨v,H0,rfl,hv,hn⟩:=hv
  cases(show H0=[]from hn)
  have hF:s1.heap.FunFrames (vis [env.locals] s1.heap) [env]:=X1.loc.elim λm n=>Heap.FunFrames.cons (X1.kind▸by decide) hf n.1 (hideAll_none _ (.head _)) trivial
  have TB:(W1 w S hS).top.StaysIn (vis [env.locals] s1.heap):=Ψ X1.inv.top (dX (aG (X1.sub _ X1.fF)))
  refine HE (d:=54) (vA (jd ho)) (glL ho) (Wx w S hS) (jd ho) (YO ho) (HI w.params) h1 h3 X1.inv (R.le (by decide)) jp hv wE hF TB _ (λz s2 k2=>?_) λz s2 k2=>?_
  · cases h2.symm.trans z
    exact k s2 (X1.step k2) ((ae.of k1).trans (.of k2))
  · cases h2.symm.trans z
    have y:=X1.slots (s':=s2) (λb o n e=>k2.base b o (ι.mpr ⟨e,λm=>n (List.mem_singleton.mp m)⟩)) k2.slots k2.os k2.gens
    exact k s2 y.1 ((ae.of k1).trans y.2)
theorem HQ(ho:g9 (W1 w S hS) (h_ X tp))(R:ψ A 57)(jp:A.frames=some [env])(hf:env.frame=some env.locals)(j wr:Bool)(t:Td)(v:gp Jm)(l:Ls)(XS:az (W1 w S hS) own vol (ci w.params) (rJ w.params ρ j wr t v l) env s):ka (W1 w S hS) B g [] A own vol (ci w.params) env (execs [Ag w.params,E4 w.params] env) (.go false (rJ w.params ρ j wr t v l)) s:=by
  intro E Q kQ kE
  have GO:=glL ho
  have ok:=jd ho
  have pA:∀{s'},az (W1 w S hS) own vol (ci w.params) (rJ w.params ρ j wr t v l) env s'->ae own s s'->wpAny (Md (W1 w S hS)) A (execs [] env) Q E s':=λX' k'=>wpAny_execs_nil (kQ rfl _ rfl _ X' k')
  cases ht:t.typed with
|true=>
    have bt:=Prod.mk.inj (ai (YM w.params S.colon S.res X tp ρ wr v l) (j,t) (aw (bJ j) (ao ht)))
    have b2:=Prod.mk.inj bt.2
    have b3:=Prod.mk.inj b2.2
    have b4:=Prod.mk.inj b3.2
    have b5:=Prod.mk.inj b4.2
    have hr:pJ ((i0 w.params S.colon S.res X tp).tr 57 (ci w.params) (rJ w.params ρ j wr t v l)) false (BL w.params)=some false:=ai (EL w.params S.colon S.res X tp ρ wr v) (j,t,[l.z,l.o,l.n,l.d,l.u]) (aw (bJ j) (aw (ao ht) (aO [l.z,l.o,l.n,l.d,l.u])))
    refine wpAny_execs_cons (hX GO ok bt.1 XS R _ _ λf s1 hr1 k1=>?_)
    obtain⟨rfl,X1⟩:=hr1
    refine wpAny_execs_cons ?_
    rw[ail,exec_If]
    refine wpAny_bind (wpAny_standAt (wpAny_bind (ok.tr b2.1 X1 R _ _ λs2 k2=>?_)))
    have X2:=X1.step k2
    refine wpAny_ite (KPc.ite_yes rfl (wpAny_execs_cons ?_))
    rw[aim,exec_If]
    refine wpAny_bind (wpAny_standAt (wpAny_bind (wpAny_isTrue_BoolOp (wpAny_allTrue_Or_cons (C2 rfl (x_ ho R X2 jp hf b5.2 b4.1 b3.1 λs3 X3 k3=>⟨false,rfl,ifF (sZ (op:=.Or) ok R hr X3 _ _ λs4 k4=>?_)⟩))))))
    have X4:=X3.step k4
    refine wpAny_ite (KPc.ite_no (λz=>Bool.noConfusion z) (wpAny_execs_nil (wpAny_execs_cons (hX GO ok b5.1 X4 R _ _ λf s5 hr k5=>?_))))
    obtain⟨rfl,X5⟩:=hr
    exact wpAny_execs_nil (pA X5 ((((k1.trans (.of k2)).trans k3).trans (.of k4)).trans k5))|false=>
    rcases iG ht with rfl|rfl
    · have bn:=Prod.mk.inj (ai (YK w.params S.colon S.res X tp ρ wr v l) j (bJ j))
      have b2:=Prod.mk.inj bn.2
      have b3:=Prod.mk.inj b2.2
      have b4:=Prod.mk.inj b3.2
      refine wpAny_execs_cons ?_
      rw[aik,exec_If]
      refine wpAny_bind (wpAny_standAt (wpAny_bind (wpAny_isTrue_BoolOp (wpAny_allTrue_And_cons (ok.tr bn.1 XS R _ _ λs1 k1=>?_)))))
      have X1:=XS.step k1
      refine ifT (wpAny_allTrue_And_cons (wpAny_isTrue_Not (C2 rfl (x_ ho R X1 jp hf b4.2 b3.1 b2.1 λs2 X2 k2=>⟨true,rfl,ifF (wpAny_ite (KPc.ite_no (λz=>Bool.noConfusion z) (wpAny_execs_nil (wpAny_execs_cons (hX GO ok b4.1 X2 R _ _ λf s3 hr k3=>?_)))))⟩))))
      obtain⟨rfl,X3⟩:=hr
      exact pA X3 (((ae.of k1).trans k2).trans k3)
    · have bo:=Prod.mk.inj (ai (YL w.params S.colon S.res X tp ρ wr v l) j (bJ j))
      refine wpAny_execs_cons (hX GO ok bo.1 XS R _ _ λf s1 hr k1=>?_)
      obtain⟨rfl,X1⟩:=hr
      refine wpAny_execs_cons (hX GO ok bo.2 X1 R _ _ λf s2 hr k2=>?_)
      obtain⟨rfl,X2⟩:=hr
      exact pA X2 (k1.trans k2)
end
theorem Ξ.set{W:aE}{h:Heap}{m:XV}{v:Value}(hm:ω W h m v){ms:List XV}:∀{vs:List Value}{i:Nat},Ξ W h ms vs->Ξ W h (ms.set i m) (vs.set i v):=by induction ms with
 |nil=>exact λx=>(show _=[]from x)▸aC|cons a r ih=>exact λ{vs i}x=>x.elim λu=>Exists.rec λus y=>y.1▸i.casesOn (Δ hm y.2.2) λi=>Δ y.2.1 (ih y.2.2)
section
variable(P:Params)(ρ:au)
theorem HR:(AO P).bind [.mz] []=some [(gm,.mz)]:=by kernel_rfl
theorem HS:lk (AO P).names gm=some .cell:=by kernel_rfl
theorem HT(col:Nat->Bool)(res:List ((Nat×Nat×Nat)×Int))(X:Nat->XV)(tp:Bool):w_ (GL P col res X tp) (i0 P col res X tp) 57 (ci P) [QW P] ρ=some (.ret (.bool true)):=by kernel_rfl
theorem sS.ex{nm x:Str}{q:Pos}{es:List Expr}{st:Stmt}(h:sS nm x q es st):∃p pos fY,st=.Assign [.Name x p] (.Call (.Name nm q) es [] pos) fY:=h.rec λp pos fY=>⟨p,pos,fY,rfl⟩
def ain(ρ:au):Prop:=∃H6 j wr t v l,ρ=rJ P H6 j wr t v l
open Classical in def E5(ρ:au):Option VO:=if ain P ρ then some (.go false ρ)else none
def mP(j:Bool)(p:Pt):XV:=mJ j p.wr p.told p.v p.l
variable{P ρ}
theorem item{m:XV}{r:List XV}{iq aV:au}(h1:lG (ci P) ρ (EU P) m=some iq)(h2:E5 P iq=some (.go false iq))(h3:fy (ci P) (E5 P) (EU P) r iq=some (.go false aV)):fy (ci P) (E5 P) (EU P) (m::r) ρ=some (.go false aV):=(congrArg (λo:Option au=>o.bind λiq=>(E5 P iq).bind λo=>pP o (fy (ci P) (E5 P) (EU P) r)) h1).trans ((congrArg (λo:Option VO=>o.bind λo=>pP o (fy (ci P) (E5 P) (EU P) r)) h2).trans (congrArg (Option.map (orB false)) h3))
theorem C6(ρ:au){r:List XV}{aV:au}(j:Bool)(p:Pt)(h3:fy (ci P) (E5 P) (EU P) r (rJ P ρ j p.wr p.told p.v p.l)=some (.go false aV)):fy (ci P) (E5 P) (EU P) (mP j p::r) ρ=some (.go false aV):=item (YJ P ρ j p.wr p.told p.v p.l) (if_pos ⟨ρ,j,p.wr,p.told,p.v,p.l,rfl⟩) h3
open Classical in def itL(P:Params)(ρ:au)(e:Expr)(ms:List XV):kL:=λd cx aV tg e'=>if d=57/\cx=ci P/\aV=ρ/\e'=e then some ms else none
end
section
variable{W:aE}{sv:Sv}{A:Around}{vol own lo:List Addr}{s:Shared}{env:Env}{ρ:au}
theorem HU(ok:al W sv){d:Nat}{cx:Cx}(R:ψ A d)(XS:az W own vol cx ρ env s){e1:Expr}{nm:Str}{f:Addr}{np cp lp:Pos}{es:List Expr}{m1 m2:XV}{as:List XV}(h0:eZ e1=false)(f1:sv.ev d cx ρ e1=some m1)(h1:bk es=false)(f2:sv.ev d cx ρ (.Name nm np)=some (.addr f))(f3:bF (sv.ev d cx ρ) es=some as)(hk:keepIn W.K (.ref f)=true)(C:av W d f as m2):ο W A vol (eval (.List [e1,.Call (.Name nm np) es [] cp] lp) env) (.list [m1,m2]) s:=λE Q k=>wpAny_List (wpAny_items_cons (ok.ev f1 XS R E _ λv s1 a1 k1=>wpAny_items_cons (mw ok R (XS.step k1) h1 f2 hk f3 C E _ λu s2 a2 k2=>wpAny_items_nil ⟨sizeLine_eq▸(Nat.le_of_ble_eq_true rfl:2<=16777216),k _ _ ⟨_,_,0,rfl,dA ((XS.inv.step k1).step k2) rfl,(Δ (a1.step k2) (Δ a2 aC)).mono (ba (bU _ _))⟩ ((k1.trans k2).trans (Step.push _ _))⟩) rfl) (jK h0))
end
def gW.res{w:World}{xs:List Int}(p:gW w xs):List ((Nat×Nat×Nat)×Int):=AS (AR p.tp) p.k1.idx (.ofNat p.n1) p.m1 p.i p.m2 p.k2 p.n2
def gW.S{w:World}{xs:List Int}(p:gW w xs):ay:=rq [p.p1,p.p2] (eG xs) xs p.res
theorem gW.hS{w:World}{xs:List Int}(p:gW w xs):p.S.Ok:=vN (N:=3000) (by decide) (by decide) (aq p.g1 (aq p.g2 λ_ m=>nomatch m)) p.hr
def gW.X{w:World}{xs:List Int}(p:gW w xs)(j:Nat):XV:=(p.Q j).lit 30
def gW.sv{w:World}{xs:List Int}(p:gW w xs):Sv:=i0 w.params p.S.colon p.S.res p.X p.tp
def gW.I{w:World}{xs:List Int}(p:gW w xs):XV:=p.p1.lit 38
def gW.L3{w:World}{xs:List Int}(p:gW w xs):List XV:=(lA p.X 6 (p.k2.size p.n2)).set p.i p.I
abbrev gW.W{w:World}{xs:List Int}(p:gW w xs):aE:=W1 w p.S p.hS
section
variable{w:World}{xs:List Int}(p:gW w xs)
structure aio(ρ:au):Prop where
 c:bO (ci w.params) (hH w.params).1=true
 n:(hH w.params).1=vT
 l:bk (hH w.params).2.2=false
 f:p.sv.ev 57 (ci w.params) ρ (.Name iy (hH w.params).2.1)=some (.addr aH)as:bF (p.sv.ev 57 (ci w.params) ρ) (hH w.params).2.2=some [.str [.lit p.k1.name],.list (lA p.X 2 (p.k1.size p.n1)),nJ p.m1,.bool p.tp]t:lk ρ WK=some (.bool p.tp)s:lk ρ gm=some .mz
theorem aip:∃ρ,w_ (GL w.params p.S.colon p.S.res p.X p.tp) p.sv 57 (ci w.params) (BI w.params) [(gm,.mz)]=some (.next ρ)/\aio p ρ:=by
 have e:QX w.params p.S.colon p.S.res p.X p.tp=some (some [.str [.lit p.k1.name],.list (lA p.X 2 (p.k1.size p.n1)),nJ p.m1,.bool p.tp],some (.bool p.tp),some .mz):=ai (E1 w.params p.S.colon p.X p.k2.idx (.ofNat p.n2) p.m1 (p.k2.size p.n2) p.i p.m2) (p.tp,p.k1,p.n1) (aw (bJ _) (C5 p.k1 p.b1))
 exact O e λρ e1 e=>O e1 λr e2 e3=>ξ e λc e=>η c λc1 c=>η c λc2 c=>η c λc3 c4=>have h1:=Prod.mk.inj (Option.some.inj e)
  have h2:=Prod.mk.inj h1.2
  ⟨ρ,e2.trans (congrArg some (li e3)),c1,aA c2,aP c3,di c4,h1.1,h2.1,h2.2⟩
structure acH(D:Nat)(ρ:au):Prop where
 l:hU (Rh p.sv) p.sv 57 (ci w.params) ρ (E3 w.params).1 (E3 w.params).2.1 (E3 w.params).2.2=some (.list (lA p.X 6 (p.k2.size p.n2)))c:bO (ci w.params) kJ=true
 ls:bk (xe (yX w.params))=false
 f:p.sv.ev 57 (ci w.params) (sF ρ D p.L3) (.Name iy (Ip (yX w.params)))=some (.addr aH)v:p.sv.ev 57 (ci w.params) (qM ρ D) (lV w.params)=some p.I
 y:p.sv.ev 57 (ci w.params) (qM ρ D) (lY w.params)=some (.addr D)x:p.sv.ev 57 (ci w.params) (qM ρ D) (lX w.params)=some (.int (.ofNat p.i))e:p.sv.ev 57 (ci w.params) (sF ρ D p.L3) (lE w.params)=some p.I
 as:bF (p.sv.ev 57 (ci w.params) (sF ρ D p.L3)) (xe (yX w.params))=some [.str [.lit p.k2.name],.list p.L3,nJ p.m2,.bool p.tp]
theorem HV:∃ρ,w_ (GL w.params p.S.colon p.S.res p.X p.tp) p.sv 57 (ci w.params) (BK w.params) (WL p.I p.tp)=some (.next ρ)/\∀D,acH p D ρ:=by
 have e:∀D,(acD w.params p.S.colon p.S.res p.X p.tp p.I).map (e2R w.params p.sv D p.L3)=e2V p.X p.I D p.L3 p.i p.m2 p.tp p.k2 p.n2:=λD=>ai (E2 w.params p.S.colon p.X (AR p.tp) p.k1.idx (.ofNat p.n1) p.m1 p.i p.m2 p.I D p.L3) (p.tp,p.k2,p.n2) (aw (bJ _) (C5 p.k2 p.b2))
 obtain⟨ρ,h,_⟩:=Option.map_eq_some_iff.mp (e 0)
 refine O h λr e2 e3=>⟨ρ,e2.trans (congrArg some (li e3)),λD=>?_⟩
 have h1:=Prod.mk.inj (Option.some.inj ((congrArg (Option.map (e2R w.params p.sv D p.L3)) h).symm.trans (e D)))
 have h2:=Prod.mk.inj h1.2
 have h3:=Prod.mk.inj h2.2
 have h4:=Prod.mk.inj h3.2
 have h5:=Prod.mk.inj h4.2
 have h6:=Prod.mk.inj h5.2
 exact η h2.1 λc1 c=>η c λc2 c3=>⟨h1.1,c1,aP c2,di c3,h3.1,h4.1,h5.1,h6.1,h6.2⟩
theorem Q2{S:ay}{hS:S.Ok}{h:Heap}{d i:Nat}{p:Pt}(e1:S.txt i=p.t)(e2:S.ini i=p.b)(e3:S.lst i=p.c):Tr (W1 w S hS) (W1 w S hS) h (p.lit d) (p.sym d i (sB i)):=rr e1 e2 (by
 show S.ini i++([S.lst i]++[])=_
 rw[e2,e3]
 rfl)
def aek(P:Params):Expr:=.List [lE P,.Call (.Name iy (Ip (yX P))) (xe (yX P)) [] (pE (yX P))] (pE (mE (pu P) 1))
theorem ael(ok:al p.W p.sv){D:Nat}{ρ:au}(B:acH p D ρ):bR p.W (itL w.params (sF ρ D p.L3) (aek w.params) [mP false p.p1,mP true p.p2]):=λ{d cx aV tg e ms}h{A own vol env s}X R E Q k=>by
  unfold itL at h
  split at h
  · rename_i hc
    obtain⟨rfl,rfl,rfl,rfl⟩:=hc
    cases h
    refine HU ok R X (YG w.params) B.e B.ls B.f B.as (lj w.params) (av.le (p.c2 _ p.hS) (by decide)) E _ λvo s1 h1 k1=>?_
    have h2:ω p.W (vis vol s1.heap) (.list [mP false p.p1,mP true p.p2]) vo:=vH (aK (Q2 (i:=0) rfl rfl rfl) (aK (Q2 (i:=1) rfl rfl rfl) gP)) vo h1
    refine tE (ms:=[mP false p.p1,mP true p.p2]) rfl (X.inv.step k1) h2 E Q λI s2 P S p0 k2 hI=>k I [I] s2 P _ _ (S tg) p0 (k1.trans k2) (aG (fT k1 hI)) λb m=>hideAll_none _ m
  ·cases h
theorem HW(w:World)(xs:List Int)(hx:xs.length<=63){A:Around}{s:Shared}{v:Value}(jp:A.frames=some [])(R:ψ A 58)(top:(H1 w.params).StaysIn s.heap)(hv:∃a vs n,v=.ref a/\s.heap.get? a=some (aI vs n)/\sJ xs vs){RR:Result->Shared->Prop}(k:∀s',s.heap.StaysIn s'.heap->s'.os=s.os->s'.gens=s.gens->RR (.ok (.ret (.bool true))) s'):codeAny (model prog w) A (.call (.ref sE) ⟨[v],[]⟩) RR s:=by
  obtain⟨p⟩:=bS w xs
  have ho:g9 p.W (h_ p.X p.tp):=zY w xs hx rfl rfl p.row
  have GO:=glL ho
  have ok:al p.W p.sv:=jd ho
  have I:Inv p.W [] s:=⟨Ψ top jO,λa m=>nomatch m⟩
  have aiq:ω p.W (vis [] s.heap) .mz v:=hv.imp λa=>Exists.imp λvs=>Exists.imp λn y=>⟨y.1,jO _ _ y.2.1,y.2.2⟩
  show codeAny (Md p.W) A (.call (.ref sE) ⟨[v],[]⟩) RR s
  refine EG (d:=57) I R (ij (HG w.params)) (HR w.params) (HS w.params) aiq λown env s2 cu k2 SS RD hf=>?_
  have WA:(A.deeper env).frames=some [env]:=Around.frames_deeper jp
  obtain⟨ρA,fA,LA⟩:=aip p
  obtain⟨ρB,fB,LB⟩:=HV p
  have WP:∀{b o},s.heap.get? b=some o->b∉own:=λe m=>ζ ((cu _ m).symm.trans e)
  refine codeAny_func (a8 (C:=λl=>wpAny (Md p.W) (A.deeper env) (execs l env) _ _ s2) (YE w.params) (rR GO ok RD fA SS λs3 X3 k3=>?_))
  obtain⟨q1,q2,q3,z6⟩:=(xX (aii w.params)).ex
  rw[z6]
  refine wpAny_execs_cons (t0 X3 rfl LA.c (mw ok RD X3 LA.l LA.f (lj w.params) LA.as (av.le (p.c1 _ p.hS) (by decide))) _ _ λf s4 hr k4=>?_)
  obtain⟨rfl,X4⟩:=hr
  have X5:az p.W own (own++[]) (ci w.params) (WL p.I p.tp) env s4:=X4.weak λx m e=>g0 e (λz y=>(iC ..).trans ((if_pos (LA.n.trans z)).trans (congrArg some y))) λz e=>(iC ..).trans ((if_neg (λz'=>z (LA.n.symm.trans z'))).trans (g0 e (λz y=>z▸y▸LA.t) λ_ e=>g0 e (λz y=>z▸y▸LA.s) λ_ e=>ζ e))
  refine rR GO ok RD fB X5 λs5 X6 k5=>?_
  have yf:∀a∈own,a∈own++[]:=X6.sub
  rw[aij]
  refine wpAny_execs_cons (r_ (it:=Rh p.sv) (q6 ok) ok RD X6 (LB 0).c (LB 0).l λD ys n s6 X7 hD hg hvl k6=>?_)
  have L:=LB D
  have yT:D∉own++[]:=X6.inv.fresh hD
  have hDo:D∉own:=λm=>yT (yf D m)
  rw[aee]
  refine wpAny_execs_cons (wpAny_Assign_Subscript (ok.ev ((congrArg (p.sv.ev 57 (ci w.params) (qM ρB D)) (YF w.params)).symm.trans L.v) X7 RD _ _ λv1 s7 b1 k7=>ok.ev L.y (X7.step k7) RD _ _ λv2 s8 b2 k8=>ok.ev L.x ((X7.step k7).step k8) RD _ _ λv3 s9 b3 k9=>?_) rfl)
  have Zk:=(k7.trans k8).trans k9
  have X9:=X7.step Zk
  cases(show v2=.ref D from b2)
  obtain⟨t3,rfl⟩:=b3
  have hyl:ys.length=p.k2.size p.n2:=hvl.len.trans (vU p.s2 ..)
  refine wy (i:=p.i) (Zk.keep _ _ hg) rfl (hyl▸p.bi) (hyl▸Nat.le_trans (QR p.s2) (by decide)) λh' n' g1 g2=>?_
  have hk:∀b o,b∉[D]->s9.heap.get? b=some o->h'.get? b=some o:=λb o nb e=>(g2 b (λz=>nb (z▸.head _))).trans e
  have Q3:∀{b o},s5.heap.get? b=some o->b∉[D]:=λe m=>ζ (hD.symm.trans (List.mem_singleton.mp m▸e))
  have XE:az p.W own (own++[]) (ci w.params) (qM ρB D) env {s9 with heap:=h'}:=X9.sub' (Is:=[D]) (s':={s9 with heap:=h'}) hk yf (aG yT) (λm=>hDo (List.mem_singleton.mp m▸X6.fF)) λy c q=>(X6.cl y c q).elim λo e=>Q3 e
  have VL:ω p.W (vis (own++[]) h') (.list p.L3) (.ref D):=⟨D,_,n',rfl,ι.mpr ⟨g1,yT⟩,(Ξ.set (b1.step (k8.trans k9)) (hvl.step Zk)).mono (jS (Is:=[D]) (s':={s9 with heap:=h'}) hk)⟩
  have X10:az p.W own (own++[]) (ci w.params) (sF ρB D p.L3) env {s9 with heap:=h'}:=XE.re (x:=kJ) (o:=.addr D) ((iC ..).trans (if_pos rfl)) λ{v}e=>(show v=.ref D from e)▸VL
  have Z6:=(k3.trans k4).trans k5
  have Zd:=Z6.trans k6
  have KS:s.heap.StaysIn h':=λb o e=>hk b o (Q3 (Z6.keep b o (WP e) (k2.keep b o e))) (Zk.keep b o (Zd.keep b o (WP e) (k2.keep b o e)))
  have GR:Gr s.heap s.heap [] env (A.deeper env) own {s9 with heap:=h'}:=⟨WA,hf,cw _,KS,cu,trivial,X10.fF⟩
  rw[aef]
  refine wpAny_execs_cons (aaR (ael p ok L) RD X10 GR (λ_ m=>m) rfl (if_pos ⟨rfl,rfl,rfl,rfl⟩) (C6 _ false p.p1 (C6 _ true p.p2 rfl)) (λIs ρ o s' hbf X' GR'=>?_) _ _ (λ_ aV hn s11 X11 k11=>?_) λz=>Bool.noConfusion z)
  · unfold E5 at hbf
    split at hbf
    · rename_i hc
      obtain⟨H6,j,wr,t,v,l,rfl⟩:=hc
      cases hbf
      exact HQ ho RD WA hf j wr t v l X'
    ·cases hbf
  · refine q7 GO ok RD (HT w.params aV p.S.colon p.S.res p.X p.tp) X11 _ _ λf s12 hr xa=>?_
    have kE:=k11.trans xa
    exact hr.elim λu y=>y.1▸(show u=.bool true from y.2.1)▸k s12 (λb o e=>kE.keep b o (WP e) (KS b o e)) (kE.os.trans (Zk.os.trans (Zd.os.trans k2.os))) (kE.gens.trans (Zk.gens.trans (Zd.gens.trans k2.gens)))
end
end
section
open PySem.W.X
theorem HX(w:World):(fencedOpening treeTable prog w 60000).map (λs=>(s.heap,s.gens,s.drawn,s.toks))=some (boot_heap w.params,Array.mk [],boot_drawn,boot_toks):=boot_open (p:=prog) (N:=60000) (by kernel_rfl) (by decide+kernel) (λs=>by kernel_rfl) w
theorem aem:LeftO prog qv kI (XtG qv) ZZ Zc 60000:=LeftO.of_pieces (H₀:=boot_heap) (H₁:=H1) (m₀:=11) (ann:=dG) (M:=12+(1+24670)) HX Hb ahw (by decide+kernel) Ej
end
section
open PySem.W.X
noncomputable def gA(p:Program):Bool:=namesResolve p
theorem twA:kk gA=true:=by k_qdec
theorem okA:gA PySem.Challenge.pw_kk0017_01=true:=(congrFun PySem.W.Fast.te14488968739280738039 PySem.Challenge.pw_kk0017_01).trans (by kernel_rfl)
noncomputable def gK(n:Str)(p:Program):Bool:=readsOut p p.main.body n
theorem twK:kk gK=true:=by k_qdec
noncomputable def gM(p:Program):Bool:=noRoadLSs {strict:=false,foot:=none,bare:=[]} p.main.body
theorem twM:kk gM=true:=by k_qdec
theorem okM:gM PySem.Challenge.pw_kk0017_01=true:=(congrFun PySem.W.Fast.te12043351065904746463 PySem.Challenge.pw_kk0017_01).trans (by kernel_rfl)
theorem rd1:gK "vars" PySem.Challenge.pw_kk0017_01=false:=(congrFun (congrFun PySem.W.Fast.te3098523313331544055 "vars") PySem.Challenge.pw_kk0017_01).trans (by kernel_rfl)
theorem rd2:gK "dir" PySem.Challenge.pw_kk0017_01=false:=(congrFun (congrFun PySem.W.Fast.te3098523313331544055 "dir") PySem.Challenge.pw_kk0017_01).trans (by kernel_rfl)
theorem rd3:gK "locals" PySem.Challenge.pw_kk0017_01=false:=(congrFun (congrFun PySem.W.Fast.te3098523313331544055 "locals") PySem.Challenge.pw_kk0017_01).trans (by kernel_rfl)
theorem imL:(importedModules PySem.Challenge.pw_kk0017_01.main.body).all cThrough.contains=true:=by kernel_rfl
theorem YP{f:Str->Bool}(a:f "vars"=false)(b:f "dir"=false)(c:f "locals"=false):(["vars","dir","locals"]:List Str).filter f=[]:=by rw[List.filter_cons,a,List.filter_cons,b,List.filter_cons,c];rfl
theorem air(p:Program)(a:(importedModules p.main.body).all cThrough.contains=true)(b:(["vars","dir","locals"]:List Str).filter (readsOut p p.main.body)=[])(c:gM p=true):noRoadLSs {strict:=!(importedModules p.main.body).all cThrough.contains,foot:=none,bare:=(["vars","dir","locals"]:List Str).filter (readsOut p p.main.body)} p.main.body=true:=by rw[a,b];exact c
theorem okB:noRoadLSs {strict:=!(importedModules PySem.Challenge.pw_kk0017_01.main.body).all cThrough.contains,foot:=none,bare:=(["vars","dir","locals"]:List Str).filter (readsOut PySem.Challenge.pw_kk0017_01 PySem.Challenge.pw_kk0017_01.main.body)} PySem.Challenge.pw_kk0017_01.main.body=true:=air _ imL (YP rd1 rd2 rd3) okM
noncomputable def gC(p:Program):Bool:=namesMeet p p.main.body λ_ n=>attrL n
theorem twC:kk gC=true:=by k_qdec
theorem okC:gC PySem.Challenge.pw_kk0017_01=true:=(congrFun PySem.W.Fast.te6052376732858076949 PySem.Challenge.pw_kk0017_01).trans (by kernel_rfl)
noncomputable def gD(l:OpenLaw):Bool:=namesMeet l.prog l.above λ_ n=>!l.own.contains n
theorem twD:kk gD=true:=by k_qdec
theorem okD:gD PySem.Challenge.rw_kk0017_01=true:=(congrFun PySem.W.Fast.te1094936377083552533 PySem.Challenge.rw_kk0017_01).trans (by kernel_rfl)
noncomputable def gE(l:OpenLaw):Bool:=noClassBlock l.prog l.footing
theorem twE:kk gE=true:=by k_qdec
theorem okE:gE PySem.Challenge.rw_kk0017_01=true:=(congrFun PySem.W.Fast.te2182359319275625638 PySem.Challenge.rw_kk0017_01).trans (by kernel_rfl)
noncomputable def gF(l:OpenLaw):Bool:=l.bound'.all λn=>!builtinNamed n||l.about==[n]||!l.reads n
theorem twF:kk gF=true:=by k_qdec
theorem okF:gF PySem.Challenge.rw_kk0017_01=true:=(congrFun PySem.W.Fast.te11949660066980058346 PySem.Challenge.rw_kk0017_01).trans (by kernel_rfl)
noncomputable def gG(l:OpenLaw):Bool:=namesMeet l.prog l.footing λsc n=>(!([Str.ofString "type",Str.ofString "isinstance",Str.ofString "issubclass",Str.ofString "getattr",Str.ofString "hasattr"]:List Str).contains n||sc.names.lookup n==some .globalImplicit)&&(l.may !=some n||sc.kind==.module||sc.names.lookup n==some .globalImplicit)
theorem twG:kk gG=true:=by k_qdec
theorem okG:gG PySem.Challenge.rw_kk0017_01=true:=(congrFun PySem.W.Fast.te11915870268548717190 PySem.Challenge.rw_kk0017_01).trans (by kernel_rfl)
noncomputable def gH(l:OpenLaw):Bool:=namesMeet l.prog l.footing λsc n=>sc.kind==.module||sc.names.lookup n !=some .globalExplicit
theorem twH:kk gH=true:=by k_qdec
theorem okH:gH PySem.Challenge.rw_kk0017_01=true:=(congrFun PySem.W.Fast.te16349220235743819708 PySem.Challenge.rw_kk0017_01).trans (by kernel_rfl)
noncomputable def gI(l:OpenLaw):Bool:=noRoadLSs {strict:=true,foot:=some l.bound',writes:=l.writes,may:=l.may} l.footing
theorem twI:kk gI=true:=by k_qdec
theorem okI:gI PySem.Challenge.rw_kk0017_01=true:=(congrFun PySem.W.Fast.te16719974584820907312 PySem.Challenge.rw_kk0017_01).trans (by kernel_rfl)
theorem aen:PySem.Challenge.rw_kk0017_01.wellSaid=true:=by
 delta OpenLaw.wellSaid
 repeat' first|(with_reducible refine look_both ?_ ?_)|delta OpenRow.wellSaid|delta OpenRow.partSaid|delta looksOpen
 iterate 2(·as_aux_lemma=>kernel_rfl)
 ·exact okA
 ·as_aux_lemma=>kernel_rfl
 ·exact okB
 ·exact okC
 iterate 17(·as_aux_lemma=>kernel_rfl)
 ·exact okE
 iterate 2(·as_aux_lemma=>kernel_rfl)
 ·exact okI
 iterate 3(·as_aux_lemma=>kernel_rfl)
 ·exact okF
 iterate 2(·as_aux_lemma=>kernel_rfl)
 ·exact okG
 iterate 3(·as_aux_lemma=>kernel_rfl)
 ·exact okD
 ·exact okH
theorem aeo(h:PySem.Challenge.rw_kk0017_01.row.wellSaid=true->PySem.Challenge.rw_kk0017_01.row.Holds):PySem.Challenge.rw_kk0017_01.Holds:=holds_law aen h
end
section
open PySem.W.X
open TablesWhole in
noncomputable def gTld (p : Program) : List Str := wSs gather p.main.scope ⟨p.main.scope, [], [], [], none⟩ p.main.scope p.main.body
theorem twTld : kk gTld = true := by k_qdec
theorem toldNil : gTld PySem.Challenge.pw_kk0017_01 = [] := (congrFun PySem.W.Fast.te2205887166206240013 PySem.Challenge.pw_kk0017_01).trans (by kernel_rfl)
open TablesWhole in
noncomputable def gJwh (i j : Nat) (p : Program) : Bool := wSs holds p.main.scope ⟨p.main.scope, [], [], [], none⟩ p.main.scope ((p.main.body.drop i).take j)
theorem twJwh : kk gJwh = true := by k_qdec
open TablesWhole in
theorem wSsApp {top : Scope} {cx : TablesWhole.Ctx} {sc : Scope} (l r : List Stmt) : wSs holds top cx sc (l ++ r) = (wSs holds top cx sc l && wSs holds top cx sc r) := by
  induction l with
  | nil => rfl
  | cons s q ih =>
    show (TablesWhole.wS holds top cx sc s && wSs holds top cx sc (q ++ r)) = ((TablesWhole.wS holds top cx sc s && wSs holds top cx sc q) && wSs holds top cx sc r)
    rw [ih, Bool.and_assoc]
open TablesWhole in
theorem tabsWh (p : Program) (h1 : p.modules = []) (h2 : p.parses = []) (h3 : p.harvested = []) (ht : gTld p = []) (hn : noTwice p.main.scope = true) (n : p.main.body.drop 96 = []) (a : gJwh 0 32 p = true) (b : gJwh 32 32 p = true) (c : gJwh 64 32 p = true) : p.tablesWhole = true := by
  show wProgram holds p = true
  have e : wModule holds p.main = true := by
    show (true && (noTwice p.main.scope && (wSs holds p.main.scope ⟨p.main.scope, [], gTld p, [], none⟩ p.main.scope p.main.body && true))) = true
    rw [ht, hn]
    have q : p.main.body = (p.main.body.drop 0).take 32 ++ ((p.main.body.drop 32).take 32 ++ ((p.main.body.drop 64).take 32 ++ p.main.body.drop 96)) := by
      rw [show p.main.body.drop 96 = (p.main.body.drop 64).drop 32 from by rw [List.drop_drop], List.take_append_drop, show p.main.body.drop 64 = (p.main.body.drop 32).drop 32 from by rw [List.drop_drop], List.take_append_drop]
      exact (List.take_append_drop 32 p.main.body).symm
    rw [q, wSsApp, wSsApp, wSsApp, n, show wSs holds p.main.scope ⟨p.main.scope, [], [], [], none⟩ p.main.scope ((p.main.body.drop 0).take 32) = true from a, show wSs holds p.main.scope ⟨p.main.scope, [], [], [], none⟩ p.main.scope ((p.main.body.drop 32).take 32) = true from b, show wSs holds p.main.scope ⟨p.main.scope, [], [], [], none⟩ p.main.scope ((p.main.body.drop 64).take 32) = true from c]
    rfl
  unfold wProgram
  rw [h1, h2, h3, e]
  rfl
theorem tabWA : gJwh 0 32 PySem.Challenge.pw_kk0017_01 = true := (congrFun (congrFun (congrFun PySem.W.Fast.te6923378539255167033 0) 32) PySem.Challenge.pw_kk0017_01).trans (by kernel_rfl)
theorem tabWB : gJwh 32 32 PySem.Challenge.pw_kk0017_01 = true := (congrFun (congrFun (congrFun PySem.W.Fast.te6923378539255167033 32) 32) PySem.Challenge.pw_kk0017_01).trans (by kernel_rfl)
theorem tabWC : gJwh 64 32 PySem.Challenge.pw_kk0017_01 = true := (congrFun (congrFun (congrFun PySem.W.Fast.te6923378539255167033 64) 32) PySem.Challenge.pw_kk0017_01).trans (by kernel_rfl)
theorem okTab : PySem.Challenge.pw_kk0017_01.tablesWhole = true := tabsWh _ rfl rfl rfl toldNil (by kernel_rfl) (by kernel_rfl) tabWA tabWB tabWC
theorem acI:(defOf qv pk.name).isSome=true:=by kernel_rfl
noncomputable def E6:DefRec×List (Str×Expr):=(defOf qv pk.name).get acI
theorem acJ:defOf qv pk.name=some (E6.1,E6.2):=(Option.some_get acI).symm
theorem aep(WQ:pk.wellSaid=true)(hw:pk.toRowW.promised)(hc:WalkX qv kI (XL qv []) ZZ Zc pk.toRowW E6.1 E6.2 λf vs=>PySem.call f vs):pk.Holds:=holds_openX (r:=pk) (d:=E6.1) (kwd:=E6.2) (q:=qv) (loose:=kI) (Xt:=XtG qv) (XP:=XL qv []) (Yf:=ZZ) (Ya:=Zc) (N:=60000) aem (λs e=>xl_of s (Bool.and_eq_true_iff.mp e).1) XL.keeps acJ (by kernel_rfl) (by kernel_rfl) (λs e=>recFacts_of (Bool.and_eq_true_iff.mp e).2) rfl WQ (by decide+kernel) ⟨rfl,rfl,rfl,rfl,rfl,okTab⟩ hw hc
end
section
open PySem.W.X
theorem zZ{r:RowW}{cl:Str->Option Addr}{ais:ExcName->Option Value}{args:List WData}{lI s':Shared}(h1:r.returns=.bool)(h2:r.post=.eq .res (.lit (.bool true)))(h3:r.raises=[])(k:lI.heap.StaysIn s'.heap)(ho:s'.os=lI.os)(hg:s'.gens=#[]):GoodWG r.claim cl ais args lI (.ok (.ret (.bool true))) s':=by
 refine⟨.inl ⟨.bool true,.bool true,[],rfl,raisesW_false (by rw[h3];exact allW_false_nil),.bool true,?_,λ_=>⟨List.nodup_nil,λ_ m=>nomatch m⟩⟩,.of_keep k,ho,.of_eq hg⟩
 refine postW_of (X:=true) (by rw[h1];simp[WShape.has,WShape.arms]) (by rw[h2];simp[WTm.value,same]) rfl
theorem x':∀{vs:List Value}{ns:List Int},IntsAre vs ns->sJ ns vs
 |_,_,.nil=>rfl|_,_,.cons n t h=>⟨t,_,rfl,x' h⟩
theorem YQ(P:Params):(nsIn (K1 P) mainGlobals "law").map (λv=>v.map λv=>match v with|.ref a=>Nat.beq a sE|_=>false)=some (some true):=by kernel_rfl
theorem YR{P:Params}{h:Heap}{mg:Str->Option Value}{a:Addr}(st:(H1 P).StaysIn h)(G:h.Ns mainGlobals mg)(e:mg "law"=some (.ref a)):a=sE:=by
 obtain⟨v,h1,h2⟩:=Option.map_eq_some_iff.mp (YQ P)
 obtain⟨v,rfl,h3⟩:=Option.map_eq_some_iff.mp h2
 have KX:(K1 P).In h:=λa o e=>by exact st _ _ (wU P a o e)
 rw[mg_of KX G h1]at e
 cases e
 exact Nat.eq_of_beq_eq_true h3
theorem wz:ψ callerA 58:=⟨by decide,by decide,rfl,rfl⟩
theorem HY:E6.1.name=("law":Str):=defOf_name acJ
theorem HZ:WalkX qv kI (XL qv []) ZZ Zc pk.toRowW E6.1 E6.2 λf vs=>PySem.call f vs:=by
 intro w ait lI mg mb G y fa o pm cd doc dV kV ho hd hcd hD hmg hg args aiF as L aiu aiv hrd hwl qP
 wrow_args aiu aiv hrd hwl qP
 rename_i ns _ _ _ _ _ _ _ la vs _ hL _ _ _ hI _ hm _
 have st:(H1 w.params).StaysIn lI.heap:=λb o e=>L.keeps b o (by
  have:ait.heap=H1 w.params:=y
  rw[this];exact e)
 have ea:fa=sE:=YR st G.T.g (HY▸hmg)
 subst ea
 refine enter_call ?_
 refine HW w ns (by omega) rfl wz st ⟨la,vs,0,rfl,script_obj L hL,x' hI⟩ λs' k1 k2 k3=>?_
 exact zZ rfl rfl rfl k1 k2 (k3.trans hg)
theorem aiw:pk.toRowW.promised:=⟨[.list [.int 3]],by decide+kernel,by decide+kernel⟩
theorem lawHolds:PySem.Challenge.rw_kk0017_01.Holds:=aeo λWQ=>aep WQ aiw HZ
end
end Mine
theorem PySem.Challenge.cw_kk0017_01_holds : PySem.Challenge.rw_kk0017_01.Holds :=
  Mine.lawHolds
