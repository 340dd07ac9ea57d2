import PyProof.Rows.All
import Wide.All
import OpenK.AllK
import Wide.FinOn
import PyProof.GenQ
import Flt.RightMore
import PySem.Challenge.RW_ux0036_01
set_option Elab.async false
set_option compiler.extract_closed false
set_option autoImplicit false
set_option genSizeOf false
set_option genSizeOfSpec false
set_option bootstrap.genMatcherCode false
set_option genInjectivity false
set_option linter.all false
set_option maxRecDepth 100000
set_option maxHeartbeats 8000000
noncomputable section
section
open PySem PySem.W PyProof.Rows
namespace Mine.Internal
noncomputable abbrev qz (l a b:Nat):Pos:=⟨l,a,l,b⟩
theorem bE{n m:Nat}(h:Nat.ble n m=true):n<=m:=Nat.le_of_ble_eq_true h
theorem aq{α:Type}{a b:α}(h:some a=some b):a=b:=Option.some.inj h
theorem fK{a b:Int}(h:a<=b):(a:Rat)<=(b:Rat):=Rat.intCast_le_intCast.mpr h
theorem lW{a b:Int}(h:a<b):(a:Rat)<(b:Rat):=Rat.intCast_lt_intCast.mpr h
theorem ay{α:Type}{as bs:List α}:(as++bs).length=as.length+bs.length:=List.length_append
theorem fG{α:Type}{a b:α}(h:a∈[b]):a=b:=List.mem_singleton.mp h
theorem jb{α:Type}{l:List α}{i:Nat}{a:α}(h:l[i]?=some a):∃h:i<l.length,l[i]=a:=List.getElem?_eq_some_iff.mp h
theorem eF{α:Type}{a:α}{l:List α}:a∈a::l:=List.mem_cons_self
theorem f5{α:Type}{a:α}{l:List α}(b:α)(h:a∈l):a∈b::l:=List.mem_cons_of_mem b h
theorem eX{α:Type}{a b:α}{l:List α}(h:a∈b::l):a=b\/a∈l:=List.mem_cons.mp h
theorem eE{p:Prop}[Decidable p](h:¬p):decide p=false:=decide_eq_false h
theorem eT{p:Prop}[Decidable p](h:p):decide p=true:=decide_eq_true h
theorem fz{G:Prop}(h:∀P:Prop,(G->P)->P):G:=h G id
inductive PV where
 |none
 |bool (b:Bool)
 |int (i:Int)
 |ak (x:UInt64)
 |str (x:Str)
 |tup (xs:List PV)
 |lst (xs:List PV)
 |obj (C:Addr) (fs:List PV)
 |aH (x:UInt64)
noncomputable abbrev aU (vs:List Value) (n:Nat):Obj:={cls:=.type "list",data:=.seq vs.toArray n}
noncomputable abbrev ic (vs:List Value) (n:Nat):Obj:={cls:=.type "tuple",data:=.seq vs.toArray n}
noncomputable def PV.int?(p:PV):Option Int:=PV.casesOn (motive_1:=λ_=>Option Int) p .none (λ_=>.none) some (λ_=>.none) (λ_=>.none) (λ_=>.none) (λ_=>.none) (λ_ _=>.none) λ_=>.none
def PV.bool?(p:PV):Option Bool:=PV.casesOn (motive_1:=λ_=>Option Bool) p .none some (λ_=>.none) (λ_=>.none) (λ_=>.none) (λ_=>.none) (λ_=>.none) (λ_ _=>.none) λ_=>.none
noncomputable def PV.B0(p:PV):Option UInt64:=PV.casesOn (motive_1:=λ_=>Option UInt64) p .none (λ_=>.none) (λ_=>.none) some (λ_=>.none) (λ_=>.none) (λ_=>.none) (λ_ _=>.none) some
def PV.wY(p:PV):Option Str:=PV.casesOn (motive_1:=λ_=>Option Str) p .none (λ_=>.none) (λ_=>.none) (λ_=>.none) some (λ_=>.none) (λ_=>.none) (λ_ _=>.none) λ_=>.none
noncomputable def PV.o4(p:PV):Option (List PV):=PV.casesOn (motive_1:=λ_=>Option (List PV)) p .none (λ_=>.none) (λ_=>.none) (λ_=>.none) (λ_=>.none) some (λ_=>.none) (λ_ _=>.none) λ_=>.none
noncomputable def PV.gw(p:PV):Option (List PV):=PV.casesOn (motive_1:=λ_=>Option (List PV)) p .none (λ_=>.none) (λ_=>.none) (λ_=>.none) (λ_=>.none) (λ_=>.none) some (λ_ _=>.none) λ_=>.none
noncomputable def PV.obj?(p:PV):Option (Addr×List PV):=PV.casesOn (motive_1:=λ_=>Option (Addr×List PV)) p .none (λ_=>.none) (λ_=>.none) (λ_=>.none) (λ_=>.none) (λ_=>.none) (λ_=>.none) (λa b=>some (a,b)) λ_=>.none
noncomputable def PV.JV(p:PV):Option UInt64:=PV.casesOn (motive_1:=λ_=>Option UInt64) p .none (λ_=>.none) (λ_=>.none) (λ_=>.none) (λ_=>.none) (λ_=>.none) (λ_=>.none) (λ_ _=>.none) some
noncomputable def PV.isNone(p:PV):Bool:=PV.casesOn (motive_1:=λ_=>Bool) p true (λ_=>false) (λ_=>false) (λ_=>false) (λ_=>false) (λ_=>false) (λ_=>false) (λ_ _=>false) λ_=>false
theorem no{α:Type}{x:α}{P:Prop}(h:(none:Option α)=some x):P:=nomatch h
section
variable{p:PV}
theorem PV.kY{a:Int}(e:p.int?=some a):p=.int a:=by cases p<;>first|exact no e|exact congrArg _ (aq e)
theorem PV.is_bool{a:Bool}(e:p.bool?=some a):p=.bool a:=by cases p<;>first|exact no e|exact congrArg _ (aq e)
theorem PV.Kh{a:UInt64}(e:p.B0=some a):p=.ak a\/p=.aH a:=by cases p<;>first|exact no e|exact .inl (congrArg _ (aq e))|exact .inr (congrArg _ (aq e))
theorem PV.CQ{a:Str}(e:p.wY=some a):p=.str a:=by cases p<;>first|exact no e|exact congrArg _ (aq e)
theorem PV.is_tup{a:List PV}(e:p.o4=some a):p=.tup a:=by cases p<;>first|exact no e|exact congrArg _ (aq e)
theorem PV.v9{a:List PV}(e:p.gw=some a):p=.lst a:=by cases p<;>first|exact no e|exact congrArg _ (aq e)
theorem PV.CP{a:Addr×List PV}(e:p.obj?=some a):p=.obj a.1 a.2:=by cases p<;>first|exact no e|exact aq e▸rfl
theorem PV.CO{a:UInt64}(e:p.JV=some a):p=.aH a:=by cases p<;>first|exact no e|exact congrArg _ (aq e)
theorem PV.is_none(e:p.isNone=true):p=.none:=by cases p<;>first|rfl|exact nomatch e
end
inductive LstAt(C:Addr->Prop)(h:Heap)(v:Value)(vs:List Value):Prop
 |mk (a:Addr) (n:Nat) (e:v=.ref a) (c:C a) (g:h.get? a=some (aU vs n)):LstAt C h v vs
inductive TupAt(C:Addr->Prop)(h:Heap)(v:Value)(vs:List Value):Prop
 |mk (a:Addr) (n:Nat) (e:v=.ref a) (c:C a) (g:h.get? a=some (ic vs n)):TupAt C h v vs
noncomputable def fieldNames:List Str:=["raw","n","nt","norm","is_simple"]
def mV(es:List DictEntry):Prop:=(∀e∈es,e.refKey=false)/\∀x:Str,x∉fieldNames->es.find? (·.key.isStr x)=none
def BX(es:List DictEntry)(vs:List Value):Prop:=fieldNames.map (nsFind es.toArray)=vs.map some
inductive iy(K:Addr->Prop)(h:Heap)(C:Addr)(v:Value)(vs:List Value):Prop
 |mk (a dx:Addr) (es:List DictEntry) (n:Nat) (e:v=.ref a) (k:K a) (kd:K dx) (g:h.get? a=some (instObj C dx)) (gd:h.get? dx=some (dictOf es n)) (r:mV es/\BX es vs):iy K h C v vs
section
variable(h:Heap)(B:Addr->Prop)
noncomputable def Rep(p:PV):Value->Prop:=PV.rec (motive_1:=λ_=>Value->Prop) (motive_2:=λ_=>List Value->Prop)
 (λv=>v=.none) (λb v=>v=.bool b) (λi v=>∃t,v=.int i t) (λx v=>∃t,v=.float x t) (λx v=>∃t,v=.str x t)
 (λ_ ih v=>∃vs,TupAt B h v vs/\ih vs) (λ_ ih v=>∃vs,LstAt B h v vs/\ih vs) (λC _ ih v=>∃vs,iy B h C v vs/\ih vs) (λx v=>∃t,t≠0/\v=.float x t)
 (λvs=>vs=[]) (λ_ _ f g vs=>∃v r,vs=v::r/\f v/\g r) p
noncomputable def af:List PV->List Value->Prop
 | [],vs=>vs=[]
 |p::ps,vs=>∃v r,vs=v::r/\Rep h B p v/\af ps r
end
section
variable{h h':Heap}{B B' C C':Addr->Prop}{v w:Value}{vs ws:List Value}{p q:PV}{ps qs:List PV}{P:Prop}{n:Nat}{a:Addr}
theorem rH:af h B ps=PV.rec_1 (motive_1:=λ_=>Value->Prop) (motive_2:=λ_=>List Value->Prop)
 (λv=>v=.none) (λb v=>v=.bool b) (λi v=>∃t,v=.int i t) (λx v=>∃t,v=.float x t) (λx v=>∃t,v=.str x t)
 (λ_ ih v=>∃vs,TupAt B h v vs/\ih vs) (λ_ ih v=>∃vs,LstAt B h v vs/\ih vs) (λC _ ih v=>∃vs,iy B h C v vs/\ih vs) (λx v=>∃t,t≠0/\v=.float x t)
 (λvs=>vs=[]) (λ_ _ f g vs=>∃v r,vs=v::r/\f v/\g r) ps:=
 List.rec rfl (λp ps ih=>show(λvs=>∃v r,vs=v::r/\Rep h B p v/\af h B ps r)=_ from ih▸rfl) ps
theorem rJ:Rep h B (.tup ps) v=∃vs,TupAt B h v vs/\af h B ps vs:=congrArg (λf:List Value->Prop=>∃vs,TupAt B h v vs/\f vs) rH.symm
theorem rI:Rep h B (.lst ps) v=∃vs,LstAt B h v vs/\af h B ps vs:=congrArg (λf:List Value->Prop=>∃vs,LstAt B h v vs/\f vs) rH.symm
theorem kg:Rep h B (.obj a ps) v=∃vs,iy B h a v vs/\af h B ps vs:=congrArg (λf:List Value->Prop=>∃vs,iy B h a v vs/\f vs) rH.symm
theorem Rep.mkInt{i:Int}{t:Tok}:Rep h B (.int i) (.int i t):=⟨t,rfl⟩
theorem Rep.yr{i:UInt64}{t:Tok}:Rep h B (.ak i) (.float i t):=⟨t,rfl⟩
theorem Rep.IU{i:UInt64}{t:Tok}(n:t≠0):Rep h B (.aH i) (.float i t):=⟨t,n,rfl⟩
theorem Rep.mkStr{i:Str}{t:Tok}:Rep h B (.str i) (.str i t):=⟨t,rfl⟩
theorem Rep.yt(b:B a)(e:h.get? a=some (ic vs n))(r:af h B ps vs):Rep h B (.tup ps) (.ref a):=rJ▸⟨vs,⟨a,n,rfl,b,e⟩,r⟩
theorem Rep.oi(b:B a)(e:h.get? a=some (aU vs n))(r:af h B ps vs):Rep h B (.lst ps) (.ref a):=rI▸⟨vs,⟨a,n,rfl,b,e⟩,r⟩
theorem af.nil:af h B [] []:=rfl
theorem af.cons(r:Rep h B p v)(l:af h B ps vs):af h B (p::ps) (v::vs):=⟨v,vs,rfl,r,l⟩
theorem Rep.Oc{M:Value->Prop}{i:Int}(r:Rep h B (.int i) v)(k:∀t,M (.int i t)):M v:=r.elim λt e=>e▸k t
theorem Rep.Ob{M:Value->Prop}{i:UInt64}(r:Rep h B (.ak i) v)(k:∀t,M (.float i t)):M v:=r.elim λt e=>e▸k t
theorem Rep.onStr{M:Value->Prop}{i:Str}(r:Rep h B (.str i) v)(k:∀t,M (.str i t)):M v:=r.elim λt e=>e▸k t
theorem Rep.KY{M:Value->Prop}{i:Bool}(r:Rep h B (.bool i) v)(k:M (.bool i)):M v:=Eq.symm (show v=.bool i from r)▸k
theorem Rep.KZ{M:Value->Prop}(r:Rep h B .none v)(k:M .none):M v:=Eq.symm (show v=.none from r)▸k
theorem LstAt.on{M:Value->Prop}(r:LstAt C h v vs)(k:∀a n,C a->h.get? a=some (aU vs n)->M (.ref a)):M v:=by obtain⟨a,n,rfl,c,e⟩:=r;exact k a n c e
theorem TupAt.on{M:Value->Prop}(r:TupAt C h v vs)(k:∀a n,C a->h.get? a=some (ic vs n)->M (.ref a)):M v:=by obtain⟨a,n,rfl,c,e⟩:=r;exact k a n c e
theorem Rep.lU{M:Value->Prop}(r:Rep h B (.lst ps) v)(k:∀a n vs,B a->h.get? a=some (aU vs n)->af h B ps vs->M (.ref a)):M v:=(rI▸r).elim λ_ r=>r.1.on λa n b e=>k a n _ b e r.2
theorem Rep.j5{M:Value->Prop}(r:Rep h B (.tup ps) v)(k:∀a n vs,B a->h.get? a=some (ic vs n)->af h B ps vs->M (.ref a)):M v:=(rJ▸r).elim λ_ r=>r.1.on λa n b e=>k a n _ b e r.2
theorem af.oj{M:List Value->Prop}(r:af h B [] vs)(k:M []):M vs:=Eq.symm (show vs=[]from r)▸k
theorem af.dQ{M:List Value->Prop}(r:af h B (p::ps) vs)(k:∀v r,Rep h B p v->af h B ps r->M (v::r)):M vs:=by obtain⟨v,r,rfl,a,b⟩:=r;exact k v r a b
theorem LstAt.move(r:LstAt C h v vs)(k:∀a o,C a->h.get? a=some o->C' a/\h'.get? a=some o):LstAt C' h' v vs:=by obtain⟨a,n,e,c,g⟩:=r;exact⟨a,n,e,(k a _ c g).1,(k a _ c g).2⟩
theorem TupAt.move(r:TupAt C h v vs)(k:∀a o,C a->h.get? a=some o->C' a/\h'.get? a=some o):TupAt C' h' v vs:=by obtain⟨a,n,e,c,g⟩:=r;exact⟨a,n,e,(k a _ c g).1,(k a _ c g).2⟩
theorem iy.move(r:iy C h a v vs)(k:∀a o,C a->h.get? a=some o->C' a/\h'.get? a=some o):iy C' h' a v vs:=by obtain⟨a,d,es,n,e,c,c2,g,g2,r⟩:=r;exact⟨a,d,es,n,e,(k a _ c g).1,(k d _ c2 g2).1,(k a _ c g).2,(k d _ c2 g2).2,r⟩
theorem Rep.move(r:Rep h B p v)(k:∀a o,B a->h.get? a=some o->B' a/\h'.get? a=some o):Rep h' B' p v:=
 PV.rec (motive_1:=λp=>∀v,Rep h B p v->Rep h' B' p v) (motive_2:=λps=>∀vs,af h B ps vs->af h' B' ps vs)
  (λ_ r=>r) (λ_ _ r=>r) (λ_ _ r=>r) (λ_ _ r=>r) (λ_ _ r=>r)
  (λ_ ih v r=>by rw[rJ]at r⊢;exact r.imp λvs r=>⟨r.1.move k,ih vs r.2⟩) (λ_ ih v r=>by rw[rI]at r⊢;exact r.imp λvs r=>⟨r.1.move k,ih vs r.2⟩)
  (λ_ _ ih v r=>by rw[kg]at r⊢;exact r.imp λvs r=>⟨r.1.move k,ih vs r.2⟩) (λ_ _ r=>r)
  (λ_ r=>r) (λ_ _ f g vs r=>by refine r.dQ λv r a b=>?_;exact af.cons (f v a) (g r b)) p v r
theorem af.move(k:∀a o,B a->h.get? a=some o->B' a/\h'.get? a=some o):∀{ps vs},af h B ps vs->af h' B' ps vs
 | [],_,r=>r
 |_::_,_,r=>by refine r.dQ λ_ _ a b=>?_;exact af.cons (a.move k) (af.move k b)
theorem af.length:∀{ps vs},af h B ps vs->vs.length=ps.length
 | [],_,r=>r.oj (M:=λvs=>vs.length=_) rfl
 |_::_,_,r=>r.dQ (M:=λvs=>vs.length=_) λ_ _ _ b=>congrArg (·+1) (af.length b)
theorem af.append(l:af h B qs ws):∀{ps vs},af h B ps vs->af h B (ps++qs) (vs++ws)
 | [],_,r=>r.oj (M:=λvs=>af h B qs (vs++ws)) l
 |_::_,_,r=>r.dQ (M:=λvs=>af h B _ (vs++ws)) λ_ _ a b=>af.cons a (af.append l b)
theorem af.get:∀{ps vs} {i:Nat} {p},af h B ps vs->ps[i]?=some p->∃v,vs[i]?=some v/\Rep h B p v
 | [],_,_,_,_,e=>no e
 |_::_,_,0,p,r,e=>r.dQ (M:=λvs=>∃v,vs[0]?=some v/\Rep h B p v) λv _ a _=>⟨v,rfl,aq e▸a⟩
 |_::_,_,i+1,p,r,e=>r.dQ (M:=λvs=>∃v,vs[i+1]?=some v/\Rep h B p v) λ_ _ _ b=>af.get (i:=i) b e
theorem af.get':∀{ps vs} {i:Nat} {v},af h B ps vs->vs[i]?=some v->∃p,ps[i]?=some p/\Rep h B p v
 | [],_,_,_,r=>r.oj (M:=λvs=>vs[_]?=some _->_) no
 |p::_,_,0,v,r=>r.dQ (M:=λvs=>vs[0]?=some v->_) λv _ a _ e=>⟨p,rfl,aq e▸a⟩
 |_::_,_,i+1,v,r=>r.dQ (M:=λvs=>vs[i+1]?=some v->_) λ_ _ _ b e=>af.get' (i:=i) b e
theorem af.drop:∀{ps vs} (i:Nat),af h B ps vs->af h B (ps.drop i) (vs.drop i)
 |_,_,0,r=>r
 | [],_,i+1,r=>r.oj (M:=λvs=>af h B _ (vs.drop (i+1))) af.nil
 |_::_,_,i+1,r=>r.dQ (M:=λvs=>af h B _ (vs.drop (i+1))) λ_ _ _ b=>af.drop i b
theorem af.take:∀{ps vs} (i:Nat),af h B ps vs->af h B (ps.take i) (vs.take i)
 |_,_,0,_=>af.nil
 | [],_,i+1,r=>r.oj (M:=λvs=>af h B _ (vs.take (i+1))) af.nil
 |_::_,_,i+1,r=>r.dQ (M:=λvs=>af h B _ (vs.take (i+1))) λ_ _ a b=>af.cons a (af.take i b)
theorem af.rev:∀{ps vs},af h B ps vs->af h B ps.reverse vs.reverse
 | [],_,r=>r.oj (M:=λvs=>af h B _ vs.reverse) af.nil
 |_::_,_,r=>r.dQ (M:=λvs=>af h B _ vs.reverse) λ_ _ a b=>by rw[List.reverse_cons,List.reverse_cons];exact af.append (af.cons a af.nil) (af.rev b)
theorem af.set(l:Rep h B q w):∀{ps vs} (i:Nat),af h B ps vs->af h B (ps.set i q) (vs.set i w)
 | [],_,i,r=>r.oj (M:=λvs=>af h B _ (vs.set i w)) af.nil
 |_::_,_,0,r=>r.dQ (M:=λvs=>af h B _ (vs.set 0 w)) λ_ _ _ b=>af.cons l b
 |_::_,_,i+1,r=>r.dQ (M:=λvs=>af h B _ (vs.set (i+1) w)) λ_ _ a b=>af.cons a (af.set l i b)
end
structure oQ where
 fns:List Str
 gens:List Str
 oV:List (Str×UInt64)
 jl:List (Str×Int)
 ms:List Str
 cls:Addr
 Bg:List (Nat×Str×Str)
structure Cx where
 prog:Program
 w:World
 N:Addr
 l₀:Addr
 G:Heap->Prop
 nm:oQ
 mg:Str->Option Value
 mb:Str->Option Value
 fv:Nat->Value
 gv:Nat->Value
 mv:Nat->Value
noncomputable abbrev Cx.M (X:Cx):Model:=model X.prog X.w
def Cx.V(X:Cx)(a:Addr):Prop:=X.N<=a\/a=X.l₀
def bR(o:Obj):Prop:=o.cls≠.type "code"\/∀vs,o.data≠.fields vs
def mD(N:Nat)(h:Heap)(a:Addr):Prop:=N<=a/\∃o,h.get? a=some o/\bR o
abbrev Ext(h h':Heap):Prop:=∀a o,h.get? a=some o->h'.get? a=some o
abbrev Mh(K:Addr->Prop)(h h':Heap):Prop:=∀a o,K a->h.get? a=some o->h'.get? a=some o
structure bD(Ar:Around)(d:Nat):Prop where
 hh:Ar.handled=none
 hd:Ar.depth+d<=1000
 hu:Ar.units+8*d+200<=9900
theorem bD.less{Ar:Around}{d e:Nat}(r:bD Ar d)(h:e<=d):bD Ar e:=⟨r.hh,Nat.le_trans (Nat.add_le_add_left h _) r.hd,Nat.le_trans (Nat.add_le_add_right (Nat.add_le_add_left (Nat.mul_le_mul_left 8 h) _) _) r.hu⟩
theorem wQ{k u d:Nat}(hk:k<=8)(h:u+8*(d+1)+200<=9900):u+k+8*d+200<=9900:=
 Nat.le_trans (Nat.add_le_add_right (by rw[Nat.add_assoc,Nat.add_comm k];exact Nat.add_le_add_left (Nat.add_le_add_left hk _) _) 200) h
theorem K8{u d:Nat}(h:u+8*(d+1)+200<=9900):u+3+8*d+200<=9900:=wQ (by decide) h
theorem DB{u d:Nat}(h:u+(d+1)<=1000):u+1+d<=1000/\u<1000:=by lia
theorem K9{u d:Nat}(h:u+8*d+200<=9900):u+64<9900:=by lia
theorem bD.deeper{Ar:Around}{d:Nat}{env:Env}(r:bD Ar (d+1)):bD (Ar.deeper env) d:=⟨r.hh,(DB r.hd).1,K8 r.hu⟩
theorem bD.depth{Ar:Around}{d:Nat}(r:bD Ar (d+1)):Ar.depth<recursionLimit:=(DB r.hd).2
theorem bD.units{Ar:Around}{d:Nat}(r:bD Ar d):Ar.units+64<cLine:=K9 r.hu
structure St(X:Cx)(K:Addr->Prop)(g:Nat)(s s':Shared):Prop where
 off:Mh K s.heap s'.heap
 G:X.G s.heap->X.G s'.heap
 gens:∀(i:Nat) (x:GenState),i<g->s.gens[i]?=some x->s'.gens[i]?=some x
 bare:AllBare s.gens->AllBare s'.gens
 os:s'.os=s.os
abbrev aJ(X:Cx)(K:Addr->Prop)(s s':Shared):Prop:=St X K s.gens.size s s'
section
variable{X:Cx}{K K':Addr->Prop}{g g':Nat}{s s' s'':Shared}{h h':Heap}
theorem St.refl:St X K g s s:=⟨λ_ _ _ e=>e,id,λ_ _ _ e=>e,id,rfl⟩
theorem St.live(x:St X K g s s'){a:Addr}(k:K a)(e:s'.heap.get? a=none):s.heap.get? a=none:=by
 cases q:s.heap.get? a with
 |none=>rfl
 |some o=>rw[x.off a o k q]at e;cases e
theorem St.trans(x:St X K g s s')(y:St X K g s' s''):St X K g s s'':=
 ⟨λa o k e=>y.off a o k (x.off a o k e),λq=>y.G (x.G q),λi z l e=>y.gens i z l (x.gens i z l e),λb=>y.bare (x.bare b),y.os.trans x.os⟩
theorem St.weak(x:St X K g s s')(h:∀a o,K' a->s.heap.get? a=some o->K a)(l:g'<=g):St X K' g' s s':=
 ⟨λa o k e=>x.off a o (h a o k e) e,x.G,λi z n e=>x.gens i z (Nat.lt_of_lt_of_le n l) e,x.bare,x.os⟩
theorem aJ.size(x:aJ X K s s'):s.gens.size<=s'.gens.size:=by
 cases n:s.gens.size with
 |zero=>exact Nat.zero_le _
 |succ k=>
  have l:k<s.gens.size:=n▸Nat.lt_succ_self k
  exact(Array.getElem?_eq_some_iff.mp (x.gens k _ l (Array.getElem?_eq_getElem l))).1
theorem aJ.trans(x:aJ X K s s')(y:aJ X K s' s''):aJ X K s s'':=St.trans x (y.weak (λ_ _ k _=>k) x.size)
theorem aJ.weak(x:aJ X K s s')(h:∀a,K' a->K a):aJ X K' s s':=St.weak x (λa _ k _=>h a k) (Nat.le_refl _)
theorem bL(h:Heap):h.get? h.objs.size=none:=by
 cases q:h.get? h.objs.size with
 |none=>rfl
 |some o=>exact absurd (Heap.lt_size q) (Nat.lt_irrefl _)
theorem Ext.push(h:Heap)(o:Obj):Ext h (h.push o):=λ_ _ e=>Heap.get?_push_of_some _ e
end
structure bO where
 fn:Nat->List PV->Option PV
 me:Nat->List PV->Option PV
 gen:Nat->List PV->Option (List PV)
 hz:Bool
inductive Loc|loc (L:Addr) (x:Str)|cell (c:Addr)
def Loc.addr(l:Loc):Addr:=Loc.casesOn (motive:=λ_=>Addr) l (λL _=>L) id
def At(h:Heap)(o:Option Value)(l:Loc):Prop:=Loc.casesOn (motive:=λ_=>Prop) l (λL x=>∃m,h.Ns L m/\m x=o) (λc=>h.IsCell c o)
theorem At.keep{h h':Heap}{o:Option Value}{l:Loc}(x:At h o l)(k:∀ob,h.get? l.addr=some ob->h'.get? l.addr=some ob):At h' o l:=by
 cases l with
 |loc=>obtain⟨m,⟨ob,es,ep,q,r⟩,e⟩:=x;exact⟨m,⟨ob,es,ep,k ob q,r⟩,e⟩
 |cell=>obtain⟨ob,q,r⟩:=x;exact⟨ob,k ob q,r⟩
inductive Slot
 |unset
 |val (p:PV)
 |own (xs:List PV)
 |is (k:Nat)
structure Fr where
 X:Cx
 Φ:bO
 Ar:Around
 d:Nat
 env:Env
 ls:List Loc
 B:Addr->Prop
 U:Addr->Prop
 wr:Nat
 ow:Nat
 fx:Nat->Value
noncomputable def Fr.Rep(Z:Fr)(h:Heap):PV->Value->Prop:=Internal.Rep h Z.B
noncomputable def Fr.af(Z:Fr)(h:Heap):List PV->List Value->Prop:=Internal.af h Z.B
inductive yY(N:Nat)(B:Addr->Prop)(h:Heap)(o:Option Value)(xs:List PV):Prop
 |mk (v:Value) (vs:List Value) (e:o=some v) (l:LstAt (λa=>N<=a) h v vs) (r:Internal.af h B xs vs):yY N B h o xs
theorem yY.on{N:Nat}{B:Addr->Prop}{h:Heap}{o:Option Value}{xs:List PV}{P:Prop}(q:yY N B h o xs)(k:∀v vs,o=some v->LstAt (λa=>N<=a) h v vs->Internal.af h B xs vs->P):P:=yY.casesOn q k
def lN(Z:Fr)(h:Heap)(o:Option Value)(t:Slot):Prop:=Slot.casesOn (motive:=λ_=>Prop) t True (λp=>∃v,o=some v/\Z.Rep h p v)
 (λxs=>yY Z.X.N Z.B h o xs) (λk=>o=some (Z.fx k))
structure SC where
 N:List (Str×NameKind)
 Γ:List Str
 nm:oQ
 top:Bool
structure bq(env:Env)(sc:SC)(ls:List Loc):Prop where
 kind:env.scope.kind=.function
 names:env.scope.names=sc.N
 glob:env.globals=mainGlobals
 blt:env.builtins=builtinsNs
 len:ls.length=sc.Γ.length
 loc:∀(i:Nat) (x:Str) (l:Loc),sc.Γ[i]?=some x->ls[i]?=some l->sc.N.lookup x=some .local->l=Loc.loc env.locals x
 L3:∀(i:Nat) (x:Str) (l:Loc),sc.Γ[i]?=some x->ls[i]?=some l->(sc.N.lookup x=some .cell\/sc.N.lookup x=some .free)->∃c,env.cells.lookup x=some c/\l=Loc.cell c
structure EZ(X:Cx):Prop where
 nb:∀h,X.G h->NoneBooked h
 Gk:∀(h h':Heap) (W:Addr->Prop),X.G h->(∀a,W a->mD X.N h a)->(∀a o,¬W a->h.get? a=some o->h'.get? a=some o)->X.G h'
 nolimit:∀h,X.G h->h.NoLimit
 size:∀h,X.G h->X.N<=h.objs.size
 g:∀h,X.G h->h.Ns mainGlobals X.mg
 b:∀h,X.G h->h.Ns builtinsNs X.mb
 fns:∀f x,X.nm.fns[f]?=some x->X.mg x=some (X.fv f)
 gens:∀f x,X.nm.gens[f]?=some x->X.mg x=some (X.gv f)
 oV:∀x b,X.nm.oV.lookup x=some b->∃t,X.mg x=some (.float b t)
 jl:∀x b,X.nm.jl.lookup x=some b->∃t,X.mg x=some (.int b t)
 blt:∀x∈(["len","abs","max","min","sum","int","sorted","tuple","list","divmod","range","enumerate","zip","reversed","str","ZeroDivisionError"]:List Str),X.mg x=none/\X.mb x=bootBuiltins x
 xH:∀f x,X.nm.fns[f]?=some x->∀(Ar:Around) (pos:Pos) (first:List Value) (trees:List (Bool×Sem Value)) (Q:Value->Shared->Prop) (E:Value->Shared->Prop) (s:Shared),trees.any (·.1)=false->
  wpAny X.M Ar (spliced trees) (λvs s₁=>X.G s₁.heap/\wpAny X.M Ar (call (X.fv f) (first++vs)) Q E s₁) E s->X.G s.heap->wpAny X.M Ar (callWith pos (X.fv f) first trees []) Q E s
 Il:∀f x,X.nm.gens[f]?=some x->∀(Ar:Around) (pos:Pos) (first:List Value) (trees:List (Bool×Sem Value)) (Q:Value->Shared->Prop) (E:Value->Shared->Prop) (s:Shared),trees.any (·.1)=false->
  wpAny X.M Ar (spliced trees) (λvs s₁=>X.G s₁.heap/\wpAny X.M Ar (call (X.gv f) (first++vs)) Q E s₁) E s->X.G s.heap->wpAny X.M Ar (callWith pos (X.gv f) first trees []) Q E s
 attr:∀(i:Nat) (x:Str),fieldNames[i]?=some x->∀(Ar:Around) (B:Addr->Prop) (s:Shared) (ov:Value) (fs:List PV) (p:PV) (Q:Value->Shared->Prop) (E:Value->Shared->Prop),X.G s.heap->Rep s.heap B (.obj X.nm.cls fs) ov->fs[i]?=some p->
  (∀v tk,Rep s.heap B p v->Q v {s with toks:=tk})->wpAny X.M Ar (getAttr ov x true) Q E s
 yT:∀(f:Nat) (x:Str),X.nm.ms[f]?=some x->∀(Ar:Around) (B:Addr->Prop) (s:Shared) (o:Expr) (apos pos:Pos) (env:Env) (ov:Value) (fs:List PV) (n:Nat) (trees:List (Bool×Sem Value)) (Q:Value->Shared->Prop) (E:Value->Shared->Prop),
  X.G s.heap->Rep s.heap B (.obj X.nm.cls fs) ov->methodCallForm n trees []=true->(apos.endLine==pos.line)=true->trees.any (·.1)=false->
  wpAny X.M Ar (spliced trees) (λvs s₁=>X.G s₁.heap/\wpAny X.M Ar (call (X.mv f) (ov::vs)) Q E s₁) E s->wpAny X.M Ar (methodCall o x apos pos env ov n trees []) Q E s
 cat:∀(f:Nat) (w x y:Str),X.nm.fns[f]?=some w->(f,x,y)∈X.nm.Bg->∀(Ar:Around) (s:Shared) (Q:Value->Shared->Prop) (E:Value->Shared->Prop),X.G s.heap->(∀t,Q (.str y t) {s with toks:=s.toks+1})->wpAny X.M Ar (getAttr (X.fv f) x true) Q E s
structure Bs(Z:Fr)(s:Shared):Prop where
 K:EZ Z.X
 R:bD Z.Ar Z.d
 g:Z.X.G s.heap
 fresh:∀a,Z.X.N<=a->s.heap.get? a=none->Z.B a
 sub:∀a,Z.B a->Z.X.V a
structure Dy(Z:Fr)(σ:List Slot)(ws:Nat->Option Value)(s:Shared):Prop extends Bs Z s where
 eU:∀a,Z.U a->¬Z.B a
 turn:∀a,Z.U a->mD Z.X.N s.heap a
 len:Z.ls.length=σ.length
 pl:∀(i:Nat) (l:Loc),Z.ls[i]?=some l->At s.heap (ws i) l
 ok:∀(i:Nat) (t:Slot),σ[i]?=some t->lN Z s.heap (ws i) t
 hi:∀l∈Z.ls,Z.X.N<=l.addr
 mine:∀(i:Nat) (l:Loc),i<Z.wr->Z.ls[i]?=some l->Z.U l.addr
 dI:∀(i:Nat) (xs:List PV) (a:Addr),i<Z.ow->σ[i]?=some (.own xs)->ws i=some (.ref a)->Z.U a
 apart:Z.ls.Nodup
 eV:Z.X.N<=Z.env.locals/\∃m,s.heap.Ns Z.env.locals m
 once:∀(i j:Nat) (xs ys:List PV),σ[i]?=some (.own xs)->σ[j]?=some (.own ys)->ws i=ws j->i=j
def aY(Z:Fr)(s:Shared)(p:PV)(t:Sem Value):Prop:=∀(Q:Value->Shared->Prop) (E:Value->Shared->Prop),(∀v s',aJ Z.X Z.X.V s s'->Z.Rep s'.heap p v->Q v s')->wpAny Z.X.M Z.Ar t Q E s
def r8(Z:Fr)(s:Shared)(b:Bool)(t:Sem Bool):Prop:=∀(Q:Bool->Shared->Prop) (E:Value->Shared->Prop),(∀s',aJ Z.X Z.X.V s s'->Q b s')->wpAny Z.X.M Z.Ar t Q E s
def Mj(Z:Fr)(s:Shared)(xs:List PV)(t:Sem Value):Prop:=∀(Q:Value->Shared->Prop) (E:Value->Shared->Prop),(∀v vs s',aJ Z.X Z.X.V s s'->LstAt Z.X.V s'.heap v vs->Z.af s'.heap xs vs->Q v s')->wpAny Z.X.M Z.Ar t Q E s
section
variable{Z:Fr}{s s' s'':Shared}{h':Heap}{tk:Nat}{σ:List Slot}{ws:Nat->Option Value}{p:PV}{ps:List PV}{v:Value}{vs:List Value}
theorem Fr.Rep.stp(r:Z.Rep s.heap p v)(b:∀a,Z.B a->Z.X.V a)(x:aJ Z.X Z.X.V s s'):Z.Rep s'.heap p v:=Internal.Rep.move r λa o k e=>⟨k,x.off a o (b a k) e⟩
theorem Fr.af.stp(r:Z.af s.heap ps vs)(b:∀a,Z.B a->Z.X.V a)(x:aJ Z.X Z.X.V s s'):Z.af s'.heap ps vs:=Internal.af.move (λa o k e=>⟨k,x.off a o (b a k) e⟩) r
theorem Bs.step(V:Bs Z s)(x:aJ Z.X Z.X.V s s'):Bs Z s':=⟨V.K,V.R,x.G V.g,λa n e=>V.fresh a n (x.live (.inl n) e),V.sub⟩
theorem Dy.step(D:Dy Z σ ws s)(x:aJ Z.X Z.X.V s s'):Dy Z σ ws s':=
 have k:∀a o,Z.X.N<=a->s.heap.get? a=some o->s'.heap.get? a=some o:=λa o u e=>x.off a o (.inl u) e
 {D.toBs.step x with
  eU:=D.eU,len:=D.len,hi:=D.hi,mine:=D.mine,dI:=D.dI,apart:=D.apart,once:=D.once,eV:=⟨D.eV.1,D.eV.2.imp λm q=>q.at' λo e=>k _ o D.eV.1 e⟩
  turn:=λa u=>⟨(D.turn a u).1,(D.turn a u).2.imp λo q=>⟨k a o (D.turn a u).1 q.1,q.2⟩⟩
  pl:=λi l e=>(D.pl i l e).keep λo q=>k _ o (D.hi l (List.mem_of_getElem? e)) q
  ok:=λi t e=>by
   have q:=D.ok i t e
   cases t with
   |unset=>trivial
   |val p=>exact q.imp λv q=>⟨q.1,q.2.stp D.sub x⟩
   |own xs=>obtain⟨v,vs,e,l,r⟩:=q;exact⟨v,vs,e,l.move λa o u e=>⟨u,k a o u e⟩,Fr.af.stp (Z:=Z) r D.sub x⟩
   |is v=>exact q}
theorem Bs.ext(V:Bs Z s)(x:Ext s.heap h'){K:Addr->Prop}{g:Nat}:St Z.X K g s {s with heap:=h',toks:=tk}:=
 ⟨λa o _ e=>x a o e,λq=>V.K.Gk _ _ (λ_=>False) q (λ_ f=>f.elim) λa o _ e=>x a o e,λ_ _ _ e=>e,id,rfl⟩
theorem Bs.toks(V:Bs Z s){K:Addr->Prop}{g:Nat}:St Z.X K g s {s with toks:=tk}:=V.ext (h':=s.heap) λ_ _ e=>e
theorem Bs.push(V:Bs Z s){o:Obj}{K:Addr->Prop}{g:Nat}:St Z.X K g s {s with heap:=s.heap.push o,toks:=tk}:=V.ext (Ext.push _ _)
theorem Bs.new(V:Bs Z s):Z.B s.heap.objs.size:=V.fresh _ (V.K.size _ V.g) (bL _)
theorem Fr.af.ext(r:Z.af s.heap ps vs)(x:Ext s.heap h'):Z.af h' ps vs:=Internal.af.move (λa o k e=>⟨k,x a o e⟩) r
theorem Bs.lst(V:Bs Z s){Q:Value->Shared->Prop}(r:Z.af s.heap ps vs)(h:∀v s',aJ Z.X Z.X.V s s'->Z.Rep s'.heap (.lst ps) v->Q v s'):Q (.ref s.heap.objs.size) {s with heap:=s.heap.push (aU vs 0),toks:=tk}:=
 h _ _ V.push (Rep.oi V.new (Heap.get?_push_size _ rfl) (r.ext (Ext.push _ _)))
theorem Bs.tup(V:Bs Z s){Q:Value->Shared->Prop}(r:Z.af s.heap ps vs)(h:∀v s',aJ Z.X Z.X.V s s'->Z.Rep s'.heap (.tup ps) v->Q v s'):Q (.ref s.heap.objs.size) {s with heap:=s.heap.push (ic vs 0),toks:=tk}:=
 h _ _ V.push (Rep.yt V.new (Heap.get?_push_size _ rfl) (r.ext (Ext.push _ _)))
theorem aY.go{t:Sem Value}{Q:Value->Shared->Prop}{E:Value->Shared->Prop}(g:aY Z s' p t)(x:aJ Z.X Z.X.V s s')(h:∀v s'',aJ Z.X Z.X.V s s''->Z.Rep s''.heap p v->Q v s''):wpAny Z.X.M Z.Ar t Q E s':=g Q E λv s'' y r=>h v s'' (x.trans y) r
theorem r8.go{t:Sem Bool}{b:Bool}{Q:Bool->Shared->Prop}{E:Value->Shared->Prop}(g:r8 Z s' b t)(x:aJ Z.X Z.X.V s s')(h:∀s'',aJ Z.X Z.X.V s s''->Q b s''):wpAny Z.X.M Z.Ar t Q E s':=g Q E λs'' y=>h s'' (x.trans y)
end
noncomputable def Jx:Nat:=1000000
noncomputable def sm(i:Int):Bool:=Nat.blt i.natAbs 9223372036854775808
theorem pV{i:Int}(h:sm i=true):i.natAbs<9223372036854775808:=Nat.blt_eq.mp h
theorem N2{i:Int}(h:i.natAbs<9223372036854775808):-2^63<=i/\i<2^63:=⟨by lia,by lia⟩
theorem lV{α:Type}{o:Option α}{f:α->Option PV}{r:PV}{P:Prop}(e:o.bind f=some r)(k:∀a,o=some a->f a=some r->P):P:=(Option.bind_eq_some_iff.mp e).elim λa h=>k a h.1 h.2
theorem iI{c:Bool}{g r:PV}{M:PV->Prop}(e:(bif c then some g else none)=some r)(k:c=true->M g):M r:=by
 cases c with
 |false=>exact no e
 |true=>exact aq e▸k rfl
structure Sc(α:Type)where
 d:PV->Option α
 ve:α->Tok->Value
 rd:∀{h:Heap} {B:Addr->Prop} {p:PV} {v:Value} {a:α},Rep h B p v->d p=some a->∃t,v=ve a t
 pv:α->PV
 rp:∀{h:Heap} {B:Addr->Prop} {a:α} {t:Tok},Rep h B (pv a) (ve a t)
def cQ:Sc Int:=⟨PV.int?,.int,λr e=>by rw[PV.kY e]at r;exact r,.int,Rep.mkInt⟩
def kh:Sc UInt64:=⟨PV.B0,.float,λr e=>(PV.Kh e).elim (λq=>by rw[q]at r;exact r) (λq=>by rw[q]at r;exact r.imp λ_ q=>q.2),.ak,Rep.yr⟩
def rZ:Sc Str:=⟨PV.wY,.str,λr e=>by rw[PV.CQ e]at r;exact r,.str,Rep.mkStr⟩
structure B2(op:Operator)where
 f:PV->PV->Option PV
 ok:∀{Z:Fr} {s:Shared} {p q r:PV} {v w:Value},Bs Z s->Z.Rep s.heap p v->Z.Rep s.heap q w->f p q=some r->aY Z s r (binaryOp op v w)
noncomputable def B2.sc{op:Operator}{α β:Type}(A:Sc α)(B:Sc β)(c:α->β->Bool)(g:α->β->PV)
  (k:∀(Z:Fr) (s:Shared) (a:α) (b:β) (t u:Tok),Bs Z s->c a b=true->aY Z s (g a b) (binaryOp op (A.ve a t) (B.ve b u))):B2 op:=
 ⟨λp q=>(A.d p).bind λa=>(B.d q).bind λb=>bif c a b then some (g a b)else none,
 λ{Z s p q r v w} V rp rq e=>lV e λa ea e=>lV e λb eb e=>iI (M:=λr=>aY Z s r (binaryOp op v w)) e λhc=>(A.rd rp ea).elim λt e1=>(B.rd rq eb).elim λu e2=>e1▸e2▸k Z s a b t u V hc⟩
section
variable{Z:Fr}{s:Shared}{t u:Tok}
theorem Bs.int(V:Bs Z s){i:Int}{k tk:Nat}{Q:Value->Shared->Prop}(h:∀v s',aJ Z.X Z.X.V s s'->Z.Rep s'.heap (.int i) v->Q v s'):Q (.int i k) {s with toks:=tk}:=h _ _ V.toks Rep.mkInt
theorem Bs.ak(V:Bs Z s){i:UInt64}{k tk:Nat}{Q:Value->Shared->Prop}(h:∀v s',aJ Z.X Z.X.V s s'->Z.Rep s'.heap (.ak i) v->Q v s'):Q (.float i k) {s with toks:=tk}:=h _ _ V.toks Rep.yr
theorem Bs.str(V:Bs Z s){i:Str}{k tk:Nat}{Q:Value->Shared->Prop}(h:∀v s',aJ Z.X Z.X.V s s'->Z.Rep s'.heap (.str i) v->Q v s'):Q (.str i k) {s with toks:=tk}:=h _ _ V.toks Rep.mkStr
theorem yw{a:Nat}(h:a<9223372036854775808):a.log2<63:=by
 cases a with
 |zero=>decide
 |succ n=>exact(Nat.log2_lt (Nat.succ_ne_zero n)).mpr h
end
def tt{α β:Type}(_:α)(_:β):Bool:=true
def nz(b:Int):Bool:=!(b==0)
theorem Dk{b:Int}(h:nz b=true):b≠0:=by simpa [nz]using h
theorem IX{b:Int}(h:nz b=true):(b==0)=false:=by simpa [nz]using h
theorem both{a b:Bool}(h:(a&&b)=true):a=true/\b=true:=Bool.and_eq_true_iff.mp h
theorem not_eq{a:Bool}(h:(!a)=true):a=false:=by simpa using h
theorem if_false{a:Bool}{P R:Prop}(e:a=false)(h:R):if a=true then P else R:=by rw[e];exact h
def RT(b:Int)(n:Nat):Bool:=decide (0<=b)&&Nat.ble b.toNat n
theorem rj{b:Int}{n:Nat}(h:RT b n=true):0<=b/\b<=n:=⟨of_decide_eq_true (both h).1,Int.toNat_le.mp (Nat.ble_eq.mp (both h).2)⟩
theorem rS{a:Int}(h:sm a=true):a.natAbs<2^64:=Nat.lt_trans (pV h) (by decide)
def aX:B2 .Add:=.sc cQ cQ tt (λa b=>.int (a+b)) λZ s a b t u V _ Q E h=>add_int (V.int h)
def bN:B2 .Sub:=.sc cQ cQ tt (λa b=>.int (a-b)) λZ s a b t u V _ Q E h=>sub_int (V.int h)
def dD:B2 .Mult:=.sc cQ cQ (λa _=>sm a) (λa b=>.int (a*b)) λZ s a b t u V c Q E h=>mul_int (V.int h) (IntMulOk.of_left (PyProof.Rows.intBits_le (rS c)))
def j0:B2 .Mod:=.sc cQ cQ (λ_ b=>nz b) (λa b=>.int (Int.fmod a b)) λZ s a b t u V c Q E h=>mod_int' (Dk c) (V.int h)
def ju:B2 .FloorDiv:=.sc cQ cQ (λ_ b=>nz b&&sm b) (λa b=>.int (Int.fdiv a b)) λZ s a b t u V c Q E h=>
 floordiv_int (Dk (both c).1) (V.int h) (.inl (PyProof.noPylong_of_log2 (Nat.lt_trans (yw (pV (both c).2)) (by decide))))
def Oe:B2 .Pow:=.sc cQ cQ (λa b=>RT b 1000000&&sm a) (λa b=>.int (a^Int.toNat b)) λZ s a b t u V c Q E h=>
 pow_int_small (rj (both c).1).1 (rj (both c).1).2 (rS (both c).2) (V.int h)
def ym:B2 .LShift:=.sc cQ cQ (λa b=>RT b 1000000&&sm a) (λa b=>.int (a*2^Int.toNat b)) λZ s a b t u V c Q E h=>
 lshift_int_small (rj (both c).1).1 (rj (both c).1).2 (rS (both c).2) (V.int h)
def DH:B2 .RShift:=.sc cQ cQ (λ_ b=>decide (0<=b)) (λa b=>.int (Int.fdiv a (2^Int.toNat b))) λZ s a b t u V c Q E h=>rshift_int (of_decide_eq_true c) (V.int h)
def P1:B2 .BitXor:=.sc cQ cQ tt (λa b=>.int (Builtin.bitXor a b)) λZ s a b t u V _ Q E h=>xor_int (V.int h)
noncomputable def cZ(a b:Int):UInt64:=Float64.ofFrac (decide (a<0) !=decide (b<0)) a.natAbs b.natAbs
def pn:B2 .Div:=.sc cQ cQ (λa b=>nz b&&!Float64.isInf (cZ a b)) (λa b=>.ak (cZ a b)) λZ s a b t u V c Q E h=>
 AutoIntOpsIf.truediv (if_false (IX (both c).1) (if_false (not_eq (both c).2) (V.ak h)))
def je:B2 .Add:=.sc kh kh tt (λa b=>.ak (Float64.add a b)) λZ s a b t u V _ Q E h=>add_float (V.ak h)
def bQ:B2 .Sub:=.sc kh kh tt (λa b=>.ak (Float64.sub a b)) λZ s a b t u V _ Q E h=>sub_float (V.ak h)
def fQ:B2 .Mult:=.sc kh kh tt (λa b=>.ak (Float64.mul a b)) λZ s a b t u V _ Q E h=>mul_float (V.ak h)
def g6:B2 .Div:=.sc kh kh (λ_ b=>!Float64.isZero b) (λa b=>.ak (Float64.div a b)) λZ s a b t u V c Q E h=>AutoFloatOpsIf.truediv (if_false (not_eq c) (V.ak h))
def C6:B2 .Mod:=.sc kh kh (λ_ b=>!Float64.isZero b) (λa b=>.ak (Float64.divmod a b).snd) λZ s a b t u V c Q E h=>AutoFloatOpsIf.mod (if_false (not_eq c) (V.ak h))
def Kd(b:Int):Bool:=!Float64.isInf (Float64.ofInt b)
def HY:B2 .Add:=.sc kh cQ (λ_ b=>Kd b) (λa b=>.ak (Float64.add a (Float64.ofInt b))) λZ s a b t u V c Q E h=>AutoFloatOpsIf.add_fi (if_false (not_eq c) (V.ak h))
def Jc:B2 .Sub:=.sc kh cQ (λ_ b=>Kd b) (λa b=>.ak (Float64.sub a (Float64.ofInt b))) λZ s a b t u V c Q E h=>AutoFloatOpsIf.sub_fi (if_false (not_eq c) (V.ak h))
def fits(n:Nat):Bool:=Nat.ble n Jx
theorem aQ{n:Nat}(h:fits n=true):n<=1000000:=Nat.ble_eq.mp h
theorem bT{n:Nat}(h:n<=1000000):n<=sizeLine:=Nat.le_trans h (by decide)
def d7:B2 .Add:=.sc rZ rZ (λx y=>fits (x.length+y.length)) (λx y=>.str (x++y)) λZ s x y t u V c Q E h=>add_str (λ_ _=>V.str h) (bT (aQ c))
def zX(x:Str)(n:Nat):Str:=⟨(List.replicate n x.cps.toList).flatten.toArray⟩
theorem foldl_rep{α:Type}(c:List α):∀(k:Nat) (acc:List α),(List.replicate k c.toArray).foldl (λx y=>x++y) acc.toArray=(acc++(List.replicate k c).flatten).toArray
 |0,acc=>by rw[List.replicate_zero,List.replicate_zero,List.flatten_nil,List.append_nil];rfl
 |k+1,acc=>by rw[List.replicate_succ,List.foldl_cons,List.append_toArray,foldl_rep c k,List.replicate_succ,List.flatten_cons,List.append_assoc]
theorem KJ(x:Str)(n:Int):Txt.mul x n=zX x n.toNat:=by
 unfold Txt.mul zX
 split
 ·rename_i h
  rw[Int.toNat_of_nonpos (Int.lt_add_one_iff.mp h)];rfl
 ·split
  ·rename_i h1 h2
   obtain⟨⟨c⟩⟩:=x
   rcases Bool.or_eq_true_iff.mp h2 with q|q
   ·obtain rfl:n=1:=by simpa using q
    simp
   ·obtain rfl:c=[]:=List.eq_nil_of_length_eq_zero (by simpa [Str.length]using q)
    simp
  ·exact congrArg Str.mk (foldl_rep x.cps.toList n.toNat [])
def few(n:Int):Bool:=sm n&&fits n.toNat
theorem qV{n:Int}(h:few n=true):-2^63<=n/\n<=1000000:=by
 have a:=pV (both h).1
 exact⟨(N2 a).1,Int.toNat_le.mp (aQ (both h).2)⟩
theorem BV{n:Int}(h:few n=true):n<2^63:=Int.lt_of_le_of_lt (qV h).2 (by decide)
def iG:B2 .Mult:=.sc rZ cQ (λx n=>few n&&fits (x.length*n.toNat)) (λx n=>.str (zX x n.toNat)) λZ s x n t u V c Q E h=>
 PySem.SB.mul (PyProof.Rows.mulOk_of x.length n.toNat (Nat.le_refl _) (Int.self_le_toNat n) (qV (both c).1).1 (Nat.le_trans (aQ (both (both c).1).2) (by decide)) (Nat.le_trans (aQ (both c).2) (by decide))) (λ_ _=>KJ x n▸V.str h)
section
variable{Z:Fr}{s:Shared}{p q r:PV}{v w:Value}{xs ys:List PV}{a b:Addr}{vs ws:List Value}{n m:Nat}{c:Int}{u:Tok}
theorem Fr.Rep.lst(R:Z.Rep s.heap p v)(e:p.gw=some xs){M:Value->Prop}(k:∀a n vs,Z.B a->s.heap.get? a=some (aU vs n)->Z.af s.heap xs vs->M (.ref a)):M v:=Internal.Rep.lU (PV.v9 e▸R) k
theorem Fr.Rep.tup(R:Z.Rep s.heap p v)(e:p.o4=some xs){M:Value->Prop}(k:∀a n vs,Z.B a->s.heap.get? a=some (ic vs n)->Z.af s.heap xs vs->M (.ref a)):M v:=Internal.Rep.j5 (PV.is_tup e▸R) k
theorem Fr.af.len(r:Z.af s.heap xs vs):vs.length=xs.length:=Internal.af.length r
theorem Fr.af.size(r:Z.af s.heap xs vs):vs.toArray.size=xs.length:=r.len
theorem add_lists(V:Bs Z s)(ha:s.heap.get? a=some (aU vs n))(hb:s.heap.get? b=some (aU ws m))(ra:Z.af s.heap xs vs)(rb:Z.af s.heap ys ws)(c:fits (xs.length+ys.length)=true):
  aY Z s (.lst (xs++ys)) (binaryOp .Add (.ref a) (.ref b)):=λQ E h=>
 PySem.P.add_list (items:=vs.toArray) (items2:=ws.toArray) (n:=n) (n2:=m) ha hb ((List.append_toArray vs ws).symm▸V.lst (Internal.af.append rb ra) h) (ra.size▸rb.size▸bT (aQ c))
theorem Internal.af.rep{h:Heap}{B:Addr->Prop}(r:Internal.af h B xs vs):∀k:Nat,Internal.af h B (List.replicate k xs).flatten (List.replicate k vs).flatten
 |0=>af.nil
 |k+1=>by rw[List.replicate_succ,List.replicate_succ,List.flatten_cons,List.flatten_cons];exact af.append (Internal.af.rep r k) r
theorem uw(vs:List Value)(k:Nat):List.foldl (λx1 x2=>x1++x2) #[] (List.replicate (if vs.toArray.isEmpty=true then 0 else k) vs.toArray)=((List.replicate k vs).flatten).toArray:=by
 cases vs with
 |nil=>simp
 |cons v vs=>exact foldl_rep (v::vs) k []
theorem fitsIdx{c:Int}(a:-2^63<=c)(b:c<2^63):¬(!Builtin.List.listFitsIndex c)=true:=by unfold Builtin.List.listFitsIndex;simp;lia
theorem uc{n:Nat}(h:n<=1000000):¬Builtin.List.listTooLong n=true:=by
 unfold Builtin.List.listTooLong
 rw[decide_eq_true_eq]
 exact Nat.not_lt.mpr (bT h)
theorem mul_list(V:Bs Z s)(ha:s.heap.get? a=some (aU vs n))(ra:Z.af s.heap xs vs)(h1:few c=true)(h2:fits (xs.length*c.toNat)=true):
  aY Z s (.lst (List.replicate c.toNat xs).flatten) (binaryOp .Mult (.ref a) (.int c u)):=λQ E h=>
 wpAny_binaryOp_repeat_ref (T:="list") (U:="int") (by decide) ⟨_,ha,rfl⟩ (λs'=>typeIs_int s' c u) noFill_list_mul F.fills_int_mul F.slot_int_rmul repeat_list F.slot_int_index.lookup
  (call_meets F.slot_int_rmul (typeIs_int s c u) F.entry_int_rmul (F.args_int_rmul_2 _ _) (int___rmul___int_list c u a vs.toArray n)
   ⟨ha,rfl,⟨_,ha,rfl⟩,call_meets F.slot_list_mul ⟨_,ha,rfl⟩ F.entry_list_mul (F.args_list_mul_2 _ _)
    (AutoListH.list___mul___list_int_3 a vs.toArray n c u (fitsIdx (qV h1).1 (BV h1)) (by rw[ra.size];exact Nat.not_lt.mpr (Nat.le_trans (aQ h2) (by decide)))
     (by rw[ra.size];exact uc (aQ h2)))
    ⟨ha,uw vs c.toNat▸V.lst (Internal.af.rep ra c.toNat) h⟩⟩)
end
def MA:B2 .Add:=⟨λp q=>p.gw.bind λa=>q.gw.bind λb=>bif fits (a.length+b.length)then some (.lst (a++b))else none,
 λ{Z s p q r v w} V rp rq e=>lV e λa ea e=>lV e λb eb e=>iI (M:=λr=>aY Z s r (binaryOp .Add v w)) e λhc=>
  rp.lst ea (M:=λv=>aY Z s _ (binaryOp .Add v w)) λ_ _ _ _ h1 r1=>rq.lst eb (M:=λw=>aY Z s _ (binaryOp .Add _ w)) λ_ _ _ _ h2 r2=>add_lists V h1 h2 r1 r2 hc⟩
def C8:B2 .Mult:=⟨λp q=>p.gw.bind λa=>q.int?.bind λb=>bif few b&&fits (a.length*b.toNat)then some (.lst (List.replicate b.toNat a).flatten)else none,
 λ{Z s p q r v w} V rp rq e=>lV e λa ea e=>lV e λb eb e=>iI (M:=λr=>aY Z s r (binaryOp .Mult v w)) e λhc=>
  rp.lst ea (M:=λv=>aY Z s _ (binaryOp .Mult v w)) λ_ _ _ _ h1 r1=>(cQ.rd rq eb).elim λu e2=>e2▸mul_list V h1 r1 (both hc).1 (both hc).2⟩
section
open PySem.SeqAt
theorem lst_is{h:Heap}{a:Addr}{vs:List Value}{n:Nat}(e:h.get? a=some (aU vs n)):h.IsList a vs.toArray:=⟨_,e,rfl,n,rfl⟩
theorem tup_is{h:Heap}{a:Addr}{vs:List Value}{n:Nat}(e:h.get? a=some (ic vs n)):h.IsTuple a vs.toArray:=⟨_,e,rfl,n,rfl⟩
theorem Gv{o:Option Obj}{vs ws:List Value}{n m:Nat}(e:o=some (aU vs n))(e':o=some (aU ws m)):vs=ws:=by
 rw[e]at e'
 injection e' with e';injection e' with _ _ e' _;injection e' with e' _;injection e' with e'
theorem HA{o:Option Obj}{vs ws:List Value}{n m:Nat}(e:o=some (ic vs n))(e':o=some (ic ws m)):vs=ws:=by
 rw[e]at e'
 injection e' with e';injection e' with _ _ e' _;injection e' with e' _;injection e' with e'
noncomputable def ES(f:PV->PV->Option Bool):List PV->List PV->Option Bool
 | [],ys=>some ys.isEmpty
 |x::xs,ys=>List.casesOn ys (some false) λy ys=>(f x y).bind λa=>(ES f xs ys).map (a&&·)
def JP(f:PV->PV->Option Bool)(p q:PV):Option Bool:=PV.casesOn (motive_1:=λ_=>Option Bool) p none (λb=>q.bool?.map (b==·)) (λi=>q.int?.map (i==·)) (λx=>q.int?.map (Float64.cmpInt x ·==some .eq))
 (λx=>q.wY.map (x==·)) (λxs=>q.o4.bind (ES f xs)) (λxs=>q.gw.bind (ES f xs)) (λ_ _=>none) (λx=>q.JV.bind λy=>bif Float64.cmp x y==some .eq then some true else none)
def oM(n:Nat):PV->PV->Option Bool:=Nat.rec (λ_ _=>none) (λ_ f=>JP f) n
theorem aE{α β:Type}{o:Option α}{f:α->β}{r:β}{P:Prop}(e:o.map f=some r)(k:∀a,o=some a->f a=r->P):P:=(Option.map_eq_some_iff.mp e).elim λa h=>k a h.1 h.2
theorem aa{α β:Type}{o:Option α}{f:α->Option β}{r:β}{P:Prop}(e:o.bind f=some r)(k:∀a,o=some a->f a=some r->P):P:=(Option.bind_eq_some_iff.mp e).elim λa h=>k a h.1 h.2
theorem all_succ(n:Nat)(e:Nat->Bool):(List.range (n+1)).all e=(e 0&&(List.range n).all λj=>e (j+1)):=by rw[List.range_succ_eq_map,List.all_cons,List.all_map];rfl
theorem Ei(m n:Nat):(m+1==n+1)=(m==n):=by simp
theorem BP{f:PV->PV->Option Bool}{P:Prop}:∀{xs ys:List PV} {k:Bool},ES f xs ys=some k->
  (∀e:Nat->Bool,(∀(j:Nat) (p q:PV),xs[j]?=some p->ys[j]?=some q->f p q=some (e j))->k=((List.range (min xs.length ys.length)).all e&&xs.length==ys.length)->P)->P:=by
 intro w
 induction w with
 |nil=>intro ys _ h c;exact c (λ_=>true) (λ_ _ _ e=>no e) (by rw[<-aq h];cases ys<;>simp)
 |cons x xs ih=>
  intro v
  cases v with
  |nil=>intro _ h c;exact c (λ_=>true) (λ_ _ _ _ e=>no e) (aq h).symm
  |cons y ys=>
   intro _ h c
   exact aa h λa h1 h=>aE h λb h2 h=>ih h2 λe he hk=>c (λj=>Nat.casesOn j a e)
    (λj=>Nat.casesOn j (λp q e1 e2=>aq e1▸aq e2▸h1) λj=>he j)
    (by rw[List.length_cons,List.length_cons,Nat.succ_min_succ,all_succ,<-h,hk,Bool.and_assoc,Ei];rfl)
structure An(Ar:Around)(s:Shared)(v w:Value)(k:Bool):Prop where
 rc:RcAt Ar s v w k
 eq:EqAt Ar s v w k
 ne:RcNeAt Ar s v w (!k)
 self:v=w->k=true
section
variable{Ar:Around}{s:Shared}{B:Addr->Prop}{f:PV->PV->Option Bool}{a b:Addr}{vs ws:List Value}{n m:Nat}{xs ys:List PV}{k:Bool}
theorem sS(ra:Internal.af s.heap B xs vs)(rb:Internal.af s.heap B ys ws)(hf:∀p q k v w,Internal.Rep s.heap B p v->Internal.Rep s.heap B q w->f p q=some k->An Ar.in1 s v w k){e:Nat->Bool}
  (he:∀(j:Nat) (p q:PV),xs[j]?=some p->ys[j]?=some q->f p q=some (e j)) (j:Nat) (h1:j<vs.toArray.size) (h2:j<ws.toArray.size):EqAt Ar.in1 s vs.toArray[j] ws.toArray[j] (e j):=
 (ra.get' (List.getElem?_eq_getElem (show j<vs.length from h1))).elim λp r=>(rb.get' (List.getElem?_eq_getElem (show j<ws.length from h2))).elim λq r'=>(hf p q _ _ _ r.2 r'.2 (he j p q r.1 r'.1)).eq
theorem sQ(hf:∀p q k v,Internal.Rep s.heap B p v->Internal.Rep s.heap B q v->f p q=some k->k=true):∀{xs ys vs k},Internal.af s.heap B xs vs->Internal.af s.heap B ys vs->ES f xs ys=some k->k=true:=by
 intro w
 induction w with
 |nil=>intro ys vs _ r r' e;rw[<-aq e,List.isEmpty_iff_length_eq_zero,<-af.length r',af.length r];rfl
 |cons x xs ih=>
  intro v
  cases v with
  |nil=>intro vs _ r r' e;exact absurd ((af.length r).symm.trans (af.length r')) nofun
  |cons y ys=>
   intro vs _ r r' e
   exact aa e λa h1 e=>aE e λb h2 e=>by
    obtain⟨v,vs,rfl,r1,r2⟩:=r
    obtain⟨v',vs',e',r3,r4⟩:=r'
    injection e' with e1 e2
    subst e1 e2
    rw[<-e,hf _ _ _ _ r1 r3 h1,ih r2 r4 h2];rfl
theorem uv(rc:RcAt Ar s (.ref a) (.ref b) k)(ne:RcNeAt Ar s (.ref a) (.ref b) (!k))(h:a=b->k=true):An Ar s (.ref a) (.ref b) k:=
 ⟨rc,(Decidable.em (a=b)).elim (λq=>by subst q;rw[h rfl];exact EqAt.same _) λq=>EqAt.of_refs q rc,ne,λq=>h (Value.ref.inj q)⟩
theorem FO(ha:s.heap.get? a=some (ic vs n))(hb:s.heap.get? b=some (ic ws m))(ra:Internal.af s.heap B xs vs)(rb:Internal.af s.heap B ys ws)(hu:Ar.units<cLine)
  (hf:∀p q k v w,Internal.Rep s.heap B p v->Internal.Rep s.heap B q w->f p q=some k->An Ar.in1 s v w k) (e:ES f xs ys=some k):An Ar s (.ref a) (.ref b) k:=
 BP e λg he hk=>by
  have q:=sS ra rb hf he
  have h1:=RcAt.tuples (tup_is ha) (tup_is hb) hu q
  have h2:=RcNeAt.tuples (tup_is ha) (tup_is hb) hu q
  rw[show vs.toArray.size=xs.length from ra.length,show ws.toArray.size=ys.length from rb.length,<-hk]at h1 h2
  exact uv h1 h2 λq=>by subst q;obtain rfl:=HA ha hb;exact sQ (λp q k v r r' e=>(hf p q k v v r r' e).self rfl) ra rb e
theorem FN(ha:s.heap.get? a=some (aU vs n))(hb:s.heap.get? b=some (aU ws m))(ra:Internal.af s.heap B xs vs)(rb:Internal.af s.heap B ys ws)(hu:Ar.units<cLine)
  (hf:∀p q k v w,Internal.Rep s.heap B p v->Internal.Rep s.heap B q w->f p q=some k->An Ar.in1 s v w k) (e:ES f xs ys=some k):An Ar s (.ref a) (.ref b) k:=
 BP e λg he hk=>by
  have q:=sS ra rb hf he
  have fin:RcAt Ar s (.ref a) (.ref b) k/\RcNeAt Ar s (.ref a) (.ref b) (!k):=by
   cases z:vs.toArray.size !=ws.toArray.size
   ·have z:=not_eq (a:=vs.toArray.size !=ws.toArray.size) (by rw[z];rfl)
    have z:vs.toArray.size=ws.toArray.size:=by simpa using z
    have h1:=RcAt.lists (lst_is ha) (lst_is hb) z hu q
    have h2:=RcNeAt.lists (lst_is ha) (lst_is hb) z hu q
    have z':xs.length=ys.length:=(show vs.toArray.size=xs.length from ra.length)▸(show ws.toArray.size=ys.length from rb.length)▸z
    rw[z',Nat.min_self,beq_self_eq_true,Bool.and_true]at hk
    rw[show vs.toArray.size=ys.length from ra.length.trans z',<-hk]at h1 h2
    exact⟨h1,h2⟩
   ·have z':(xs.length==ys.length)=false:=by rw[<-show vs.toArray.size=xs.length from ra.length,<-show ws.toArray.size=ys.length from rb.length];simpa using z
    rw[z',Bool.and_false]at hk
    subst hk
    exact⟨RcAt.lists_lengths (lst_is ha) (lst_is hb) z hu,RcNeAt.lists_lengths (lst_is ha) (lst_is hb) z hu⟩
  exact uv fin.1 fin.2 λq=>by subst q;obtain rfl:=Gv ha hb;exact sQ (λp q k v r r' e=>(hf p q k v v r r' e).self rfl) ra rb e
theorem I6{Ar:Around}(x:UInt64)(t:Tok)(i:Int)(u:Tok):RcAt Ar s (.float x t) (.int i u) (Float64.cmpInt x i==some .eq):=λ_ _ _ _ h=>PyProof.Rows.eq_fi h
theorem GX{Ar:Around}(x:UInt64)(t:Tok)(i:Int)(u:Tok):RcNeAt Ar s (.float x t) (.int i u) (!(Float64.cmpInt x i==some .eq)):=λ_ _ _ _ h=>PyProof.Rows.ne_fi h
theorem JQ{Ar:Around}(x:UInt64)(t:Tok)(i:Int)(u:Tok):EqAt Ar s (.float x t) (.int i u) (Float64.cmpInt x i==some .eq):=λprog w E Q h=>by
 unfold eqBool
 refine wpAny_holding ?_
 refine wpAny_ite_split (λhab=>nomatch (eq_of_beq hab)) (λ_=>?_)
 exact wpAny_bind (I6 x t i u prog w E _ (wpAny_truthy_bool h))
theorem Nd{Ar:Around}{x y:UInt64}{t u:Tok}(hb:NoneBooked s.heap)(nt:t≠0)(nu:u≠0)(hc:(Float64.cmp x y==some .eq)=true):EqAt Ar s (.float x t) (.float y u) true:=λprog w E Q h=>by
 have fin:wpAny (model prog w) Ar (do truthOfDropped (<-richCompare .Eq (.float x t) (.float y u))) Q E s:=wpAny_bind (AutoFloatOps.eq_0 (hc.symm▸wpAny_truthy_bool h))
 unfold eqBool
 refine wpAny_holding ?_
 refine wpAny_ite_split (λ_=>wpAny_bind (wpAny_rule (wpAny_pure h))) (λ_=>?_)
 have key:∀{k:Bool->Sem Bool},(∀b,wpAny (model prog w) Ar (k b) Q E s)->wpAny (model prog w) Ar (isSame (.float x t) (.float y u)>>=k) Q E s:=λhk=>by
  refine wpAny_bind ?_
  show wpAny _ _ (isSame.created (x==y&&!Float64.isNaN x) t u) _ _ _
  unfold isSame.created
  refine wpAny_ite ?_
  rw[if_neg (show¬((t==0||u==0)=true) by simp[nt,nu])]
  refine wpAny_ite ?_
  split
  ·exact wpAny_pure (hk _)
  refine wpAny_ite ?_
  split
  ·exact wpAny_pure (hk _)
  refine wpAny_bind (wpAny_sharingNotTold_none hb ?_)
  first|rw[if_neg Bool.false_ne_true] |simp only[Bool.false_eq_true,if_false]
  refine wpAny_bind (wpAny_sharingNotTold_none hb ?_)
  first|rw[if_neg Bool.false_ne_true] |simp only[Bool.false_eq_true,if_false]
  exact wpAny_bind (wpAny_rule (wpAny_bind (wpAny_askSetting (wpAny_pure (hk _)))))
 refine key λb=>?_
 cases b with
 |true=>exact wpAny_pure h
 |false=>exact fin
theorem BQ(hb:NoneBooked s.heap):∀(n:Nat) {Ar:Around} {p q:PV} {k:Bool} {v w:Value},Ar.units+n<cLine->Internal.Rep s.heap B p v->Internal.Rep s.heap B q w->oM n p q=some k->An Ar s v w k:=by
 intro w
 induction w with
 |zero=>intro _ _ _ _ _ _ _ _ _ e;exact no e
 |succ n ih=>
  intro Ar p q k v w hu rp rq e
  have u0:Ar.units<cLine:=Nat.lt_of_le_of_lt (Nat.le_add_right _ _) hu
  have ih:∀p q k v w,Internal.Rep s.heap B p v->Internal.Rep s.heap B q w->oM n p q=some k->An Ar.in1 s v w k:=λp q k v w=>ih (show Ar.units+1+n<cLine by rw[Nat.add_assoc,Nat.add_comm 1];exact hu)
  cases p with
  |none=>exact no e
  |ak x=>
   refine aE e λb h1 h=>?_
   rw[PV.kY h1]at rq
   obtain⟨t,rfl⟩:=rp
   obtain⟨u,rfl⟩:=rq
   subst h
   exact⟨I6 x t b u,JQ x t b u,GX x t b u,λq=>by cases q⟩
  |aH x=>
   refine aa e λy h1 h=>?_
   rw[PV.CO h1]at rq
   obtain⟨t,nt,rfl⟩:=rp
   obtain⟨u,nu,rfl⟩:=rq
   cases hc:Float64.cmp x y==some .eq with
   |false=>rw[hc]at h;exact no h
   |true=>
    rw[hc]at h
    obtain rfl:=aq h
    have hne:(Float64.cmp x y !=some .eq)=false:=by rw[bne,hc];rfl
    exact⟨λprog w E Q h=>AutoFloatOps.eq_0 (hc.symm▸h),Nd hb nt nu hc,λprog w E Q h=>AutoFloatOps.ne_0 (hne.symm▸h),λ_=>rfl⟩
  |obj C fs=>exact no e
  |bool a=>
   refine aE e λb h1 h=>?_
   rw[PV.is_bool h1]at rq
   obtain rfl:v=_:=rp
   obtain rfl:w=_:=rq
   subst h
   exact⟨RcAt.bool_bool _ _,EqAt.bool_bool _ _,RcNeAt.bool_bool _ _,λq=>by cases q;exact beq_self_eq_true _⟩
  |int a=>
   refine aE e λb h1 h=>?_
   rw[PV.kY h1]at rq
   obtain⟨t,rfl⟩:=rp
   obtain⟨u,rfl⟩:=rq
   subst h
   exact⟨RcAt.int_int _ _ _ _,EqAt.int_int _ _ _ _,RcNeAt.int_int _ _ _ _,λq=>by cases q;exact beq_self_eq_true _⟩
  |str a=>
   refine aE e λb h1 h=>?_
   rw[PV.CQ h1]at rq
   obtain⟨t,rfl⟩:=rp
   obtain⟨u,rfl⟩:=rq
   subst h
   exact⟨RcAt.str_str _ _ _ _,EqAt.str_str _ _ _ _,RcNeAt.str_str _ _ _ _,λq=>by cases q;exact beq_self_eq_true _⟩
  |tup xs=>
   refine aa e λys h1 h=>?_
   rw[PV.is_tup h1]at rq
   exact rp.j5 (M:=λv=>An Ar s v w k) λa n vs _ ha ra=>rq.j5 (M:=λw=>An Ar s _ w k) λb m ws _ hb rb=>FO ha hb ra rb u0 ih h
  |lst xs=>
   refine aa e λys h1 h=>?_
   rw[PV.v9 h1]at rq
   exact rp.lU (M:=λv=>An Ar s v w k) λa n vs _ ha ra=>rq.lU (M:=λw=>An Ar s _ w k) λb m ws _ hb rb=>FN ha hb ra rb u0 ih h
end
end
section
open PySem.SeqAt
structure C2(op:CmpOp)where
 f:PV->PV->Option Bool
 ok:∀{Z:Fr} {s:Shared} {p q:PV} {k:Bool} {v w:Value} {Q:Value->Shared->Prop} {E:Value->Shared->Prop},Bs Z s->Z.Rep s.heap p v->Z.Rep s.heap q w->f p q=some k->Q (.bool k) s->wpAny Z.X.M Z.Ar (compareOp op v w) Q E s
noncomputable def C2.sc{op:CmpOp}{α β:Type}(A:Sc α)(B:Sc β)(g:α->β->Bool)
  (k:∀(M:Program) (w:World) (Ar:Around) (s:Shared) (a:α) (b:β) (t u:Tok) (Q:Value->Shared->Prop) (E:Value->Shared->Prop),Q (.bool (g a b)) s->wpAny (model M w) Ar (compareOp op (A.ve a t) (B.ve b u)) Q E s):C2 op:=
 ⟨λp q=>(A.d p).bind λa=>(B.d q).map λb=>g a b,
 λ{Z s p q r v w Q E} V rp rq e h=>aa e λa ea e=>aE e λb eb e=>(A.rd rp ea).elim λt e1=>(B.rd rq eb).elim λu e2=>by subst e1 e2 e;exact k _ _ _ _ _ _ _ _ _ _ h⟩
section
variable{M:Program}{W:World}{Ar:Around}{s:Shared}
def zN:C2 .Lt:=.sc cQ cQ (λa b=>decide (a<b)) λ_ _ _ _ _ _ _ _ _ _ h=>PySem.P.lt_int h
def NT:C2 .LtE:=.sc cQ cQ (λa b=>decide (a<=b)) λ_ _ _ _ _ _ _ _ _ _ h=>PySem.P.le_int h
def Ga:C2 .Gt:=.sc cQ cQ (λa b=>decide (a>b)) λ_ _ _ _ _ _ _ _ _ _ h=>PySem.P.gt_int h
def JZ:C2 .GtE:=.sc cQ cQ (λa b=>decide (a>=b)) λ_ _ _ _ _ _ _ _ _ _ h=>PySem.P.ge_int h
def wj:C2 .Lt:=.sc kh kh (λa b=>Float64.cmp a b==some .lt) λ_ _ _ _ _ _ _ _ _ _ h=>AutoFloatOps.lt_0 h
def Ks:C2 .LtE:=.sc kh kh (λa b=>Float64.cmp a b==some .lt||Float64.cmp a b==some .eq) λ_ _ _ _ _ _ _ _ _ _ h=>AutoFloatOps.le_0 h
def vK:C2 .Eq:=.sc kh kh (λa b=>Float64.cmp a b==some .eq) λ_ _ _ _ _ _ _ _ _ _ h=>AutoFloatOps.eq_0 h
def GK:C2 .NotIn:=.sc rZ rZ (λy x=>!Txt.contains x y) λ_ _ _ _ _ _ _ _ _ _ h=>PySem.SB.notContains h
end
theorem Et{Z:Fr}{s:Shared}(V:Bs Z s):Z.Ar.units+6<cLine:=Nat.lt_of_le_of_lt (Nat.add_le_add_left (by decide) _) V.R.units
def mh:C2 .Eq:=⟨oM 6,λV rp rq e h=>(BQ (V.K.nb _ V.g) 6 (Et V) rp rq e).rc _ _ _ _ h⟩
def ry:C2 .NotEq:=⟨λp q=>(oM 6 p q).map not,λV rp rq e h=>aE e λ_ e2 e1=>by subst e1;exact(BQ (V.K.nb _ V.g) 6 (Et V) rp rq e2).ne _ _ _ _ h⟩
section
variable{Z:Fr}{s:Shared}{p q r:PV}{v w:Value}{xs ys:List PV}{vs ws:List Value}
theorem om(rp:Z.Rep s.heap p v):plainIs v .none=true/\(v==.none)=p.isNone:=by
 cases p with
 |none=>obtain rfl:v=_:=rp;exact⟨rfl,rfl⟩
 |bool b=>obtain rfl:v=_:=rp;exact⟨rfl,rfl⟩
 |int i=>obtain⟨t,rfl⟩:=rp;exact⟨rfl,rfl⟩
 |ak i=>obtain⟨t,rfl⟩:=rp;exact⟨rfl,rfl⟩
 |str i=>obtain⟨t,rfl⟩:=rp;exact⟨rfl,rfl⟩
 |tup xs=>exact Internal.Rep.j5 rp (M:=λv=>plainIs v .none=true/\(v==.none)=false) λ_ _ _ _ _ _=>⟨rfl,rfl⟩
 |lst xs=>exact Internal.Rep.lU rp (M:=λv=>plainIs v .none=true/\(v==.none)=false) λ_ _ _ _ _ _=>⟨rfl,rfl⟩
 |obj C fs=>obtain⟨_,⟨_,_,_,_,rfl,_⟩,_⟩:=rp;exact⟨rfl,rfl⟩
 |aH i=>obtain⟨t,_,rfl⟩:=rp;exact⟨rfl,rfl⟩
def TU:C2 .Is:=⟨λp q=>bif q.isNone then some p.isNone else none,λ{Z s p q k v w Q E} V rp rq e h=>by
 cases n:q.isNone with
 |false=>rw[n]at e;exact no e
 |true=>
  rw[n]at e
  rw[PV.is_none n]at rq
  obtain rfl:w=_:=rq
  refine wpAny_is_plain (om rp).1 ?_
  rw[(om rp).2,aq e];exact h⟩
def truth(p:PV):Option Bool:=PV.casesOn (motive_1:=λ_=>Option Bool) p (some false) some (λi=>some (i !=0)) (λ_=>none) (λ_=>none) (λxs=>bif fits xs.length then some (!xs.isEmpty)else none) (λxs=>bif fits xs.length then some (!xs.isEmpty)else none) (λ_ _=>none) λ_=>none
theorem IZ{c:Bool}{g r:Bool}{M:Bool->Prop}(e:(bif c then some g else none)=some r)(k:c=true->M g):M r:=by
 cases c with
 |false=>exact no e
 |true=>exact aq e▸k rfl
theorem empty_eq(r:Z.af s.heap xs vs):(!vs.toArray.isEmpty)=!xs.isEmpty:=by
 cases xs with
 |nil=>obtain rfl:vs=[]:=r;rfl
 |cons x xs=>obtain⟨v,vs,rfl,_⟩:=r;rfl
theorem DW(r:Z.af s.heap xs vs)(h:fits xs.length=true):(vs.toArray.size:Int)<2^63:=by
 rw[r.size]
 exact Int.lt_of_le_of_lt (Int.ofNat_le.mpr (aQ h)) (by decide)
theorem En(V:Bs Z s)(rp:Z.Rep s.heap p v){k:Bool}(e:truth p=some k):r8 Z s k (truthy v):=λQ E h=>by
 cases p with
 |none=>obtain rfl:v=_:=rp;exact PyProof.Rows.truthy_none (aq e▸h s .refl)
 |bool b=>obtain rfl:v=_:=rp;exact wpAny_truthy_bool (aq e▸h s .refl)
 |int i=>obtain⟨t,rfl⟩:=rp;exact PySem.P.truthy_int (aq e▸h s .refl)
 |ak i=>exact no e
 |str i=>exact no e
 |obj C fs=>exact no e
 |aH i=>exact no e
 |tup xs=>
  revert h
  exact IZ e (M:=λk=>(∀s',aJ Z.X Z.X.V s s'->Q k s')->_) λc h=>Internal.Rep.j5 rp (M:=λv=>wpAny Z.X.M Z.Ar (truthy v) Q E s) λa n vs _ ha ra=>truthy_tuple ⟨_,ha,rfl,n,rfl⟩ (DW ra c) (empty_eq ra▸h _ V.toks)
 |lst xs=>
  revert h
  exact IZ e (M:=λk=>(∀s',aJ Z.X Z.X.V s s'->Q k s')->_) λc h=>Internal.Rep.lU rp (M:=λv=>wpAny Z.X.M Z.Ar (truthy v) Q E s) λa n vs _ ha ra=>wpAny_truthy_list (lst_is ha) (DW ra c) (empty_eq ra▸h _ V.toks)
end
end
section
open PySem.SeqAt
structure U1(op:UnaryOp)where
 f:PV->Option PV
 ok:∀{Z:Fr} {s:Shared} {p r:PV} {v:Value},Bs Z s->Z.Rep s.heap p v->f p=some r->aY Z s r (unaryOp op v)
def gB:U1 .USub:=⟨λp=>p.int?.map λa=>.int (-a),λ{Z s p r v} V rp e=>aE e λa e1 e2=>(cQ.rd rp e1).elim λt h=>by subst h e2;exactλQ E h=>PySem.P.neg_int (V.int h)⟩
theorem bitNot_eq(x:Int):-x-1=Builtin.bitNot x:=by unfold Builtin.bitNot;lia
def Kf:U1 .Invert:=⟨λp=>p.int?.map λa=>.int (-a-1),λ{Z s p r v} V rp e=>aE e λa e1 e2=>(cQ.rd rp e1).elim λt h=>by subst h e2;exactλQ E h=>invert_int (bitNot_eq a▸V.int (bitNot_eq a▸h))⟩
theorem Ho{prog:Program}{w:World}{A:Around}{s:Shared}{o i:Value}{slice:Expr}{Q:Value->Shared->Prop}{E:Value->Shared->Prop}(h:wpAny (model prog w) A (getItem o i) Q E s):wpAny (model prog w) A (subscripted slice false o i) Q E s:=by
 cases slice with
 |Slice lo hi st p=>cases st<;>exact wpAny_operating h
 |_=>exact wpAny_operating h
theorem kE{prog:Program}{w:World}{A:Around}{s:Shared}{env:Env}{value slice:Expr}{pos:Pos}{Q:Value->Shared->Prop}{E:Value->Shared->Prop}
  (h:wpAny (model prog w) A (eval value env) (λo s₁=>wpAny (model prog w) A (eval slice env) (λi s₂=>SubscriptOn (model prog w) A o i Q E s₂) E s₁) E s):
  wpAny (model prog w) A (eval (.Subscript value slice pos) env) Q E s:=by
 rw[eval_Subscript]
 refine wpAny_bind (wpAny_mono h (λo s₁ h₁=>wpAny_bind (wpAny_holding (wpAny_mono h₁ (λi s₂ h₂=>wpAny_bind (wpAny_standAt ?_)) λ_ _ x=>x))) λ_ _ x=>x)
 obtain⟨T,id,hl,hT,hg⟩:=h₂
 refine wpAny_bind ?_
 rw[getitemInPython_of_ne hT.not_modules]
 refine wpAny_bind (wpAny_specialOf hT hl ?_)
 exact wpAny_pure (wpAny_bind (Ho (wpAny_mono hg (λr s₃ h₃=>wpAny_bind (wpAny_letTemporaryGo (wpAny_pure h₃))) λ_ _ x=>x)))
theorem ag{vs:List Value}{j:Nat}{v:Value}(e:vs[j]?=some v):vs.toArray[j]?=some v:=by simpa using e
theorem KO{i:Int}{n:Nat}(h:0<=i+n):-(n:Int)<=i:=by lia
def at?(n:Nat)(i:Int):Option Nat:=bif sm i then(bif decide (0<=i)then some i.toNat else bif decide (0<=i+n)then some (i+n).toNat else none)else none
theorem AJ{n j:Nat}{i:Int}{P:Prop}(e:at? n i=some j)(l:-2^63<=i/\i<2^63->0<=i->j=i.toNat->P)(r:-2^63<=i/\i<2^63->i<0->0<=i+n->j=(i+n).toNat->P):P:=by
 unfold at? at e
 cases hs:sm i with
 |false=>rw[hs]at e;exact no e
 |true=>
  rw[hs]at e
  have b:=N2 (pV hs)
  by_cases h0:0<=i
  ·rw[eT h0]at e;exact l b h0 (aq e).symm
  ·rw[eE h0]at e
   by_cases h1:0<=i+n
   ·rw[eT h1]at e;exact r b (Int.not_le.mp h0) h1 (aq e).symm
   ·rw[eE h1]at e;exact no e
section
variable{Z:Fr}{s:Shared}{p q r:PV}{v w:Value}{xs ys:List PV}{vs ws:List Value}{a:Addr}{n j:Nat}{i:Int}{t:Tok}
theorem CR(ha:s.heap.get? a=some (aU vs n))(ra:Z.af s.heap xs vs)(e:at? xs.length i=some j)(e2:xs[j]?=some r):aY Z s r (getItem (.ref a) (.int i t)):=λQ E h=>
 (Internal.af.get ra e2).elim λv g=>AJ e
  (λb h0 ej=>wpAny_getItem_list (lst_is ha) h0 b.2 (x:=v) (ej▸ag g.1) (h _ _ .refl g.2))
  (λb h0 h1 ej=>wpAny_getItem_list_neg (lst_is ha) h0 (ra.size▸KO h1) b.1 (x:=v) (ra.size▸ej▸ag g.1) (h _ _ .refl g.2))
theorem item_tup(ha:s.heap.get? a=some (ic vs n))(ra:Z.af s.heap xs vs)(e:at? xs.length i=some j)(e2:xs[j]?=some r):aY Z s r (getItem (.ref a) (.int i t)):=λQ E h=>
 (Internal.af.get ra e2).elim λv g=>by
  have hl:j<vs.length:=(jb g.1).1
  have key:seqIndex? i vs.toArray.size=some j:=AJ e
   (λb h0 ej=>by unfold seqIndex?;rw[if_neg (Int.not_lt.mpr h0),if_pos (by subst ej;simp;lia),ej])
   (λb h0 h1 ej=>by rw[<-ra.len]at ej h1;unfold seqIndex?;rw[if_pos h0];subst ej;rw[if_pos (by simp;lia)];rfl)
  exact AJ e (λb h0 ej=>PyProof.Rows.getItem_tuple (t:=a) (items:=vs.toArray) (j:=j) (x:=v) ⟨_,ha,rfl,n,rfl⟩ b.1 b.2 key (ag g.1) (h _ _ .refl g.2))
   (λb h0 h1 ej=>PyProof.Rows.getItem_tuple (t:=a) (items:=vs.toArray) (j:=j) (x:=v) ⟨_,ha,rfl,n,rfl⟩ b.1 b.2 key (ag g.1) (h _ _ .refl g.2))
theorem yQ(ha:s.heap.get? a=some (aU vs n)){Q:Value->Shared->Prop}{E:Value->Shared->Prop}(h:wpAny Z.X.M Z.Ar (getItem (.ref a) w) Q E s):SubscriptOn Z.X.M Z.Ar (.ref a) w Q E s:=⟨"list",_,slot_list_getitem.lookup,⟨_,ha,rfl⟩,h⟩
theorem Hq(ha:s.heap.get? a=some (ic vs n)){Q:Value->Shared->Prop}{E:Value->Shared->Prop}(h:wpAny Z.X.M Z.Ar (getItem (.ref a) w) Q E s):SubscriptOn Z.X.M Z.Ar (.ref a) w Q E s:=⟨"tuple",_,F.slot_tuple_getitem.lookup,⟨_,ha,rfl⟩,h⟩
def ff(o:Option Int)(v:Value):Prop:=Option.casesOn (motive:=λ_=>Prop) o (v=.none) λi=>∃t,v=.int i t
theorem ff.part:∀{o:Option Int},ff o v->IsPart v o
 |none,e=>by obtain rfl:v=_:=e;exact .none
 |some _,⟨t,e⟩=>by subst e;exact .int _ _
theorem ff.bare:∀{o:Option Int},ff o v->∃l:Option (Int×Tok),v=partValue l/\l.map (·.1)=o
 |none,e=>⟨none,e,rfl⟩
 |some i,⟨t,e⟩=>⟨some (i,t),e,rfl⟩
noncomputable def cut{α:Type}(xs:List α)(n:Nat)(lo hi:Option Int):List α:=(xs.drop (lo.elim 0 (clipAt n))).take (hi.elim n (clipAt n)-lo.elim 0 (clipAt n))
def sM(x:Str)(lo hi:Option Int):Str:=⟨(cut x.cps.toList x.length lo hi).toArray⟩
variable{lo hi:Option Int}{sl:Addr}{vl vu:Value}
theorem Hg(V:Bs Z s)(ha:s.heap.get? a=some (aU vs n))(ra:Z.af s.heap xs vs)(hl:ff lo vl)(hu:ff hi vu)(hs:s.heap.IsSliceOf sl vl vu .none)(c:fits xs.length=true):
  aY Z s (.lst (cut xs xs.length lo hi)) (getItem (.ref a) (.ref sl)):=λQ E h=>
 wpAny_getItem_list_slice (lst_is ha) hs hl.part hu.part .none (by simp) (by
  rw[slicePick_plain]
  exact V.lst (Internal.af.take _ (Internal.af.drop _ ra)) (by rw[ra.size];exact h)) (by rw[ra.size];exact bT (aQ c))
theorem kD(lo hi:Option Int)(n:Nat):Builtin.Str.strSliceIndices lo hi 1 n=(List.range (hi.elim n (clipAt n)-lo.elim 0 (clipAt n))).map (lo.elim 0 (clipAt n)+·):=by
 rw[<-sliceRange_one]
 unfold Builtin.Str.strSliceIndices
 cases lo<;>cases hi<;>simp[clipAt_cast]
theorem Fz{α:Type}(xs:List α)(m:Nat):(cut xs m lo hi).length<=xs.length:=by
 unfold cut
 rw[List.length_take,List.length_drop]
 exact Nat.le_trans (Nat.min_le_right _ _) (Nat.sub_le _ _)
theorem Fp(m:Nat):hi.elim m (clipAt m)<=m:=by
 cases hi with
 |none=>exact Nat.le_refl _
 |some i=>exact Int.ofNat_le.mp (by rw[Option.elim_some,clipAt_cast];exact Int.max_le.mpr ⟨Int.natCast_nonneg m,Int.min_le_right ..⟩)
theorem Fy{α:Type}{xs:List α}(e:xs.length=hi.elim xs.length (clipAt xs.length)-lo.elim 0 (clipAt xs.length)):cut xs xs.length lo hi=xs:=by
 have:=Fp (hi:=hi) xs.length
 unfold cut
 rw[<-e]
 by_cases h:xs.length=0
 ·rw[List.eq_nil_of_length_eq_zero h];simp
 ·rw[show lo.elim 0 (clipAt xs.length)=0 by lia,List.drop_zero,List.take_length]
theorem Hh{x:Str}(V:Bs Z s)(hl:ff lo vl)(hu:ff hi vu)(hs:s.heap.IsSliceOf sl vl vu .none)(c:fits x.length=true):aY Z s (.str (sM x lo hi)) (getItem (.str x t) (.ref sl)):=λQ E h=>by
 obtain⟨l,rfl,el⟩:=hl.bare
 obtain⟨u,rfl,eu⟩:=hu.bare
 have hx:x.cps.toList.length=x.length:=rfl
 refine wpAny_getItem_str_slice (l:=l) (u:=u) (st:=none) hs rfl ?_
 have hp:(Builtin.Str.strSliceIndices lo hi 1 x.length).filterMap (x.cps[·]?)=cut x.cps.toList x.length lo hi:=by rw[kD,pick_run];rfl
 unfold sliceMade slicePicked
 rw[el,eu]
 show Made.post (if _ then _ else Made.str ⟨((Builtin.Str.strSliceIndices lo hi 1 x.length).filterMap (x.cps[·]?)).toArray⟩) Q s
 rw[hp]
 split
 ·rename_i hc
  have hc:(Builtin.Str.strSliceIndices lo hi 1 x.length).length=x.length:=eq_of_beq (both hc).2
  rw[kD,List.length_map,List.length_range]at hc
  have e:sM x lo hi=x:=by
   have e:x.cps.toList.length=hi.elim x.length (clipAt x.length)-lo.elim 0 (clipAt x.length):=hx.trans hc.symm
   unfold sM
   rw[<-hx]at e⊢
   rw[Fy e]
  exact h _ _ .refl ⟨t,by rw[e]⟩
 ·exact⟨Nat.le_trans (Fz x.cps.toList x.length) (hx▸bT (aQ c)),V.str h⟩
end
end
noncomputable def Fr.of(X:Cx)(Φ:bO)(Ar:Around)(d:Nat)(B:Addr->Prop):Fr:=⟨X,Φ,Ar,d,{scope:={kind:=.function,names:=[],isGenerator:=false,isCoroutine:=false},locals:=0,globals:=0,cells:=[],qual:=""},[],B,λ_=>False,0,0,λ_=>.none⟩
theorem Bs.of{Z:Fr}{s:Shared}(V:Bs Z s):Bs (Fr.of Z.X Z.Φ Z.Ar Z.d Z.B) s:=⟨V.K,V.R,V.g,V.fresh,V.sub⟩
def Cx.VW(X:Cx)(W:Addr->Prop)(a:Addr):Prop:=X.V a/\¬W a
structure Iter(Z:Fr)(K:Addr->Prop)(tp:Bool)(it:Value)(xs:List PV)(W₀:Addr->Prop)(S:(Addr->Prop)->Nat->Shared->Prop)(s₀ s₁:Shared):Prop where
 new:∀a,W₀ a->s₀.heap.get? a=none
 lz:∀W i s,S W i s->∀a,W a->mD Z.X.N s.heap a
 start:S W₀ 0 s₁
 keep:∀W i s s' (K':Addr->Prop),S W i s->aJ Z.X K' s s'->(∀a,W a->K' a)->(∀a o,K a->s₁.heap.get? a=some o->K' a)->S W i s'
 item:∀W i p target,xs[i]?=some p->(tp=true->∃es k ps,target=.Tuple es k ps)->∀(B:Addr->Prop) s (Q:Option Value->Shared->Prop) (E:Value->Shared->Prop),(∀a o,Z.B a->s₁.heap.get? a=some o->B a)->(∀a,Z.X.N<=a->s.heap.get? a=none->B a)->S W i s->Z.X.G s.heap->
  (∀W' v s',(∀a,W a->W' a)->(∀a,W' a->W a\/s.heap.get? a=none)->(∀a,W' a->mD Z.X.N s'.heap a)->St Z.X (Z.X.VW W) s₀.gens.size s s'->Rep s'.heap (λa=>B a/\¬W' a) p v->
   (∀(Q:Unit->Shared->Prop) (E:Value->Shared->Prop),(∀s'',St Z.X (Z.X.VW W') s₀.gens.size s' s''->S W' (i+1) s''->Q () s'')->wpAny Z.X.M Z.Ar (letOwnedTupleGo target it v) Q E s')->Q (some v) s')->wpAny Z.X.M Z.Ar (pyNext it) Q E s
 done:∀W s (Q:Option Value->Shared->Prop) (E:Value->Shared->Prop),S W xs.length s->Z.X.G s.heap->(∀s',St Z.X (Z.X.VW W) s₀.gens.size s s'->Q none s')->wpAny Z.X.M Z.Ar (pyNext it) Q E s
 self:∀W s (Q:Value->Shared->Prop) (E:Value->Shared->Prop),S W 0 s->Q it s->wpAny Z.X.M Z.Ar (pyIter it) Q E s
noncomputable def eG(Z:Fr)(K:Addr->Prop)(tp:Bool)(s:Shared)(xs:List PV)(Q:Value->Shared->Prop):Prop:=
 ∀it W S s₁,aJ Z.X Z.X.V s s₁->Iter Z K tp it xs W S s s₁->Q it s₁
noncomputable def mT(Z:Fr)(K:Addr->Prop)(s:Shared)(tp:Bool)(xs:List PV)(t:Sem Value):Prop:=
 ∀(Q:Value->Shared->Prop) (E:Value->Shared->Prop),eG Z K tp s xs Q->wpAny Z.X.M Z.Ar t (λv s'=>wpAny Z.X.M Z.Ar (pyIter v) Q E s') E s
structure kJ(X:Cx)(L:Addr)(s s':Shared):Prop where
 off:∀a o,X.V a->a≠L->s.heap.get? a=some o->s'.heap.get? a=some o
 self:∀o,s.heap.get? L=some o->∃sl,s'.heap.get? L=some {o with slots:=sl}
 G:X.G s.heap->X.G s'.heap
 gens:∀(i:Nat) (x:GenState),i<s.gens.size->s.gens[i]?=some x->s'.gens[i]?=some x
 bare:AllBare s.gens->AllBare s'.gens
 os:s'.os=s.os
def kI(X:Cx)(Ar:Around)(d:Nat):Prop:=∀(Φ:bO) (env:Env) (s:Shared) (B:Addr->Prop) (vs:List Value) (b0 b1 l1:Int) (Q:Value->Shared->Prop) (E:Value->Shared->Prop),Bs (Fr.of X Φ Ar d B) s->Ar.frames=some [env]->env.scope.kind=.function->env.frame=some env.locals->
 X.N<=env.locals->(∃m,s.heap.Ns env.locals m)->¬B env.locals->Internal.af s.heap B [.tup [.int b0,.int b1],.tup [.int 0,.int l1]] vs->sm b1=true->(∀t s',kJ X env.locals s s'->Q (.int (b1*l1) t) s')->wpAny X.M Ar (call (X.fv 17) vs) Q E s
structure Pf(X:Cx)(Φ:bO)(Ar:Around)(d:Nat):Prop where
 fn:∀(f:Nat) (vs:List Value) (ps:List PV) (r:PV) (s:Shared) (B:Addr->Prop),Φ.fn f ps=some r->Bs (Fr.of X Φ Ar d B) s->Internal.af s.heap B ps vs->aY (Fr.of X Φ Ar d B) s r (call (X.fv f) vs)
 me:∀(f:Nat) (vs:List Value) (ps:List PV) (r:PV) (s:Shared) (B:Addr->Prop),Φ.me f ps=some r->Bs (Fr.of X Φ Ar d B) s->Internal.af s.heap B ps vs->aY (Fr.of X Φ Ar d B) s r (call (X.mv f) vs)
 gen:∀(f:Nat) (vs:List Value) (ps xs:List PV) (s:Shared) (B:Addr->Prop),Φ.gen f ps=some xs->Bs (Fr.of X Φ Ar d B) s->Internal.af s.heap B ps vs->∀(K:Addr->Prop) (tp:Bool),(∀a,B a->K a)->mT (Fr.of X Φ Ar d B) K s tp xs (call (X.gv f) vs)
 home:Φ.hz=true->kI X Ar d
structure Ev(Z:Fr)(sc:SC)(σ:List Slot)(ws:Nat->Option Value)(s:Shared):Prop extends Dy Z σ ws s where
 P:Pf Z.X Z.Φ Z.Ar Z.d
 EO:bq Z.env sc Z.ls
 nm:Z.X.nm=sc.nm
 fr:sc.top=true->Z.Ar.frames=some [Z.env]/\Z.env.frame=some Z.env.locals
theorem Ev.step{Z:Fr}{sc:SC}{σ:List Slot}{ws:Nat->Option Value}{s s':Shared}(V:Ev Z sc σ ws s)(x:aJ Z.X Z.X.V s s'):Ev Z sc σ ws s':=⟨V.toDy.step x,V.P,V.EO,V.nm,V.fr⟩
structure Pl(e:Expr):Prop where
 st:∀env es,starEach (e::es) env=(false,eval e env)::starEach es env
 bh:∀op,behindInMarks op e=false
 fd:∀env x,foldedSetIterable e env x=pure x
structure SE(sc:SC)where
 e:Expr
 ev:bO->List Slot->Option PV
 pl:Pl e
 ok:∀{Z:Fr} {σ:List Slot} {ws:Nat->Option Value} {s:Shared} {p:PV},Ev Z sc σ ws s->ev Z.Φ σ=some p->aY Z s p (eval e Z.env)
structure SW(sc:SC)where
 e:Expr
 ev:bO->List Slot->Option (List PV)
 pl:Pl e
 ok:∀{Z:Fr} {σ:List Slot} {ws:Nat->Option Value} {s:Shared} {xs:List PV},Ev Z sc σ ws s->ev Z.Φ σ=some xs->Mj Z s xs (eval e Z.env)
structure SB(sc:SC)where
 e:Expr
 ev:bO->List Slot->Option Bool
 ok:∀{Z:Fr} {σ:List Slot} {ws:Nat->Option Value} {s:Shared} {b:Bool},Ev Z sc σ ws s->ev Z.Φ σ=some b->r8 Z s b (isTrue e Z.env (eval e Z.env))
section
variable{sc:SC}{Z:Fr}{σ:List Slot}{ws:Nat->Option Value}{s s':Shared}{Q:Value->Shared->Prop}{E:Value->Shared->Prop}
theorem SE.go(x:SE sc){p:PV}(V:Ev Z sc σ ws s)(e:x.ev Z.Φ σ=some p)(h:∀v s',aJ Z.X Z.X.V s s'->Ev Z sc σ ws s'->Z.Rep s'.heap p v->Q v s'):wpAny Z.X.M Z.Ar (eval x.e Z.env) Q E s:=x.ok V e Q E λv s' x r=>h v s' x (V.step x) r
theorem SW.go(x:SW sc){xs:List PV}(V:Ev Z sc σ ws s)(e:x.ev Z.Φ σ=some xs)(h:∀v vs s',aJ Z.X Z.X.V s s'->Ev Z sc σ ws s'->LstAt Z.X.V s'.heap v vs->Z.af s'.heap xs vs->Q v s'):wpAny Z.X.M Z.Ar (eval x.e Z.env) Q E s:=x.ok V e Q E λv vs s' x r l=>h v vs s' x (V.step x) r l
theorem SB.go(x:SB sc){b:Bool}{Q:Bool->Shared->Prop}(V:Ev Z sc σ ws s)(e:x.ev Z.Φ σ=some b)(h:∀s',aJ Z.X Z.X.V s s'->Ev Z sc σ ws s'->Q b s'):wpAny Z.X.M Z.Ar (isTrue x.e Z.env (eval x.e Z.env)) Q E s:=x.ok V e Q E λs' x=>h s' x (V.step x)
theorem LstAt.stp{v:Value}{vs:List Value}(r:LstAt Z.X.V s.heap v vs)(x:aJ Z.X Z.X.V s s'):LstAt Z.X.V s'.heap v vs:=r.move λa o k e=>⟨k,x.off a o k e⟩
noncomputable def yy(x:Str):Bool:=!(x==("__debug__":Str))
def isVar(sc:SC)(i:Nat)(x:Str):Bool:=(sc.Γ[i]?==some x&&yy x)&&(sc.N.lookup x==some .local||(sc.N.lookup x==some .cell||(sc.N.lookup x==some .free&&!(x==("__classdict__":Str)))))
def aC(sc:SC)(x:Str):Bool:=sc.N.lookup x==some .globalImplicit&&yy x
theorem jV(EO:bq Z.env sc Z.ls){x:Str}{k:NameKind}(e:(sc.N.lookup x==some k)=true):Z.env.kindOf x=some k:=by
 rw[<-eq_of_beq e,<-EO.names];rfl
theorem ldn(V:Ev Z sc σ ws s){i:Nat}{x:Str}{v:Value}(hm:isVar sc i x=true)(hw:ws i=some v)(h:Q v s):wpAny Z.X.M Z.Ar (loadName Z.env x) Q E s:=by
 obtain⟨h1,h2⟩:=both hm
 obtain⟨h1,hd⟩:=both h1
 have h1:=eq_of_beq h1
 have hi:i<Z.ls.length:=V.EO.len▸(jb h1).1
 have hl:Z.ls[i]?=some Z.ls[i]:=List.getElem?_eq_getElem hi
 have pl:=V.pl i _ hl
 rw[hw]at pl
 cases k1:sc.N.lookup x==some NameKind.local with
 |true=>
  have el:=V.EO.loc i x _ h1 hl (eq_of_beq k1)
  rw[el]at pl
  obtain⟨m,hn,hm⟩:=pl
  exact wpAny_loadName_local V.EO.kind (jV V.EO k1) hn hm h
 |false=>
  cases k2:sc.N.lookup x==some NameKind.cell with
  |true=>
   obtain⟨c,hc,el⟩:=V.EO.L3 i x _ h1 hl (.inl (eq_of_beq k2))
   rw[el]at pl
   exact wpAny_loadName_cell V.EO.kind (jV V.EO k2) hc pl h
  |false=>
   rw[k1,k2]at h2
   have h2:=both (show(sc.N.lookup x==some NameKind.free&&!(x==("__classdict__":Str)))=true from h2)
   obtain⟨c,hc,el⟩:=V.EO.L3 i x _ h1 hl (.inr (eq_of_beq h2.1))
   rw[el]at pl
   exact wpAny_loadName_free V.EO.kind (jV V.EO h2.1) hc pl h (not_eq h2.2)
theorem CW(V:Ev Z sc σ ws s){i:Nat}{x:Str}{p:Pos}{v:Value}(hm:isVar sc i x=true)(hw:ws i=some v)(h:Q v s):wpAny Z.X.M Z.Ar (eval (.Name x p) Z.env) Q E s:=wpAny_Name (ldn V hm hw h) (not_eq (both (both hm).1).2)
theorem glob(V:Ev Z sc σ ws s){x:Str}{p:Pos}(hm:aC sc x=true)(h:wpAny Z.X.M Z.Ar (loadGlobal Z.env x) Q E s):wpAny Z.X.M Z.Ar (eval (.Name x p) Z.env) Q E s:=
 Calls.Name_function_global V.EO.kind (jV V.EO (both hm).1) h (not_eq (both hm).2)
theorem global(V:Ev Z sc σ ws s){x:Str}{p:Pos}{v:Value}(hm:aC sc x=true)(hv:Z.X.mg x=some v)(h:Q v s):wpAny Z.X.M Z.Ar (eval (.Name x p) Z.env) Q E s:=
 glob V hm (Calls.loadGlobal_global (V.EO.glob▸V.K.g _ V.g) hv h)
theorem fm(V:Ev Z sc σ ws s){x:Str}{p:Pos}{v:Value}(hm:aC sc x=true)(hx:x∈(["len","abs","max","min","sum","int","sorted","tuple","list","divmod","range","enumerate","zip","reversed","str","ZeroDivisionError"]:List Str))(hb:bootBuiltins x=some v)(h:Q v s):wpAny Z.X.M Z.Ar (eval (.Name x p) Z.env) Q E s:=
 glob V hm (Calls.loadGlobal_builtin (V.EO.glob▸V.K.g _ V.g) (V.K.blt x hx).1 (V.EO.blt▸V.K.b _ V.g) ((V.K.blt x hx).2.trans hb) h)
noncomputable def ee(σ:List Slot)(i:Nat):Option PV:=σ[i]?.bind λt=>Slot.casesOn (motive:=λ_=>Option PV) t none some (λ_=>none) λ_=>none
noncomputable def eW(σ:List Slot)(i:Nat):Option (List PV):=σ[i]?.bind λt=>Slot.casesOn (motive:=λ_=>Option (List PV)) t none (λ_=>none) some λ_=>none
theorem oE{i:Nat}{p:PV}(e:ee σ i=some p):σ[i]?=some (.val p):=aa e λt e1 e2=>by
 cases t<;>first|exact no e2|(rw[e1,<-aq e2])
theorem gH{i:Nat}{p:List PV}(e:eW σ i=some p):σ[i]?=some (.own p):=aa e λt e1 e2=>by
 cases t<;>first|exact no e2|(rw[e1,<-aq e2])
def SE.var(i:Nat)(x:Str)(p:Pos)(h:isVar sc i x=true):SE sc:=⟨.Name x p,λ_ σ=>ee σ i,⟨λ_ _=>rfl,λop=>by cases op<;>rfl,λ_ _=>rfl⟩,
 λV e Q E q=>(V.ok i _ (oE e)).elim λv w=>CW V h w.1 (q v _ .refl w.2)⟩
def SW.own(i:Nat)(x:Str)(p:Pos)(h:isVar sc i x=true):SW sc:=⟨.Name x p,λ_ σ=>eW σ i,⟨λ_ _=>rfl,λop=>by cases op<;>rfl,λ_ _=>rfl⟩,
 λV e Q E q=>yY.on (V.ok i _ (gH e)) λv vs e l r=>CW V h e (q v vs _ .refl (l.move λa o u e=>⟨.inl u,e⟩) r)⟩
def SW.of(x:SE sc):SW sc:=⟨x.e,λΦ σ=>(x.ev Φ σ).bind PV.gw,x.pl,λV e Q E q=>aa e λp e1 e2=>x.go V e1 λv s' st V' r=>
 r.lst e2 (M:=λv=>Q v s') λa n vs b h l=>q (.ref a) vs s' st ⟨a,n,rfl,V'.sub a b,h⟩ l⟩
end
section
variable{sc:SC}{Z:Fr}{σ:List Slot}{ws:Nat->Option Value}{s s':Shared}{Q:Value->Shared->Prop}{E:Value->Shared->Prop}
noncomputable def Fr.weak(Z:Fr):Fr:={Z with B:=Z.X.V}
theorem Bs.weak(V:Bs Z s):Bs Z.weak s:=⟨V.K,V.R,V.g,λ_ h _=>.inl h,λ_ h=>h⟩
theorem Fr.Rep.weak{h:Heap}{p:PV}{v:Value}(r:Z.Rep h p v)(b:∀a,Z.B a->Z.X.V a):Z.weak.Rep h p v:=Internal.Rep.move r λa _ k e=>⟨b a k,e⟩
structure SX(sc:SC)where
 e:Expr
 ev:bO->List Slot->Option PV
 pl:Pl e
 ok:∀{Z:Fr} {σ:List Slot} {ws:Nat->Option Value} {s:Shared} {p:PV},Ev Z sc σ ws s->ev Z.Φ σ=some p->aY Z.weak s p (eval e Z.env)
def SE.x(x:SE sc):SX sc:=⟨x.e,x.ev,x.pl,λ{Z σ ws s p} V e Q E h=>x.go (Z:=Z) V e λv s' st V' r=>h v s' st (r.weak V'.sub)⟩
noncomputable def SW.x(x:SW sc):SX sc:=⟨x.e,λΦ σ=>(x.ev Φ σ).map .lst,x.pl,λ{Z σ ws s p} V e Q E h=>aE e λxs e1 e2=>x.go (Z:=Z) V e1 λv vs s' st V' l r=>h v s' st (by
 obtain⟨a,n,rfl,k,g⟩:=l
 subst e2
 exact Rep.oi k g (Internal.af.move (λa _ k e=>⟨V'.sub a k,e⟩) r))⟩
theorem SX.go(x:SX sc){p:PV}(V:Ev Z sc σ ws s)(e:x.ev Z.Φ σ=some p)(h:∀v s',aJ Z.X Z.X.V s s'->Ev Z sc σ ws s'->Z.weak.Rep s'.heap p v->Q v s'):wpAny Z.X.M Z.Ar (eval x.e Z.env) Q E s:=x.ok V e Q E λv s' x r=>h v s' x (V.step x) r
theorem Pl.const{c:Const}{k:Nat}{p:Pos}:Pl (.Constant c k p):=⟨λ_ _=>rfl,λop=>by cases op<;>rfl,λ_ _=>rfl⟩
theorem Pl.name{x:Str}{p:Pos}:Pl (.Name x p):=⟨λ_ _=>rfl,λop=>by cases op<;>rfl,λ_ _=>rfl⟩
def SE.nn(k:Nat)(p:Pos):SE sc:=⟨.Constant .none k p,λ_ _=>some .none,.const,λV e Q E q=>wpAny_Constant_none (q _ _ .refl (aq e▸(rfl:Value.none=_)))⟩
def SE.bool(b:Bool)(k:Nat)(p:Pos):SE sc:=⟨.Constant (.bool b) k p,λ_ _=>some (.bool b),.const,λV e Q E q=>wpAny_Constant_bool (q _ _ .refl (aq e▸(rfl:Value.bool b=_)))⟩
def SE.int(i:Int)(k:Nat)(p:Pos):SE sc:=⟨.Constant (.int i) k p,λ_ _=>some (.int i),.const,λV e Q E q=>wpAny_Constant_int (q _ _ V.toks (aq e▸Rep.mkInt))⟩
def SE.ak(i:UInt64)(k:Nat)(p:Pos):SE sc:=⟨.Constant (.float i) k p,λ_ _=>some (.ak i),.const,λV e Q E q _ _ _=>q _ _ (V.toks (tk:=_+1)) (aq e▸Rep.yr)⟩
def SE.str(i:Str)(k:Nat)(p:Pos):SE sc:=⟨.Constant (.str i) k p,λ_ _=>some (.str i),.const,λV e Q E q=>wpAny_Constant_str (q _ _ V.toks (aq e▸Rep.mkStr))⟩
def SE.Rc(x:Str)(b:UInt64)(p:Pos)(h:aC sc x=true)(hx:sc.nm.oV.lookup x=some b):SE sc:=⟨.Name x p,λ_ _=>some (.ak b),.name,
 λV e Q E q=>(V.K.oV x b (V.nm▸hx)).elim λt ht=>global V h ht (q _ _ .refl (aq e▸Rep.yr))⟩
def SE.Rg(x:Str)(b:Int)(p:Pos)(h:aC sc x=true)(hx:sc.nm.jl.lookup x=some b):SE sc:=⟨.Name x p,λ_ _=>some (.int b),.name,
 λV e Q E q=>(V.K.jl x b (V.nm▸hx)).elim λt ht=>global V h ht (q _ _ .refl (aq e▸Rep.mkInt))⟩
noncomputable def SE.bin{op:Operator}(b:B2 op)(l r:SE sc)(p:Pos):SE sc:=⟨.BinOp l.e op r.e p,λΦ σ=>(l.ev Φ σ).bind λa=>(r.ev Φ σ).bind (b.f a),⟨λ_ _=>rfl,λop=>by cases op<;>rfl,λ_ _=>rfl⟩,
 λV e Q E q=>aa e λa e1 e=>aa e λc e2 e=>wpAny_BinOp (l.go V e1 λv s₁ x₁ aj r₁=>r.go aj e2 λw s₂ x₂ aD r₂=>(b.ok aD.toBs (r₁.stp aj.sub x₂) r₂ e).go (x₁.trans x₂) q)⟩
noncomputable def SE.oJ{op:UnaryOp}(b:U1 op)(x:SE sc)(p:Pos):SE sc:=⟨.UnaryOp op x.e p,λΦ σ=>(x.ev Φ σ).bind b.f,⟨λ_ _=>rfl,λop=>by cases op<;>rfl,λ_ _=>rfl⟩,
 λV e Q E q=>aa e λa e1 e=>wpAny_UnaryOp (x.go V e1 λv s₁ x₁ aj r₁=>(b.ok aj.toBs r₁ e).go x₁ q)⟩
noncomputable def SE.cmp{op:CmpOp}(b:C2 op)(l r:SX sc)(p:Pos):SE sc:=⟨.Compare l.e [op] [r.e] p,λΦ σ=>(l.ev Φ σ).bind λa=>(r.ev Φ σ).bind λc=>(b.f a c).map .bool,⟨λ_ _=>rfl,λop=>by cases op<;>rfl,λ_ _=>rfl⟩,
 λ{Z σ ws s p} V e Q E q=>aa e λa e1 e=>aa e λc e2 e=>aE e λk e e3=>wpAny_Compare1 (l.go V e1 λv s₁ x₁ aj r₁=>r.go aj e2 λw s₂ x₂ aD r₂=>b.ok (Z:=Z.weak) aD.toBs.weak (r₁.stp (λ_ h=>h) x₂) r₂ e (q _ _ (x₁.trans x₂) (e3▸(rfl:Value.bool k=_)))) (r.pl.bh op)⟩
noncomputable def SB.cmp{op:CmpOp}(b:C2 op)(l r:SX sc)(p:Pos):SB sc:=⟨.Compare l.e [op] [r.e] p,λΦ σ=>(l.ev Φ σ).bind λa=>(r.ev Φ σ).bind (b.f a),
 λ{Z σ ws s p} V e Q E q=>aa e λa e1 e=>aa e λc e2 e=>wpAny_isTrue_Compare1 (l.go V e1 λv s₁ x₁ aj r₁=>r.go aj e2 λw s₂ x₂ aD r₂=>b.ok (Z:=Z.weak) aD.toBs.weak (r₁.stp (λ_ h=>h) x₂) r₂ e (wpAny_truthy_bool (q _ (x₁.trans x₂)))) (r.pl.bh op)⟩
def SB.of(x:SX sc)(h:∀env,isTrue x.e env (eval x.e env)=(do let v<-eval x.e env;standAt x.e.pos;holding [v] (truthy v))):SB sc:=⟨x.e,λΦ σ=>(x.ev Φ σ).bind truth,
 λ{Z σ ws s p} V e Q E q=>aa e λa e1 e=>wpAny_isTrue_value (x.go V e1 λv s₁ x₁ aj r₁=>(En (Z:=Z.weak) aj.toBs.weak r₁ e).go x₁ q) (h _)⟩
noncomputable def SB.neg(x:SB sc)(p:Pos):SB sc:=⟨.UnaryOp .Not x.e p,λΦ σ=>(x.ev Φ σ).map λb=>!b,λV e Q E q=>aE e λb e1 e2=>by subst e2;exact isTrue_not (x.go V e1 λs' st V'=>q s' st)⟩
noncomputable def SB.or(l r:SB sc)(p:Pos):SB sc:=⟨.BoolOp .Or [l.e,r.e] p,λΦ σ=>(l.ev Φ σ).bind λa=>bif a then some true else r.ev Φ σ,
 λ{Z σ ws s b} V e Q E q=>aa e λa e1 e=>isTrue_or (l.go V e1 λs₁ x₁ aj=>by
  cases a with
  |true=>obtain rfl:=aq e;exact q s₁ x₁
  |false=>exact isTrue_or (r.go aj e λs₂ x₂ _=>by
    cases b with
    |true=>exact q s₂ (x₁.trans x₂)
    |false=>exact isTrue_or_nil (q s₂ (x₁.trans x₂))))⟩
noncomputable def SE.ite(t:SB sc)(a b:SE sc)(p:Pos):SE sc:=⟨.IfExp t.e a.e b.e p,λΦ σ=>(t.ev Φ σ).bind λk=>bif k then a.ev Φ σ else b.ev Φ σ,⟨λ_ _=>rfl,λop=>by cases op<;>rfl,λ_ _=>rfl⟩,
 λV e Q E q=>aa e λk e1 e=>wpAny_IfExp (t.go V e1 λs₁ x₁ aj=>by
  cases k with
  |true=>exact(a.ok aj e).go x₁ q
  |false=>exact(b.ok aj e).go x₁ q)⟩
noncomputable def ig(Φ:bO)(σ:List Slot):List (SE sc)->Option (List PV)
 | []=>some []
 |x::r=>(x.ev Φ σ).bind λp=>(ig Φ σ r).map (p::·)
noncomputable def exprs(as:List (SE sc)):List Expr:=as.map SE.e
theorem eH{pos:Pos}{Q:List Value->Shared->Prop}:∀{as:List (SE sc)} {s:Shared} {ps:List PV},Ev Z sc σ ws s->ig Z.Φ σ as=some ps->(∀vs s',aJ Z.X Z.X.V s s'->Ev Z sc σ ws s'->Z.af s'.heap ps vs->Q vs s')->wpAny Z.X.M Z.Ar (spliced (backTo pos (starEach (exprs as) Z.env))) Q E s:=by
 intro w
 induction w generalizing Q with
 |nil=>intro _ _ V e q;exact wpAny_pure (q [] _ .refl V (aq e▸af.nil))
 |cons a as ih=>intro _ _ V e q;exact aa e λp e1 e=>aE e λps e2 e=>wpAny_items_cons (a.go V e1 λv s₁ x₁ aj r₁=>ih aj e2 λvs s₂ x₂ aD rl=>q _ s₂ (x₁.trans x₂) aD (e▸af.cons (r₁.stp aj.sub x₂) rl)) (a.pl.st _ _)
theorem cg{env:Env}{pos:Pos}:∀as:List (SE sc),(backTo pos (starEach (exprs as) env)).any (·.1)=false:=by
 intro w
 induction w with
 |nil=>exact rfl
 |cons a as ih=>
  show(backTo pos (starEach (a.e::exprs as) env)).any (·.1)=false
  rw[a.pl.st]
  exact ih
theorem args_call{M:Model}{Ar:Around}{env:Env}{f:Value}{pos:Pos}{Q:Args->Shared->Prop}:∀{as:List (SE sc)},wpAny M Ar (spliced (backTo pos (starEach (exprs as) env))) (λvs s'=>Q ⟨vs,[]⟩ s') E s->wpAny M Ar (evalArgs f true (backTo pos (starEach (exprs as) env)) []) Q E s
 | [],h=>h
 |a::as,h=>by
  have e:backTo pos (starEach (exprs (a::as)) env)=(false,eval a.e env)::backTo pos (starEach (exprs as) env):=congrArg (backTo pos) (a.pl.st env (exprs as))
  rw[e]at h⊢
  exact Calls.evalArgs_plain h
def SE.tup(as:List (SE sc))(k:Nat)(p:Pos):SE sc:=⟨.Tuple (exprs as) k p,λΦ σ=>(ig Φ σ as).bind λps=>bif fits ps.length then some (.tup ps)else .none,⟨λ_ _=>rfl,λop=>by cases op<;>rfl,λ_ _=>rfl⟩,
 λ{Z σ ws s r} V e Q E q=>aa e λps e1 e=>iI (M:=λr=>(∀v s',aJ Z.X Z.X.V s s'->Z.Rep s'.heap r v->Q v s')->_) e (λc q=>wpAny_Tuple (eH V e1 λvs s₁ x₁ aj rl=>⟨rl.len▸bT (aQ c),aj.toBs.tup (tk:=s₁.toks) rl λv s' x r=>q v s' (x₁.trans x) r⟩)) q⟩
def SE.lst(as:List (SE sc))(p:Pos):SE sc:=⟨.List (exprs as) p,λΦ σ=>(ig Φ σ as).bind λps=>bif fits ps.length then some (.lst ps)else .none,⟨λ_ _=>rfl,λop=>by cases op<;>rfl,λ_ _=>rfl⟩,
 λ{Z σ ws s r} V e Q E q=>aa e λps e1 e=>iI (M:=λr=>(∀v s',aJ Z.X Z.X.V s s'->Z.Rep s'.heap r v->Q v s')->_) e (λc q=>wpAny_List (eH V e1 λvs s₁ x₁ aj rl=>⟨rl.len▸bT (aQ c),aj.toBs.lst (tk:=s₁.toks) rl λv s' x r=>q v s' (x₁.trans x) r⟩)) q⟩
def SE.idx(x:SW sc)(i:SE sc)(p:Pos):SE sc:=⟨.Subscript x.e i.e p,λΦ σ=>(x.ev Φ σ).bind λxs=>(i.ev Φ σ).bind λj=>j.int?.bind λj=>(at? xs.length j).bind (xs[·]?),⟨λ_ _=>rfl,λop=>by cases op<;>rfl,λ_ _=>rfl⟩,
 λV e Q E q=>aa e λxs e1 e=>aa e λj e2 e=>aa e λj' e3 e=>aa e λk e4 e5=>kE (x.go V e1 λv vs s₁ x₁ aj l r=>i.go aj e2 λw s₂ x₂ aD r₂=>by
  obtain⟨a,n,rfl,_,g⟩:=l.stp x₂
  obtain⟨t,rfl⟩:=cQ.rd r₂ e3
  exact yQ g ((CR g (r.stp aj.sub x₂) e4 e5).go (x₁.trans x₂) q))⟩
def SE.cJ(x:SE sc)(i:SE sc)(p:Pos):SE sc:=⟨.Subscript x.e i.e p,λΦ σ=>(x.ev Φ σ).bind λxs=>xs.o4.bind λxs=>(i.ev Φ σ).bind λj=>j.int?.bind λj=>(at? xs.length j).bind (xs[·]?),⟨λ_ _=>rfl,λop=>by cases op<;>rfl,λ_ _=>rfl⟩,
 λ{Z σ ws s p} V e Q E q=>aa e λxs e1 e=>aa e λxs' e0 e=>aa e λj e2 e=>aa e λj' e3 e=>aa e λk e4 e5=>kE (x.go V e1 λv s₁ x₁ aj r=>i.go aj e2 λw s₂ x₂ aD r₂=>by
  obtain⟨t,rfl⟩:=cQ.rd r₂ e3
  exact(r.stp aj.sub x₂).tup e0 (M:=λv=>SubscriptOn Z.X.M Z.Ar v (.int j' t) Q E s₂) λa n vs _ g l=>Hq g ((item_tup g l e4 e5).go (x₁.trans x₂) q))⟩
end
section
variable{sc:SC}{Z:Fr}{σ:List Slot}{ws:Nat->Option Value}{s s':Shared}{Q:Value->Shared->Prop}{E:Value->Shared->Prop}
def JR(Φ:bO)(σ:List Slot)(o:Option (SE sc)):Option (Option Int):=Option.casesOn (motive:=λ_=>Option (Option Int)) o (some none) λx=>(x.ev Φ σ).bind λp=>p.int?.map some
noncomputable def part(o:Option (SE sc)):Option Expr:=o.map SE.e
theorem yF{o:Option (SE sc)}{i:Option Int}(V:Ev Z sc σ ws s)(e:JR Z.Φ σ o=some i)(h:∀v s',aJ Z.X Z.X.V s s'->Ev Z sc σ ws s'->ff i v->Q v s'):wpAny Z.X.M Z.Ar (evalPart (part o) Z.env) Q E s:=by
 cases o with
 |none=>exact wpAny_pure (h _ s .refl V (aq e▸rfl))
 |some x=>
  refine aa e λp e1 e=>aE e λj e2 e=>?_
  subst e
  show wpAny _ _ (evalPart (some x.e) Z.env) Q E s
  rw[evalPart_some]
  exact x.go V e1 λv s₁ x₁ aj r=>h v s₁ x₁ aj (cQ.rd r e2)
theorem Pl.sub{a b:Expr}{p:Pos}:Pl (.Subscript a b p):=⟨λ_ _=>rfl,λop=>by cases op<;>rfl,λ_ _=>rfl⟩
theorem DX{lo hi:Option (SE sc)}{p:Pos}{i j:Option Int}(V:Ev Z sc σ ws s)(e1:JR Z.Φ σ lo=some i)(e2:JR Z.Φ σ hi=some j)
  (h:∀(s₁:Shared) (sl:Addr) (vl vu:Value),aJ Z.X Z.X.V s s₁->Ev Z sc σ ws s₁->ff i vl->ff j vu->s₁.heap.IsSliceOf sl vl vu .none->Q (.ref sl) s₁):wpAny Z.X.M Z.Ar (eval (.Slice (part lo) (part hi) none p) Z.env) Q E s:=
 wpAny_Slice (yF V e1 λvl s₁ x₁ aj r₁=>yF aj e2 λvu s₂ x₂ aD r₂=>by
  rw[evalPart_none]
  exact wpAny_pure (h _ _ vl vu (x₁.trans (x₂.trans (aD.toBs.push (tk:=s₂.toks)))) (aD.step (aD.toBs.push (tk:=s₂.toks))) r₁ r₂ ⟨_,Heap.get?_push_size _ rfl,rfl,rfl⟩))
def SE.slc(x:SW sc)(lo hi:Option (SE sc))(p1 p:Pos):SE sc:=⟨.Subscript x.e (.Slice (part lo) (part hi) none p1) p,λΦ σ=>(x.ev Φ σ).bind λxs=>(JR Φ σ lo).bind λi=>(JR Φ σ hi).bind λj=>bif fits xs.length then some (.lst (cut xs xs.length i j))else none,.sub,
 λ{Z σ ws s r} V e Q E q=>aa e λxs e1 e=>aa e λi e2 e=>aa e λj e3 e=>iI (M:=λr=>(∀v s',aJ Z.X Z.X.V s s'->Z.Rep s'.heap r v->Q v s')->_) e (λc q=>kE (x.go V e1 λv vs s₁ x₁ aj l r=>DX aj e2 e3 λs₂ sl vl vu x₂ aD r1 r2 hs=>by
  obtain⟨a,n,rfl,_,g⟩:=l.stp x₂
  exact yQ g ((Hg aD.toBs g (r.stp aj.sub x₂) r1 r2 hs c).go (x₁.trans x₂) q))) q⟩
def SE.Ov(x:SE sc)(lo hi:Option (SE sc))(p1 p:Pos):SE sc:=⟨.Subscript x.e (.Slice (part lo) (part hi) none p1) p,λΦ σ=>(x.ev Φ σ).bind λxs=>xs.wY.bind λxs=>(JR Φ σ lo).bind λi=>(JR Φ σ hi).bind λj=>bif fits xs.length then some (.str (sM xs i j))else none,.sub,
 λ{Z σ ws s r} V e Q E q=>aa e λxs e1 e=>aa e λxs' e0 e=>aa e λi e2 e=>aa e λj e3 e=>iI (M:=λr=>(∀v s',aJ Z.X Z.X.V s s'->Z.Rep s'.heap r v->Q v s')->_) e (λc q=>kE (x.go V e1 λv s₁ x₁ aj r=>DX aj e2 e3 λs₂ sl vl vu x₂ aD r1 r2 hs=>by
  obtain⟨t,rfl⟩:=rZ.rd r e0
  exact⟨"str",_,F.slot_str_getitem.lookup,typeIs_str _ _ _,(Hh aD.toBs r1 r2 hs c).go (x₁.trans x₂) q⟩)) q⟩
theorem uX{o:Expr}{x:Str}{env:Env}{t:Sem Value}(h:∀x env t,attributeBase o x env t=t):attributeBase o x env t=t:=h x env t
def SE.attr(i:Nat)(x:Str)(o:SE sc)(p:Pos)(hx:fieldNames[i]?=some x)(hs:∀x env t,attributeBase o.e x env t=t):SE sc:=
 ⟨.Attribute o.e x p,λΦ σ=>(o.ev Φ σ).bind λv=>v.obj?.bind λc=>bif Nat.beq c.1 sc.nm.cls then c.2[i]? else none,⟨λ_ _=>rfl,λop=>by cases op<;>rfl,λ_ _=>rfl⟩,
 λ{Z σ ws s r} V e Q E q=>aa e λv e1 e=>aa e λc e2 e=>by
  cases hc:Nat.beq c.1 sc.nm.cls with
  |false=>rw[hc]at e;exact no e
  |true=>
   rw[hc]at e
   rw[arm_eval_Attribute,hs]
   refine wpAny_bind (o.go V e1 λv s₁ x₁ aj r₁=>wpAny_bind (wpAny_standAt (wpAny_bind (wpAny_holding ?_))))
   rw[PV.CP e2,show c.1=Z.X.nm.cls from(Nat.eq_of_beq_eq_true hc).trans (congrArg oQ.cls V.nm.symm)]at r₁
   exact aj.K.attr i x hx Z.Ar Z.B s₁ v c.2 _ _ _ aj.g r₁ e λv' tk r₂=>wpAny_bind (wpAny_letTemporaryGo (wpAny_pure (q _ _ (x₁.trans aj.toBs.toks) r₂)))⟩
def SE.cat(f:Nat)(w x y:Str)(p1 p:Pos)(hf:sc.nm.fns[f]?=some w)(hx:(f,x,y)∈sc.nm.Bg)(hg:aC sc w=true):SE sc:=
 ⟨.Attribute (.Name w p1) x p,λ_ _=>some (.str y),⟨λ_ _=>rfl,λop=>by cases op<;>rfl,λ_ _=>rfl⟩,
 λ{Z σ ws s r} V e Q E q=>by
  rw[arm_eval_Attribute,show attributeBase (.Name w p1) x Z.env (eval (.Name w p1) Z.env)=eval (.Name w p1) Z.env from rfl]
  exact wpAny_bind (global V hg (V.K.fns f w (V.nm▸hf)) (wpAny_bind (wpAny_standAt (wpAny_bind (wpAny_holding (V.K.cat f w x y (V.nm▸hf) (V.nm▸hx) Z.Ar _ _ _ V.g λt=>wpAny_bind (wpAny_letTemporaryGo (wpAny_pure (q _ _ V.toBs.toks (aq e▸Rep.mkStr))))))))))⟩
def SE.call(f:Nat)(x:Str)(as:List (SE sc))(p1 p:Pos)(hx:sc.nm.fns[f]?=some x)(hg:aC sc x=true):SE sc:=⟨.Call (.Name x p1) (exprs as) [] p,λΦ σ=>(ig Φ σ as).bind (Φ.fn f),⟨λ_ _=>rfl,λop=>by cases op<;>rfl,λ_ _=>rfl⟩,
 λV e Q E q=>aa e λps e1 e=>wpAny_Call_NameR (global V hg (V.K.fns f x (V.nm▸hx)) (V.K.xH f x (V.nm▸hx) _ p [] _ Q E _ (cg as) (eH V e1 λvs s₁ x₁ aj rl=>⟨aj.g,aj.P.fn f vs ps _ s₁ _ e aj.toBs.of rl Q E λv s₂ x₂ r=>q v s₂ (x₁.trans x₂) r⟩) V.g))⟩
theorem nK{as:List (SE sc)}{env:Env}{pos:Pos}(hz:Nat.blt as.length 30=true):methodCallForm ((exprs as).length+([]:List Keyword).length) (backTo pos (starEach (exprs as) env)) []=true:=by
 have:((backTo pos (starEach (exprs as) env)).all λx=>!x.1)=true:=by
  rw[List.all_eq_not_any_not]
  simpa using cg (env:=env) (pos:=pos) as
 unfold methodCallForm
 have hl:(exprs as).length=as.length:=List.length_map ..
 have:=Nat.blt_eq.mp hz
 simp only[List.length_nil,Nat.add_zero,hl]
 simp[this, *]
def SE.yT(f:Nat)(x:Str)(o:SE sc)(as:List (SE sc))(p1 p:Pos)(hx:sc.nm.ms[f]?=some x)(hs:∀x env t,attributeBase o.e x env t=t)(hl:(p1.endLine==p.line)=true)(hz:Nat.blt as.length 30=true):SE sc:=
 ⟨.Call (.Attribute o.e x p1) (exprs as) [] p,λΦ σ=>(o.ev Φ σ).bind λv=>v.obj?.bind λc=>bif Nat.beq c.1 sc.nm.cls then(ig Φ σ as).bind λps=>Φ.me f (v::ps)else none,⟨λ_ _=>rfl,λop=>by cases op<;>rfl,λ_ _=>rfl⟩,
 λ{Z σ ws s r} V e Q E q=>aa e λv e1 e=>aa e λc e2 e=>by
  cases hc:Nat.beq c.1 sc.nm.cls with
  |false=>rw[hc]at e;exact no e
  |true=>
   rw[hc]at e
   refine aa e λps e3 e=>?_
   rw[arm_eval_Call,hs]
   refine wpAny_bind (o.go V e1 λv s₁ x₁ aj r₁=>wpAny_bind (wpAny_standAt ?_))
   have r₁':=r₁
   rw[PV.CP e2,show c.1=Z.X.nm.cls from(Nat.eq_of_beq_eq_true hc).trans (congrArg oQ.cls V.nm.symm)]at r₁'
   exact aj.K.yT f x (V.nm▸hx) Z.Ar Z.B s₁ o.e p1 p Z.env v c.2 _ _ Q E aj.g r₁' (nK hz) hl (cg as) (eH aj e3 λvs s₂ x₂ aD rl=>
    ⟨aD.g,aD.P.me f (v::vs) _ _ s₂ _ e aD.toBs.of (af.cons (r₁.stp aj.sub x₂) rl) Q E λv s₃ x₃ r=>q v s₃ ((x₁.trans x₂).trans x₃) r⟩)⟩
end
section
open PySem.SeqAt PySem.Builtin.Str
noncomputable abbrev jH:List Str:=["len","abs","max","min","sum","int","sorted","tuple","list","divmod","range","enumerate","zip","reversed","str","ZeroDivisionError"]
structure BN where
 x:Str
 v:Value
 hx:x∈jH
 hb:bootBuiltins x=some v
 cw:∀{M:Model} {Ar:Around} {E:Value->Shared->Prop} {s:Shared} {pos:Pos} {ts:List (Bool×Sem Value)} {Q:Value->Shared->Prop},ts.any (·.1)=false->wpAny M Ar (evalArgs v true ts []) (λa s₁=>wpAny M Ar (call v ([]++a.pos) a.kw) Q E s₁) E s->wpAny M Ar (callWith pos v [] ts []) Q E s
 f:List PV->Option PV
 ok:∀{Z:Fr} {s:Shared} {ps:List PV} {vs:List Value} {r:PV},Bs Z s->Z.af s.heap ps vs->f ps=some r->aY Z s r (call v vs)
def rN(p:PV):Bool:=PV.casesOn (motive_1:=λ_=>Bool) p true (λ_=>true) (λ_=>true) (λ_=>true) (λ_=>true) (λ_=>false) (λ_=>false) (λ_ _=>false) λ_=>true
section
variable{sc:SC}{Z:Fr}{σ:List Slot}{ws:Nat->Option Value}{s s':Shared}{Q:Value->Shared->Prop}{E:Value->Shared->Prop}{α β:Type}{p q r:PV}{v w:Value}{xs ps:List PV}{vs:List Value}
theorem uA{h:Heap}{B B':Addr->Prop}(e:rN p=true)(x:Internal.Rep h B p v):Internal.Rep h B' p v:=by cases p<;>first|exact x|exact nomatch e
def SE.bi(b:BN)(as:List (SE sc))(p1 p:Pos)(hg:aC sc b.x=true):SE sc:=⟨.Call (.Name b.x p1) (exprs as) [] p,λΦ σ=>(ig Φ σ as).bind b.f,⟨λ_ _=>rfl,λop=>by cases op<;>rfl,λ_ _=>rfl⟩,
 λV e Q E q=>aa e λps e1 e=>wpAny_Call_NameR (fm V hg b.hx b.hb (b.cw (cg as) (args_call (eH V e1 λvs s₁ x₁ aj rl=>(b.ok aj.toBs rl e).go x₁ q))))⟩
noncomputable def SE.H6(b:BN)(a:SX sc)(p1 p:Pos)(hg:aC sc b.x=true)(hs:∀ps r,b.f ps=some r->rN r=true):SE sc:=⟨.Call (.Name b.x p1) [a.e] [] p,λΦ σ=>(a.ev Φ σ).bind λp=>b.f [p],⟨λ_ _=>rfl,λop=>by cases op<;>rfl,λ_ _=>rfl⟩,
 λ{Z σ ws s r} V e Q E q=>aa e λp1 e1 e=>wpAny_Call_NameR (fm V hg b.hx b.hb (by
  rw[show starEach [a.e] Z.env=[(false,eval a.e Z.env)]from a.pl.st _ _]
  exact b.cw rfl (Calls.evalArgs_plain (Calls.spliced_cons (a.go V e1 λv s₁ x₁ aj r₁=>Calls.spliced_nil ((b.ok (Z:=Z.weak) aj.toBs.weak (af.cons r₁ af.nil) e).go x₁ λv s' st rr=>q v s' st (uA (hs _ _ e) rr)))))))⟩
def arg1(g:PV->Option PV)(ps:List PV):Option PV:=List.casesOn ps none λp r=>List.casesOn r (g p) λ_ _=>none
def arg2(g:PV->PV->Option PV)(ps:List PV):Option PV:=List.casesOn ps none λp r=>List.casesOn r none λq r=>List.casesOn r (g p q) λ_ _=>none
theorem KW{g:PV->Option PV}{M:List Value->Prop}(rl:Z.af s.heap ps vs)(e:arg1 g ps=some r)(k:∀p v,g p=some r->Z.Rep s.heap p v->M [v]):M vs:=by
 cases ps with
 |nil=>exact no e
 |cons p ps=>cases ps with
  |cons q ps=>exact no e
  |nil=>obtain⟨v,_,rfl,a,rfl⟩:=rl;exact k p v e a
theorem R5{g:PV->PV->Option PV}{M:List Value->Prop}(rl:Z.af s.heap ps vs)(e:arg2 g ps=some r)(k:∀p q v w,g p q=some r->Z.Rep s.heap p v->Z.Rep s.heap q w->M [v,w]):M vs:=by
 cases ps with
 |nil=>exact no e
 |cons p ps=>cases ps with
  |nil=>exact no e
  |cons q ps=>cases ps with
   |cons q ps=>exact no e
   |nil=>obtain⟨v,_,rfl,a,w,_,rfl,b,rfl⟩:=rl;exact k p q v w e a b
theorem Bs.at(V:Bs Z s){h':Heap}{tk:Nat}(x:Ext s.heap h')(r:Z.Rep h' p v)(h:∀v s',aJ Z.X Z.X.V s s'->Z.Rep s'.heap p v->Q v s'):Q v {s with heap:=h',toks:=tk}:=h _ _ (V.ext x) r
noncomputable def lenOf(p:PV):Option Nat:=PV.casesOn (motive_1:=λ_=>Option Nat) p none (λ_=>none) (λ_=>none) (λ_=>none) (λx=>some x.length) (λxs=>some xs.length) (λxs=>some xs.length) (λ_ _=>none) λ_=>none
theorem fits63{n:Nat}(h:fits n=true):(n:Int)<2^63:=Int.lt_of_le_of_lt (Int.ofNat_le.mpr (aQ h)) (by decide)
theorem xS{n:Nat}(h:fits n=true):¬(n:Int)>=2^63:=Int.not_le.mpr (fits63 h)
theorem Ku(V:Bs Z s)(rp:Z.Rep s.heap p v){n:Nat}(e:lenOf p=some n)(c:fits n=true):aY Z s (.int n) (call (.builtin "len") [v]):=λQ E h=>by
 cases p with
 |str x=>obtain⟨t,rfl⟩:=rp;obtain rfl:=aq e;exact PySem.P.len_str (xS c) (V.int h)
 |tup xs=>
  obtain rfl:=aq e
  exact Internal.Rep.j5 rp (M:=λv=>wpAny Z.X.M Z.Ar (call (.builtin "len") [v]) Q E s) λa n vs _ g r=>PySem.P.len_tuple (items:=vs.toArray) (n:=n) g (Fr.af.size r▸xS c) (Fr.af.size r▸V.int h)
 |lst xs=>
  obtain rfl:=aq e
  exact Internal.Rep.lU rp (M:=λv=>wpAny Z.X.M Z.Ar (call (.builtin "len") [v]) Q E s) λa n vs _ g r=>PySem.Calls.call_len_list (lst_is g) (Fr.af.size r▸fits63 c) (Fr.af.size r▸V.int h)
 |_=>exact no e
def jX:BN:=⟨"len",.builtin "len",by decide+kernel,by decide+kernel,Calls.callWith_builtin,arg1 λp=>(lenOf p).bind λn=>bif fits n then some (.int n)else none,
 λ{Z s ps vs r} V rl e=>KW rl e (M:=λvs=>aY Z s r (call (.builtin "len") vs)) λp v e rp=>aa e λn e1 e=>iI e (M:=λr=>aY Z s r (call (.builtin "len") [v])) λc=>Ku V rp e1 c⟩
theorem Oa{g:PV->Option PV}(e:arg1 g ps=some r)(k:∀p,g p=some r->rN r=true):rN r=true:=by
 cases ps with
 |nil=>exact no e
 |cons p ps=>cases ps with
  |cons q ps=>exact no e
  |nil=>exact k p e
theorem iX(ps:List PV)(r:PV)(e:jX.f ps=some r):rN r=true:=Oa e λp e=>aa e λn _ e=>iI e (M:=λr=>rN r=true) λ_=>rfl
def QD(a:Int):Int:=if a<0 then-a else a
def Jq:BN:=⟨"abs",.builtin "abs",by decide+kernel,by decide+kernel,Calls.callWith_builtin,arg1 λp=>p.int?.map λa=>.int (QD a),
 λ{Z s ps vs r} V rl e=>KW rl e (M:=λvs=>aY Z s r (call (.builtin "abs") vs)) λp v e rp=>aE e λa e1 e=>by
  obtain⟨t,rfl⟩:=cQ.rd rp e1
  subst e
  exactλQ E h=>call_abs_int λu tk=>V.int h⟩
def truncF(x:UInt64):Option Int:=Float64.Num.casesOn (motive:=λ_=>Option Int) (Float64.decode x) none (λ_=>none) λa m e=>some (Float64.truncOf a m e)
theorem Ae{x:UInt64}{i:Int}(e:truncF x=some i){P:Prop}(k:∀a m e,Float64.decode x=.fin a m e->i=Float64.truncOf a m e->P):P:=by
 unfold truncF at e
 cases d:Float64.decode x with
 |fin a m e'=>rw[d]at e;exact k a m e' d (aq e).symm
 |_=>rw[d]at e;exact no e
def NJ:BN:=⟨"int",.type "int",by decide+kernel,by decide+kernel,PySem.callWith_type,arg1 λp=>p.B0.bind λa=>(truncF a).map .int,
 λ{Z s ps vs r} V rl e=>KW rl e (M:=λvs=>aY Z s r (call (.type "int") vs)) λp v e rp=>aa e λa e1 e=>aE e λi e2 e=>by
  obtain⟨t,rfl⟩:=kh.rd rp e1
  exact Ae e2 λa m x hd hi=>by subst e hi;exactλQ E h=>call_int_float hd (V.int h)⟩
def DM(A:Sc α)(ps:List PV):Option (List α):=List.rec (some []) (λp _ ih=>(A.d p).bind λa=>ih.map (a::·)) ps
noncomputable def jD(A:Sc α):List α->List Value->Prop
 | [],vs=>vs=[]
 |a::as,vs=>∃t r,vs=A.ve a t::r/\jD A as r
theorem wU(A:Sc α){h:Heap}{B:Addr->Prop}:∀{ps vs as},Internal.af h B ps vs->DM A ps=some as->jD A as vs:=by
 intro w
 induction w with
 |nil=>intro _ _ rl e;exact aq e▸rl
 |cons p ps ih=>
  intro _ as rl e
  exact aa e λa e1 e=>aE e λl e2 e=>by
   obtain⟨v,vs,rfl,r1,r2⟩:=rl
   obtain⟨t,rfl⟩:=A.rd r1 e1
   subst e
   exact⟨t,vs,rfl,ih r2 e2⟩
theorem jD.get{A:Sc α}:∀{as vs} {i:Nat} {v:Value},jD A as vs->vs[i]?=some v->∃a t,as[i]?=some a/\v=A.ve a t:=by
 intro w
 induction w with
 |nil=>intro _ _ _ r e;obtain rfl:_=[]:=r;exact no e
 |cons a _ ih=>
  intro _ v
  cases v with
  |zero=>intro _ r e;obtain⟨t,r,rfl,_⟩:=r;exact⟨a,t,rfl,(aq e).symm⟩
  |succ i=>intro _ r e;obtain⟨t,r,rfl,h⟩:=r;exact ih h e
theorem jD.len{A:Sc α}:∀{as vs},jD A as vs->vs.length=as.length:=by
 intro w
 induction w with
 |nil=>intro _ r;obtain rfl:_=[]:=r;rfl
 |cons _ _ ih=>intro _ r;obtain⟨t,r,rfl,h⟩:=r;exact congrArg (·+1) (ih h)
noncomputable def aF(gt:α->α->Bool)(m:α):List α->α
 | []=>m
 |x::r=>aF gt (bif gt x m then x else m) r
theorem jh(gt:α->α->Bool):∀(r:List α) (m x:α),aF gt m (r++[x])=bif gt x (aF gt m r)then x else aF gt m r
 | [],m,x=>rfl
 |y::r,m,x=>jh gt r _ x
theorem uV(gt:α->α->Bool)(m:α)(r:List α):∀n,n<=r.length->(m::r).getD (argBest (λi j=>gt ((m::r).getD i m) ((m::r).getD j m)) n) m=aF gt m (r.take n):=by
 intro w
 induction w with
 |zero=>intros;exact rfl
 |succ n ih=>
  intro hn
  have ih:=ih (Nat.le_of_succ_le hn)
  have h2:r[n]?=some ((m::r).getD (n+1) m):=by
   rw[List.getD_cons_succ,List.getD_eq_getElem?_getD,List.getElem?_eq_getElem hn];rfl
  rw[List.take_add_one,h2,Option.toList_some,jh,<-ih]
  show(m::r).getD (if gt _ _=true then n+1 else _) m=_
  cases gt ((m::r).getD (n+1) m) ((m::r).getD (argBest (λi j=>gt ((m::r).getD i m) ((m::r).getD j m)) n) m)<;>rfl
structure Ord(α:Type)where
 A:Sc α
 gt:α->α->Bool
 op:CmpOp
 ok:∀(P:Program) (w:World) (Ar:Around) (s:Shared) (a b:α) (t u:Tok) (Q:Value->Shared->Prop) (E:Value->Shared->Prop),Q (.bool (gt a b)) s->wpAny (model P w) Ar (richCompare op (A.ve a t) (A.ve b u)) Q E s
def qa(X:Cx)(Ar:Around)(op:CmpOp)(vs:List Value)(v:Value->Prop):Prop:=∃bt:Nat->Nat->Bool,0<vs.toArray.size/\CmpOf X.prog X.w Ar op (λi v=>vs.toArray[i]?=some v) bt/\∀u,vs.toArray[argBest bt (vs.toArray.size-1)]?=some u->v u
theorem uZ(O:Ord α){X:Cx}{Ar:Around}{m:α}{ns:List α}(r:jD O.A (m::ns) vs):qa X Ar O.op vs λu=>∃t,u=O.A.ve (aF O.gt m ns) t:=by
 have at':∀i v,vs.toArray[i]?=some v->∃t,v=O.A.ve ((m::ns).getD i m) t:=λi v h=>by
  obtain⟨a,t,h1,h2⟩:=r.get (i:=i) (by simpa using h)
  rw[List.getD_eq_getElem?_getD,h1]
  exact⟨t,h2⟩
 refine⟨λi j=>O.gt ((m::ns).getD i m) ((m::ns).getD j m),by rw[List.size_toArray,r.len];exact Nat.succ_pos _,λi j vi vj s' Q E hi hj hQ=>?_,λv hv=>?_⟩
 ·obtain⟨t,rfl⟩:=at' i vi hi
  obtain⟨u,rfl⟩:=at' j vj hj
  exact O.ok _ _ _ _ _ _ _ _ _ _ hQ
 ·rw[List.size_toArray,r.len]at hv
  have:=at' _ _ hv
  rw[show(m::ns).length-1=ns.length from rfl,uV O.gt m ns ns.length (Nat.le_refl _),List.take_length]at this
  exact this
def Ck:Ord Int:=⟨cQ,λa b=>decide (a>b),.Gt,λ_ _ _ _ _ _ _ _ _ _ h=>PySem.P.gt_int h⟩
def Nn:Ord UInt64:=⟨kh,λa b=>Float64.cmp a b==some .gt,.Gt,λ_ _ _ _ _ _ _ _ _ _ h=>AutoFloatOps.gt_0 h⟩
def NW:Ord UInt64:=⟨kh,λa b=>Float64.cmp a b==some .lt,.Lt,λ_ _ _ _ _ _ _ _ _ _ h=>AutoFloatOps.lt_0 h⟩
def bestOf(O:Ord α)(ps:List PV):Option PV:=(DM O.A ps).bind λl=>List.casesOn l none λm ns=>some (O.A.pv (aF O.gt m ns))
noncomputable abbrev xh (X:Cx) (Ar:Around) (op:CmpOp) (Q:Value->Shared->Prop) (it:Value) (s₂:Shared):Prop:=
 ∃I fp wr n P St bt,it=.ref I/\Walks X.prog X.w Ar I fp wr n P St/\St 0 s₂.heap/\(∀b∈fp,b<s₂.heap.objs.size)/\0<n/\CmpOf X.prog X.w Ar op P bt/\
   ∀v h' tk,P (argBest bt (n-1)) v->(∀b o,b∉wr->s₂.heap.get? b=some o->h'.get? b=some o)->Q v {s₂ with heap:=h',toks:=tk}
theorem iQ(O:Ord α)(V:Bs Z s)(rl:Z.af s.heap ps vs)(e:bestOf O ps=some r){P:Prop}(k:∀u:Value->Prop,(∀v h' tk,u v->Ext s.heap h'->(∀v s',aJ Z.X Z.X.V s s'->Z.Rep s'.heap r v->Q v s')->Q v {s with heap:=h',toks:=tk})->qa Z.X Z.Ar.in1 O.op vs u->P):P:=
 aa e λl e1 e=>by
  cases l with
  |nil=>exact no e
  |cons m ns=>
   obtain rfl:=aq e
   exact k _ (λv h' tk hv x q=>by obtain⟨t,rfl⟩:=hv;exact V.at x O.A.rp q) (uZ O (wU O.A rl e1))
theorem GP{h h':Heap}(k:∀b o,b∉[h.objs.size]->h.get? b=some o->h'.get? b=some o):Ext h h':=λb o e=>k b o (λm=>absurd (fG m) (Nat.ne_of_lt (Heap.lt_size e))) e
theorem sr{op:CmpOp}{u:Value->Prop}{a:Addr}{n:Nat}(V:Bs Z s)(g:s.heap.get? a=some (aU vs n))(b:qa Z.X Z.Ar.in1 op vs u)(h:∀v h' tk,u v->Ext s.heap h'->Q v {s with heap:=h',toks:=tk}):wpAny Z.X.M Z.Ar.in1 (pyIter (.ref a)) (xh Z.X Z.Ar.in1 op Q) E s:=by
 obtain⟨bt,h1,h2,h3⟩:=b
 have hl:=Heap.lt_size g
 refine wpAny_pyIter_list (lst_is g) ⟨_,_,_,_,_,_,bt,rfl,Walks.list (A:=Z.Ar.in1) V.R.hh s.heap.objs.size a (Nat.ne_of_lt hl) vs.toArray,⟨⟨_,Heap.get?_push_size _ rfl,rfl,rfl⟩,(lst_is g).push _⟩,λb hb=>?_,h1,h2,λv h' tk hp hk=>h v h' tk (h3 v hp) (GP λb o m e=>hk b o m (Heap.get?_push_of_some _ e))⟩
 show b<(s.heap.push _).objs.size
 rw[Heap.size_push]
 exact(eX hb).elim (λq=>q▸Nat.lt_succ_self _) λq=>fG q▸Nat.lt_succ_of_lt hl
theorem jG{op:CmpOp}{u:Value->Prop}(V:Bs Z s)(b:qa Z.X Z.Ar.in1 op vs u)(h:∀v h' tk,u v->Ext s.heap h'->Q v {s with heap:=h',toks:=tk}):wpAny Z.X.M Z.Ar.in1 (pyIter (.ref s.heap.objs.size)) (xh Z.X Z.Ar.in1 op Q) E {s with heap:=s.heap.push {cls:=.type "tuple",data:=.seq vs.toArray}}:=by
 obtain⟨bt,h1,h2,h3⟩:=b
 have g:(s.heap.push {cls:=.type "tuple",data:=.seq vs.toArray}).get? s.heap.objs.size=some (ic vs 0):=Heap.get?_push_size _ rfl
 have hl:=Heap.lt_size g
 refine wpAny_pyIter_tuple (tup_is g) ⟨_,_,_,_,_,_,bt,rfl,Walks.tuple (A:=Z.Ar.in1) V.R.hh _ s.heap.objs.size (Nat.ne_of_lt hl) vs.toArray,⟨⟨_,Heap.get?_push_size _ rfl,rfl,rfl⟩,(tup_is g).push _⟩,λb hb=>?_,h1,h2,λv h' tk hp hk=>h v h' tk (h3 v hp) λb o e=>hk b o (λm=>?_) (Heap.get?_push_of_some _ (Heap.get?_push_of_some _ e))⟩
 ·show b<((s.heap.push _).push _).objs.size
  rw[Heap.size_push]
  exact(eX hb).elim (λq=>q▸Nat.lt_succ_self _) λq=>fG q▸Nat.lt_succ_of_lt hl
 ·exact absurd (fG m) (Nat.ne_of_lt (Heap.lt_size (Heap.get?_push_of_some _ e)))
def NY:BN:=⟨"max",.builtin "max",by decide+kernel,by decide+kernel,Calls.callWith_builtin,arg1 λp=>p.gw.bind (bestOf Ck),
 λ{Z s ps vs r} V rl e=>KW rl e (M:=λvs=>aY Z s r (call (.builtin "max") vs)) λp v e rp=>aa e λxs e1 e=>rp.lst e1 (M:=λv=>aY Z s r (call (.builtin "max") [v])) λa n vs _ g rl Q E h=>
  iQ Ck V rl e λu k b=>call_max_walk (sr V g b λv h' tk hu x=>k v h' tk hu x h)⟩
def max2:BN:=⟨"max",.builtin "max",by decide+kernel,by decide+kernel,Calls.callWith_builtin,λps=>(arg2 (λ_ _=>some .none) ps).bind λ_=>bestOf Ck ps,
 λ{Z s ps vs r} V rl e=>aa e λ_ e0 e=>R5 rl e0 (M:=λvs=>Z.af s.heap ps vs->aY Z s r (call (.builtin "max") vs)) (λp q v w _ _ _ rl Q E h=>iQ Ck V rl e λu k b=>call_max_two (jG V b λv h' tk hu x=>k v h' tk hu x h)) rl⟩
noncomputable def three(ps:List PV):Option PV:=List.casesOn ps none λ_ r=>List.casesOn r none λ_ r=>List.casesOn r none λ_ r=>List.casesOn r (some .none) λ_ _=>none
theorem T6{vs:List Value}(rl:Z.af s.heap ps vs)(h:three ps=some r){M:List Value->Prop}(k:∀a b c,M [a,b,c]):M vs:=by
 cases ps with
 |nil=>exact no h
 |cons p ps=>cases ps with
  |nil=>exact no h
  |cons q ps=>cases ps with
   |nil=>exact no h
   |cons q ps=>cases ps with
    |cons q ps=>exact no h
    |nil=>obtain⟨v,_,rfl,_,w,_,rfl,_,u,_,rfl,_,rfl⟩:=rl;exact k v w u
def mZ(O:Ord α)(ps:List PV):Option PV:=(three ps).bind λ_=>bestOf O ps
end
end
section
open PySem.SeqAt PySem.Builtin.Str
section
variable{sc:SC}{Z:Fr}{σ:List Slot}{ws:Nat->Option Value}{s s':Shared}{Q:Value->Shared->Prop}{E:Value->Shared->Prop}{p q r:PV}{v w:Value}{xs ps:List PV}{vs:List Value}
theorem ints_of:∀{ns:List Int} {vs:List Value},jD cQ ns vs->∃xs:List (Int×Tok),vs=xs.map (λp=>.int p.1 p.2)/\xs.map (·.1)=ns:=by
 intro w
 induction w with
 |nil=>intro _ r;obtain rfl:_=[]:=r;exact⟨[],rfl,rfl⟩
 |cons n ns ih=>
  intro _ r
  obtain⟨t,r,rfl,h⟩:=r
  obtain⟨xs,e1,e2⟩:=ih h
  exact⟨(n,t)::xs,by rw[e1];rfl,by rw[<-e2];rfl⟩
theorem ints_rep{h:Heap}{B:Addr->Prop}{ns:List Int}{vs:List Value}(x:IntsAre vs ns):Internal.af h B (ns.map .int) vs:=by
 induction x with
 |nil=>exact af.nil
 |cons n t r ih=>exact af.cons Rep.mkInt ih
def Sk:BN:=⟨"sum",.builtin "sum",by decide+kernel,by decide+kernel,Calls.callWith_builtin,arg1 λp=>p.gw.bind λxs=>(DM cQ xs).map λns=>.int ns.sum,
 λ{Z s ps vs r} V rl e=>KW rl e (M:=λvs=>aY Z s r (call (.builtin "sum") vs)) λp v e rp=>aa e λxs e1 e=>aE e λns e2 e=>rp.lst e1 (M:=λv=>aY Z s r (call (.builtin "sum") [v])) λa n vs _ g rl Q E h=>by
  obtain⟨is,e3,e4⟩:=ints_of (wU cQ rl e2)
  subst e3 e4 e
  refine sum_intListG (xs:=is.toArray) V.R.hh (l:=a) ?_ λh' tk t' hk=>?_
  ·have:=lst_is g
   simpa [intItems]using this
  ·rw[show preSum (numAt is.toArray) is.toArray.size=(is.map (·.1)).sum by rw[preSum_eq,List.take_of_length_le (by simp)]]
   exact V.at hk Rep.mkInt h⟩
def Q0:BN:=⟨"divmod",.builtin "divmod",by decide+kernel,by decide+kernel,Calls.callWith_builtin,arg2 λp q=>p.int?.bind λa=>q.int?.bind λb=>bif nz b&&sm b then some (.tup [.int (Int.fdiv a b),.int (Int.fmod a b)])else none,
 λ{Z s ps vs r} V rl e=>R5 rl e (M:=λvs=>aY Z s r (call (.builtin "divmod") vs)) λp q v w e rp rq=>aa e λa e1 e=>aa e λb e2 e=>iI e (M:=λr=>aY Z s r (call (.builtin "divmod") [v,w])) λc Q E h=>by
  obtain⟨t,rfl⟩:=cQ.rd rp e1
  obtain⟨u,rfl⟩:=cQ.rd rq e2
  exact PyProof.Rows.divmod_int (Dk (both c).1) (V.tup (tk:=s.toks+1+1) (vs:=[.int _ s.toks,.int _ (s.toks+1)]) (af.cons Rep.mkInt (af.cons Rep.mkInt af.nil)) h) (.inl (PyProof.noPylong_of_log2 (Nat.lt_trans (yw (pV (both c).2)) (by decide))))⟩
structure MN where
 x:Str
 T:String
 id:String
 pa:PlainAttrs T
 sl:PySem.Slot T x id
 ty:typeOf (.builtin id)=pure (.type "method_descriptor")
 f:PV->List PV->Option PV
 on:∀{Z:Fr} {s:Shared} {p:PV} {ps:List PV} {v:Value} {r:PV},Bs Z s->Z.Rep s.heap p v->f p ps=some r->s.TypeIs v T/\∀l,v=.ref l->∃ob,s.heap.get? l=some ob/\ob.dict=none
 ok:∀{Z:Fr} {s:Shared} {p:PV} {ps:List PV} {v:Value} {vs:List Value} {r:PV},Bs Z s->Z.Rep s.heap p v->Z.af s.heap ps vs->f p ps=some r->aY Z s r (call (.builtin id) (v::vs))
 sc:∀p ps r,f p ps=some r->rN r=true
noncomputable def Nf(Φ:bO)(σ:List Slot):List (SX sc)->Option (List PV)
 | []=>some []
 |x::r=>(x.ev Φ σ).bind λp=>(Nf Φ σ r).map (p::·)
noncomputable def jg(as:List (SX sc)):List Expr:=as.map SX.e
theorem JS{pos:Pos}{Q:List Value->Shared->Prop}:∀{as:List (SX sc)} {s:Shared} {ps:List PV},Ev Z sc σ ws s->Nf Z.Φ σ as=some ps->(∀vs s',aJ Z.X Z.X.V s s'->Ev Z sc σ ws s'->Z.weak.af s'.heap ps vs->Q vs s')->wpAny Z.X.M Z.Ar (spliced (backTo pos (starEach (jg as) Z.env))) Q E s:=by
 intro w
 induction w generalizing Q with
 |nil=>intro _ _ V e q;exact wpAny_pure (q [] _ .refl V (aq e▸af.nil))
 |cons a as ih=>intro _ _ V e q;exact aa e λp e1 e=>aE e λps e2 e=>wpAny_items_cons (a.go V e1 λv s₁ x₁ aj r₁=>ih aj e2 λvs s₂ x₂ aD rl=>q _ s₂ (x₁.trans x₂) aD (e▸af.cons (r₁.stp (Z:=Z.weak) (λ_ h=>h) x₂) rl)) (a.pl.st _ _)
def SE.KA(m:MN)(o:SX sc)(as:List (SX sc))(p1 p:Pos)(hs:∀x env t,attributeBase o.e x env t=t)(hl:(p1.endLine==p.line)=true)(hz:Nat.ble as.length 1=true):SE sc:=
 ⟨.Call (.Attribute o.e m.x p1) (jg as) [] p,λΦ σ=>(o.ev Φ σ).bind λv=>(Nf Φ σ as).bind (m.f v),⟨λ_ _=>rfl,λop=>by cases op<;>rfl,λ_ _=>rfl⟩,
 λ{Z σ ws s r} V e Q E q=>aa e λa e1 e=>aa e λps e2 e=>by
  have np:(backTo p (starEach (jg as) Z.env)).any (·.1)=false/\(((backTo p (starEach (jg as) Z.env)).all (λx=>!x.1)&&(backToKw p (keywordEach [] Z.env)).all (λx=>x.1.isSome)&&decide ((jg as).length+([]:List Keyword).length+(if([]:List Keyword).isEmpty then 0 else 1)<30))=true):=by
   cases as with
   |nil=>exact⟨rfl,rfl⟩
   |cons a as=>cases as with
    |nil=>
     show(backTo p (starEach [a.e] Z.env)).any (·.1)=false/\((backTo p (starEach [a.e] Z.env)).all (λx=>!x.1)&&_&&_)=true
     rw[a.pl.st]
     exact⟨rfl,rfl⟩
    |cons b as=>exact nomatch hz
  have ac:∀{s:Shared} {Q:Args->Shared->Prop},wpAny Z.X.M Z.Ar (spliced (backTo p (starEach (jg as) Z.env))) (λvs s'=>Q ⟨vs,[]⟩ s') E s->wpAny Z.X.M Z.Ar (evalArgs (.builtin m.id) true (backTo p (starEach (jg as) Z.env)) []) Q E s:=by
   intro s Q h
   cases as with
   |nil=>exact h
   |cons a as=>
    have e:backTo p (starEach (jg (a::as)) Z.env)=(false,eval a.e Z.env)::backTo p (starEach (jg as) Z.env):=congrArg (backTo p) (a.pl.st Z.env (jg as))
    rw[e]at h⊢
    exact Calls.evalArgs_plain h
  refine wpAny_Call_method_lateS (hs _ _ _) np.2 hl (o.go V e1 λv s₁ x₁ aj r₁=>?_)
  have on:=m.on (Z:=Z.weak) aj.toBs.weak r₁ e
  exact⟨m.T,m.id,m.pa,m.sl,m.ty,on.1,on.2,Calls.callWith_builtin np.1 (ac (JS aj e2 λvs s₂ x₂ aD rl=>(m.ok (Z:=Z.weak) aD.toBs.weak (r₁.stp (Z:=Z.weak) (λ_ h=>h) x₂) rl e).go (x₁.trans x₂) λv s' st rr=>q v s' st (uA (m.sc _ _ _ e) rr)))⟩⟩
end
end
section
open PySem.SeqAt PySem.Builtin.Str
section
variable{Z:Fr}{s:Shared}{p q r:PV}{v w:Value}{xs ps:List PV}{vs:List Value}
def Jy:MN:=⟨"bit_length","int","int.bit_length",F.plainAttrs_int,F.slot_int_bit_length,F.type_int_bit_length,
 λp ps=>List.casesOn ps (p.int?.map λa=>.int (Builtin.Int.intBits a)) λ_ _=>none,
 λ{Z s p ps v r} V rp e=>by
  cases ps with
  |cons a b=>exact no e
  |nil=>exact aE e λa e1 _=>by obtain⟨t,rfl⟩:=cQ.rd rp e1;exact⟨typeIs_int _ _ _,λ_ q=>nomatch q⟩,
 λ{Z s p ps v vs r} V rp rl e=>by
  cases ps with
  |cons a b=>exact no e
  |nil=>
   obtain rfl:vs=[]:=rl
   refine aE e λa e1 e=>?_
   obtain⟨t,rfl⟩:=cQ.rd rp e1
   subst e
   exactλQ E h=>PyProof.Rows.call_int_bit_length (V.int h),
 λp ps r e=>by
  cases ps with
  |cons a b=>exact no e
  |nil=>exact aE e λa e1 e=>e▸rfl⟩
theorem Hl:∀{ss:List Str} {vs:List Value},jD rZ ss vs->∃l:List (Str×Tok),vs=strValues l/\l.map (·.1)=ss:=by
 intro w
 induction w with
 |nil=>intro _ r;obtain rfl:_=[]:=r;exact⟨[],rfl,rfl⟩
 |cons n ns ih=>
  intro _ r
  obtain⟨t,r,rfl,h⟩:=r
  obtain⟨xs,e1,e2⟩:=ih h
  exact⟨(n,t)::xs,by rw[e1];rfl,by rw[<-e2];rfl⟩
def Bf(ss:List Str):Str:=⟨(ss.flatMap (·.cps.toList)).toArray⟩
theorem Gs(sep:Str)(h:sep.length=0):∀ss:List Str,Txt.join sep ss=Bf ss:=by
 intro ss
 show glued sep ss=_
 rw[StrLaws.glued_eq_join]
 have hs:sep.cps=#[]:=Array.eq_empty_of_size_eq_zero h
 induction ss with
 |nil=>rfl
 |cons x r ih=>
  cases r with
  |nil=>obtain⟨⟨c⟩⟩:=x;simp[Str.join,Bf]
  |cons y r=>
   show x++sep++Str.join sep (y::r)=_
   rw[ih]
   obtain⟨⟨c⟩⟩:=x
   obtain⟨sc⟩:=sep
   simp only at hs
   subst hs
   show Str.mk ((⟨c⟩++#[])++_)=_
   simp[Bf]
def rU(ss:List Str):Nat:=(ss.map (·.length)).sum
theorem ue{sep:Str}{ss:List Str}(h0:sep.length=0)(h:fits (rU ss)=true):tooLong (ss.toArray.foldl (·+·.length+sep.length) 0)=false:=by
 rw[StrLaws.joinTotal,h0]
 have h2:(ss.map (·.length)).sum<=1000000:=aQ h
 unfold tooLong
 exact eE (by simp only[sizeLine];lia)
def joinM:MN:=⟨"join","str","str.join",F.plainAttrs_str,F.slot_str_join,F.type_str_join,
 λp ps=>p.wY.bind λsep=>bif Nat.beq sep.length 0 then arg1 (λq=>q.gw.bind λxs=>(DM rZ xs).bind λss=>bif fits (rU ss)then some (.str (Bf ss))else none) ps else none,
 λ{Z s p ps v r} V rp e=>aa e λxs e1 _=>by obtain⟨t,rfl⟩:=rZ.rd rp e1;exact⟨typeIs_str _ _ _,λ_ q=>nomatch q⟩,
 λ{Z s p ps v vs r} V rp rl e=>aa e λsep e1 e=>by
  obtain⟨t,rfl⟩:=rZ.rd rp e1
  cases h0:Nat.beq sep.length 0 with
  |false=>rw[h0]at e;exact no e
  |true=>
   rw[h0]at e
   have h0:=Nat.eq_of_beq_eq_true h0
   exact KW rl e (M:=λvs=>aY Z s r (call (.builtin "str.join") (.str sep t::vs))) λq w e rq=>aa e λxs e2 e=>aa e λss e3 e=>iI e (M:=λr=>aY Z s r (call (.builtin "str.join") [.str sep t,w])) λc=>
    rq.lst e2 (M:=λw=>aY Z s _ (call (.builtin "str.join") [.str sep t,w])) λa n us _ g ru Q E h=>by
     obtain⟨l,rfl,e4⟩:=Hl (wU rZ ru e3)
     subst e4
     have hok:=ue h0 c
     rw[<-Gs sep h0]at h
     exact call_meets F.slot_str_join (typeIs_str _ _ _) F.entry_str_join (F.args_str_join_2 _ _) (meets_str_join_list sep t a l hok) ⟨lst_is g,post_join l ⟨joinFit_length hok,λt' k=>V.str h⟩⟩,
 λp ps r e=>aa e λsep _ e=>by
  cases h0:Nat.beq sep.length 0 with
  |false=>rw[h0]at e;exact no e
  |true=>rw[h0]at e;exact Oa e λq e=>aa e λxs _ e=>aa e λss _ e=>iI e (M:=λr=>rN r=true) λ_=>rfl⟩
end
end
def Fr.K(Z:Fr)(a:Addr):Prop:=Z.X.V a/\¬Z.U a
noncomputable def DU(ws:Nat->Option Value)(i:Nat)(v:Value)(j:Nat):Option Value:=if j=i then some v else ws j
theorem ou{ws:Nat->Option Value}{i:Nat}{v:Value}:DU ws i v i=some v:=if_pos rfl
theorem lE{ws:Nat->Option Value}{i j:Nat}{v:Value}(h:j≠i):DU ws i v j=ws j:=if_neg h
noncomputable def kX(sc:SC)(i:Nat)(x:Str):Bool:=sc.Γ[i]?==some x&&(sc.N.lookup x==some .local||sc.N.lookup x==some .cell)
section
variable{sc:SC}{Z:Fr}{σ:List Slot}{ws:Nat->Option Value}{s s':Shared}{E:Value->Shared->Prop}{h h':Heap}{o:Option Value}{t:Slot}{l:Loc}
theorem lN.move(r:lN Z h o t)(hB:∀a ob,Z.B a->h.get? a=some ob->h'.get? a=some ob)(hL:∀a vs n,Z.X.N<=a->h.get? a=some (aU vs n)->h'.get? a=some (aU vs n)):lN Z h' o t:=by
 cases t with
 |unset=>trivial
 |val p=>exact r.imp λv q=>⟨q.1,Rep.move q.2 λa ob b e=>⟨b,hB a ob b e⟩⟩
 |own xs=>obtain⟨v,vs,e,⟨a,n,e',c,g⟩,l⟩:=r;exact⟨v,vs,e,⟨a,n,e',c,hL a vs n c g⟩,af.move (λa ob b e=>⟨b,hB a ob b e⟩) l⟩
 |is v=>exact r
theorem At.live{l:Loc}(x:At h o l):∃ob,h.get? l.addr=some ob/\bR ob/\∀vs n,ob≠aU vs n:=by
 cases l with
 |loc=>obtain⟨m,⟨ob,es,ep,q,hd,_⟩,_⟩:=x;exact⟨ob,q,.inr λvs e=>(by rw[hd]at e;cases e),λvs n e=>(by rw[e]at hd;cases hd)⟩
 |cell=>obtain⟨ob,q,hd⟩:=x;exact⟨ob,q,.inr λvs e=>(by rw[hd]at e;cases e),λvs n e=>(by rw[e]at hd;cases hd)⟩
theorem At.rB(x:At h o l){a:Addr}{vs:List Value}{n:Nat}(e:h.get? a=some (aU vs n)):a≠l.addr:=λq=>by
 obtain⟨ob,h1,_,h2⟩:=x.live
 rw[<-q,e]at h1
 exact h2 _ _ (aq h1).symm
theorem KR{a:Addr}{m m':Str->Option Value}(x:h.Ns a m)(y:h.Ns a m')(z:Str):m z=m' z:=by
 obtain⟨ob,es,ep,e,hd,_,hf⟩:=x
 obtain⟨VX,es',UY,e',hd',_,hf'⟩:=y
 rw[e]at e';cases e'
 rw[hd]at hd';cases hd'
 rw[<-hf z,hf' z]
theorem rD{a:Addr}{m:Str->Option Value}(x:h.Ns a m)(y:h.IsCell a o):False:=by
 obtain⟨ob,es,ep,e,hd,_⟩:=x
 obtain⟨VX,e',hd'⟩:=y
 rw[e]at e';cases e'
 rw[hd]at hd';cases hd'
theorem pP(D:Dy Z σ ws s){i:Nat}{v:Value}(hl:Z.ls[i]?=some l)(hw:i<Z.wr)(hx:∀a ob,a≠l.addr->s.heap.get? a=some ob->h'.get? a=some ob)(ha:At h' (some v) l)
  (hk:∀l'∈Z.ls,l'≠l->∀o,At s.heap o l'->At h' o l') (hv:lN Z s.heap (some v) t) (hf:∀xs,t=.own xs->(∀j ys,j≠i->σ[j]?=some (.own ys)->ws j≠some v)/\∀a,v=.ref a->Z.U a) {tk:Nat}:
  aJ Z.X Z.K s {s with heap:=h',toks:=tk}/\Dy Z (σ.set i t) (DU ws i v) {s with heap:=h',toks:=tk}:=by
 have hu:=D.mine i l hw hl
 have old:=D.pl i l hl
 have live:∀a,h'.get? a=none->s.heap.get? a=none:=λa e=>by
  by_cases q:a=l.addr
  ·obtain⟨ob,e',_⟩:=ha.live
   rw[q,e']at e;cases e
  ·cases z:s.heap.get? a with
   |none=>rfl
   |some ob=>rw[hx a ob q z]at e;cases e
 have G:Z.X.G s.heap->Z.X.G h':=λg=>D.K.Gk _ _ (λa=>a=l.addr) g (λa q=>q▸D.turn _ hu) λa ob q e=>hx a ob q e
 have st:aJ Z.X Z.K s {s with heap:=h',toks:=tk}:=⟨λa ob k e=>hx a ob (λq=>k.2 (q▸hu)) e,G,λ_ _ _ e=>e,id,rfl⟩
 have hi:i<σ.length:=D.len▸(jb hl).1
 have nb:∀a ob,Z.B a->s.heap.get? a=some ob->h'.get? a=some ob:=λa ob b e=>hx a ob (λq=>D.eU _ hu (q▸b)) e
 have nl:∀a vs n,Z.X.N<=a->s.heap.get? a=some (aU vs n)->h'.get? a=some (aU vs n):=λa vs n _ e=>hx a _ (old.rB e) e
 refine⟨st,{K:=D.K,R:=D.R,g:=G D.g,fresh:=λa n e=>D.fresh a n (live a e),sub:=D.sub,eU:=D.eU,turn:=λa u=>?_,len:=by rw[List.length_set];exact D.len,pl:=λj l' e=>?_,hi:=D.hi,ok:=λj t' e=>?_,mine:=D.mine,dI:=λj xs a hj e e2=>?_,apart:=D.apart,eV:=⟨D.eV.1,?_⟩,once:=λj k xs ys e1 e2 e3=>?_}⟩
 ·by_cases q:a=l.addr
  ·obtain⟨ob,e',n,_⟩:=ha.live
   exact⟨(D.turn a u).1,ob,q▸e',n⟩
  ·exact⟨(D.turn a u).1,(D.turn a u).2.imp λob e=>⟨hx a ob q e.1,e.2⟩⟩
 ·by_cases q:j=i
  ·rw[q,hl]at e
   rw[q,ou,<-aq e]
   exact ha
  ·rw[lE q]
   exact hk l' (List.mem_of_getElem? e) (λz=>q ((List.getElem?_inj (jb e).1 D.apart).mp (e.trans (z▸hl.symm)))) _ (D.pl j l' e)
 ·by_cases q:j=i
  ·rw[q,List.getElem?_set_self hi]at e
   rw[q,ou,<-aq e]
   exact hv.move nb nl
  ·rw[lE q]
   rw[List.getElem?_set_ne (Ne.symm q)]at e
   exact(D.ok j t' e).move nb nl
 ·by_cases q:j=i
  ·rw[q,List.getElem?_set_self hi]at e
   rw[q,ou]at e2
   exact(hf xs (aq e)).2 a (aq e2)
  ·rw[lE q]at e2
   rw[List.getElem?_set_ne (Ne.symm q)]at e
   exact D.dI j xs a hj e e2
 ·obtain⟨m,hm⟩:=D.eV.2
  by_cases q:Z.env.locals=l.addr
  ·cases l with
   |loc L y=>obtain⟨m',h',_⟩:=ha;exact⟨m',q▸h'⟩
   |cell c=>exact(rD hm ((show Z.env.locals=c from q)▸old)).elim
  ·exact⟨m,hm.at' λo e=>hx _ o q e⟩
 ·by_cases q:j=i
  ·by_cases q':k=i
   ·rw[q,q']
   ·exfalso
    rw[q,List.getElem?_set_self hi]at e1
    rw[List.getElem?_set_ne (Ne.symm q')]at e2
    rw[q,ou,lE q']at e3
    exact(hf xs (aq e1)).1 k ys q' e2 e3.symm
  ·rw[lE q]at e3
   rw[List.getElem?_set_ne (Ne.symm q)]at e1
   by_cases q':k=i
   ·exfalso
    rw[q',List.getElem?_set_self hi]at e2
    rw[q',ou]at e3
    exact(hf ys (aq e2)).1 j xs q e1 e3
   ·rw[lE q']at e3
    rw[List.getElem?_set_ne (Ne.symm q')]at e2
    exact D.once j k xs ys e1 e2 e3
theorem wX(D:Dy Z σ ws s)(EO:bq Z.env sc Z.ls){i:Nat}{x:Str}{v:Value}{Q:Unit->Shared->Prop}(hm:kX sc i x=true)(hw:i<Z.wr)(hv:lN Z s.heap (some v) t)
  (hf:∀xs,t=.own xs->(∀j ys,j≠i->σ[j]?=some (.own ys)->ws j≠some v)/\∀a,v=.ref a->Z.U a) (h:∀s',aJ Z.X Z.K s s'->Dy Z (σ.set i t) (DU ws i v) s'->s'.heap.objs.size=s.heap.objs.size->Q () s'):wpAny Z.X.M Z.Ar (storeName Z.env x v) Q E s:=by
 obtain⟨h1,h2⟩:=both hm
 have h1:=eq_of_beq h1
 have hl:Z.ls[i]?=some (Z.ls[i]'(EO.len▸(jb h1).1)):=List.getElem?_eq_getElem _
 generalize Z.ls[i]'(EO.len▸(jb h1).1)=l at hl
 have kn:∀k,(sc.N.lookup x==some k)=true->Z.env.kindOf x=some k:=λk e=>by rw[<-eq_of_beq e,<-EO.names];rfl
 have pl:=D.pl i l hl
 cases k1:sc.N.lookup x==some NameKind.local with
 |true=>
  obtain rfl:=EO.loc i x l h1 hl (eq_of_beq k1)
  obtain⟨m,hn,hm⟩:=pl
  refine wpAny_storeName_local (kn _ k1) hn (λh' hn' hs'=>?_) (by rw[EO.kind];rfl)
  have q:=pP (h':=h') (tk:=s.toks+1) D hl hw (λa ob n e=>hs'.extBut a ob n e) ⟨_,hn',if_pos rfl⟩ (λl' hl' n o e=>?_) hv hf
  ·exact h _ q.1 q.2 hs'.1
  ·by_cases z:l'.addr=Z.env.locals
   ·cases l' with
    |loc L y=>
     obtain rfl:L=Z.env.locals:=z
     obtain⟨m',g1,g2⟩:=e
     refine⟨_,hn',(if_neg λq=>n (by rw[q])).trans ((KR hn g1 y).trans g2)⟩
    |cell c=>exact(rD hn ((show c=Z.env.locals from z)▸e)).elim
   ·exact e.keep λob eo=>hs'.extBut _ ob z eo
 |false=>
  rw[k1]at h2
  have k2:(sc.N.lookup x==some NameKind.cell)=true:=h2
  obtain⟨c,hc,rfl⟩:=EO.L3 i x l h1 hl (.inl (eq_of_beq k2))
  refine wpAny_storeName_cell EO.kind (kn _ k2) hc pl (λh' hn' hs'=>?_)
  have q:=pP (h':=h') (tk:=s.toks) D hl hw (λa ob n e=>hs'.extBut a ob n e) hn' (λl' hl' n o e=>?_) hv hf
  ·exact h _ q.1 q.2 hs'.1
  ·by_cases z:l'.addr=c
   ·cases l' with
    |loc L y=>obtain⟨m',g1,g2⟩:=e;exact(rD g1 ((show L=c from z)▸pl)).elim
    |cell c'=>exact absurd (congrArg Loc.cell z) n
   ·exact e.keep λob eo=>hs'.extBut _ ob z eo
theorem store(D:Dy Z σ ws s)(EO:bq Z.env sc Z.ls){i:Nat}{x:Str}{v:Value}{Q:Unit->Shared->Prop}(hm:kX sc i x=true)(hw:i<Z.wr)(hv:lN Z s.heap (some v) t)
  (hf:∀xs,t=.own xs->(∀j ys,j≠i->σ[j]?=some (.own ys)->ws j≠some v)/\∀a,v=.ref a->Z.U a) (h:∀s',aJ Z.X Z.K s s'->Dy Z (σ.set i t) (DU ws i v) s'->Q () s'):wpAny Z.X.M Z.Ar (storeName Z.env x v) Q E s:=
 wX D EO hm hw hv hf λs' x D _=>h s' x D
theorem iO(D:Dy Z σ ws s)(EO:bq Z.env sc Z.ls){i:Nat}{x:Str}{v:Value}{p:PV}{Q:Unit->Shared->Prop}(hm:kX sc i x=true)(hw:i<Z.wr)(hv:Z.Rep s.heap p v)(h:∀dH s',aJ Z.X Z.K s s'->Dy Z (σ.set i (.val p)) dH s'->Q () s'):wpAny Z.X.M Z.Ar (storeName Z.env x v) Q E s:=
 store D EO (t:=.val p) hm hw ⟨v,rfl,hv⟩ (λ_ q=>nomatch q) λs'=>h _ s'
theorem Fr.Rep.Aa{p:PV}{v:Value}(r:Z.Rep s.heap p v)(D:Dy Z σ ws s)(x:aJ Z.X Z.K s s'):Z.Rep s'.heap p v:=Internal.Rep.move r λa o b e=>⟨b,x.off a o ⟨D.sub a b,λu=>D.eU a u b⟩ e⟩
theorem Fr.af.Aa{ps:List PV}{vs:List Value}(r:Z.af s.heap ps vs)(D:Dy Z σ ws s)(x:aJ Z.X Z.K s s'):Z.af s'.heap ps vs:=Internal.af.move (λa o b e=>⟨b,x.off a o ⟨D.sub a b,λu=>D.eU a u b⟩ e⟩) r
theorem aJ.toK(x:aJ Z.X Z.X.V s s'):aJ Z.X Z.K s s':=x.weak λ_ k=>k.1
end
abbrev Kept(wr:List Addr)(h h':Heap):Prop:=∀b o,b∉wr->h.get? b=some o->h'.get? b=some o
section
variable{Z:Fr}{K:Addr->Prop}{tp:Bool}{it:Value}{xs:List PV}{W₀:Addr->Prop}{S:(Addr->Prop)->Nat->Shared->Prop}{s s' s₀ s₁:Shared}{Q:Value->Shared->Prop}{E:Value->Shared->Prop}
theorem St.BW{X:Cx}{K:Addr->Prop}{g g':Nat}(x:St X K g s s')(l:g'<=g):St X K g' s s':=x.weak (λ_ _ k _=>k) l
theorem Iter.base(I:Iter Z K tp it xs W₀ S s' s₁)(x:aJ Z.X Z.X.V s s'):Iter Z K tp it xs W₀ S s s₁:=
 ⟨λa w=>x.live (.inl (I.lz _ _ _ I.start a w).1) (I.new a w),I.lz,I.start,I.keep,λW i p t e ht B s₂ Q E h1 h2 st g q=>I.item W i p t e ht B s₂ Q E h1 h2 st g λW' v s3 a1 a2 a3 a4 a5 a6=>q W' v s3 a1 a2 a3 (a4.BW x.size) a5 λQ E h=>a6 Q E λs4 b1 b2=>h s4 (b1.BW x.size) b2,
  λW s₂ Q E st g q=>I.done W s₂ Q E st g λs3 a=>q s3 (a.BW x.size),I.self⟩
theorem eG.after(h:eG Z K tp s xs Q)(x:aJ Z.X Z.X.V s s'):eG Z K tp s' xs Q:=λit W S s₁ y I=>h it W S s₁ (x.trans y) (I.base x)
structure Wk(X:Cx)(Ar:Around)(I:Addr)(fp wr:List Addr)(n:Nat)(tp:Bool)(Val:Nat->Heap->Value->Heap->Prop)(S:Nat->Heap->Prop)(M:Nat->Value->Heap->Prop):Prop where
 frame:∀i h h',S i h->(∀b∈fp,∀o,h.get? b=some o->h'.get? b=some o)->S i h'
 item:∀i (s:Shared) (Q:Option Value->Shared->Prop) (E:Value->Shared->Prop),i<n->S i s.heap->
  (∀v h' tk,Val i s.heap v h'->M i v h'->Kept wr s.heap h'->Q (some v) {s with heap:=h',toks:=tk})->wpAny X.M Ar (pyNext (.ref I)) Q E s
 go:∀target i v (s:Shared) (Q:Unit->Shared->Prop) (E:Value->Shared->Prop),(tp=true->∃es k ps,target=.Tuple es k ps)->M i v s.heap->(∀h',S (i+1) h'->Kept wr s.heap h'->Q () {s with heap:=h'})->wpAny X.M Ar (letOwnedTupleGo target (.ref I) v) Q E s
 done:∀(s:Shared) (Q:Option Value->Shared->Prop) (E:Value->Shared->Prop),S n s.heap->(∀h' tk,Kept wr s.heap h'->Q none {s with heap:=h',toks:=tk})->wpAny X.M Ar (pyNext (.ref I)) Q E s
 code:∀i h,S i h->∀b∈wr,∃o,h.get? b=some o/\bR o
 Ip:∀i v h,M i v h->∀b∈wr,∃o,h.get? b=some o/\bR o
 self:∀(s:Shared) (Q:Value->Shared->Prop) (E:Value->Shared->Prop),S 0 s.heap->Q (.ref I) s->wpAny X.M Ar (pyIter (.ref I)) Q E s
theorem mJ{X:Cx}{g:Nat}{wr:List Addr}{h':Heap}{tk:Nat}(C:EZ X)(k:Kept wr s.heap h')(c:∀b∈wr,X.N<=b/\(∃o,s.heap.get? b=some o/\bR o)):St X (X.VW (·∈wr)) g s {s with heap:=h',toks:=tk}:=
 ⟨λa o n e=>k a o n.2 e,λq=>C.Gk _ _ (·∈wr) q (λa m=>c a m) λa o m e=>k a o m e,λ_ _ _ e=>e,id,rfl⟩
theorem yg{I:Addr}{fp wr:List Addr}{n:Nat}{Val:Nat->Heap->Value->Heap->Prop}{H:Nat->Heap->Prop}{M:Nat->Value->Heap->Prop}(V:Bs Z s₀)(C:Wk Z.X Z.Ar I fp wr n tp Val H M)(hn:n=xs.length)
  (x:aJ Z.X Z.X.V s₀ s₁) (st:H 0 s₁.heap) (hw:∀b∈wr,s₀.heap.get? b=none/\Z.X.N<=b) (hf:∀b∈fp,b∈wr\/(K b/\∃o,s₁.heap.get? b=some o)) (hK:∀a,Z.B a->K a)
  (hv:∀j p v h h',xs[j]?=some p->Val j h v h'->∀fH:Addr->Prop,(∀a o,Z.B a->s₀.heap.get? a=some o->fH a/\h'.get? a=some o)->fH h.objs.size->Rep h' fH p v):
  Iter Z K tp (.ref I) xs (·∈wr) (λW i s=>W=(·∈wr)/\H i s.heap/\∀a o,K a->a∉wr->s₁.heap.get? a=some o->s.heap.get? a=some o) s₀ s₁:=by
 have old:∀a o,Z.B a->s₀.heap.get? a=some o->a∉wr:=λa o _ e m=>by rw[(hw a m).1]at e;cases e
 have cd:∀(h:Heap),(∀b∈wr,∃o,h.get? b=some o/\bR o)->∀b∈wr,Z.X.N<=b/\(∃o,h.get? b=some o/\bR o):=λh c b m=>⟨(hw b m).2,c b m⟩
 refine⟨λa m=>(hw a m).1,λW i s st a w=>?_,⟨rfl,st,λ_ _ _ _ e=>e⟩,λW i s s' K' st y h1 h2=>?_,λW i p target e ht B s Q E h1 h2 st g q=>?_,λW s Q E st g q=>?_,λW s Q E st q=>C.self s Q E st.2.1 q⟩
 ·obtain⟨rfl,st,_⟩:=st
  exact cd _ (C.code i _ st) a w
 ·obtain⟨rfl,st,k⟩:=st
  refine⟨rfl,C.frame i _ _ st λb m o e=>y.off b o ((hf b m).elim (h1 b) λq=>q.2.elim λo' e'=>h2 b o' q.1 e') e,λa o ka m e=>y.off a o (h2 a o ka e) (k a o ka m e)⟩
 ·obtain⟨rfl,st,k⟩:=st
  have hi:i<n:=hn▸(jb e).1
  refine C.item i s Q E hi st λv h' tk hval hm hk=>?_
  have st1:=mJ (g:=s₀.gens.size) (tk:=tk) V.K hk (cd _ (C.code i _ st))
  have VT:s.heap.objs.size∉wr:=λm=>by
   obtain⟨o,e,_⟩:=C.code i _ st _ m
   exact absurd (Heap.lt_size e) (Nat.lt_irrefl _)
  refine q _ v _ (λ_ w=>w) (λ_ w=>.inl w) (cd _ (C.Ip i v h' hm)) st1 (hv i p v s.heap h' e hval _ (λa o b e'=>⟨⟨h1 a o b (x.off a o (V.sub a b) e'),old a o b e'⟩,hk a o (old a o b e') (k a o (hK a b) (old a o b e') (x.off a o (V.sub a b) e'))⟩) ⟨h2 _ (V.K.size _ g) (bL _),VT⟩) λQ' E' hq=>C.go target i v _ Q' E' ht hm λh2 st2 hk2=>?_
  exact hq _ (mJ (tk:=tk) (s:={s with heap:=h',toks:=tk}) V.K hk2 (cd _ (C.Ip i v h' hm))) ⟨rfl,st2,λa o ka m e=>hk2 a o m (hk a o m (k a o ka m e))⟩
 ·obtain⟨rfl,st,k⟩:=st
  refine C.done s Q E (hn▸st) λh' tk hk=>q _ (mJ V.K hk (cd _ (C.code _ _ st)))
end
noncomputable def lD(T:String):Bool:=!["enumerate","zip","dict_itemiterator","dict_reverseitemiterator","odict_iterator","itertools.zip_longest","itertools.pairwise"].contains T&&!(T=="code")
theorem eK{h:Heap}{a:Addr}(e:h.objs.size<=a):h.get? a=none:=by
 cases q:h.get? a with
 |none=>rfl
 |some o=>exact absurd (Heap.lt_size q) (Nat.not_lt.mpr e)
section
variable{Z:Fr}{K:Addr->Prop}{tp:Bool}{xs:List PV}{s s' s₀ s₁:Shared}{Q:Value->Shared->Prop}{E:Value->Shared->Prop}{I l:Addr}{vs:List Value}{n:Nat}{v:Value}
theorem tF{M:Model}{Ar:Around}{target:Expr}{o:Obj}{T:String}{Q:Unit->Shared->Prop}(ho:s.heap.get? I=some o)(hc:o.cls=.type T)(hT:lD T=true)(h:Q () s):wpAny M Ar (letOwnedTupleGo target (.ref I) v) Q E s:=by
 have hT:=not_eq (both hT).1
 have key:wpAny M Ar (do
  let(.ref r,.ref a):=(Value.ref I,v)|return
  let o<-load r
  match o.cls,o.data with
  | .type n,.fields vs=>
   if ["enumerate","zip","dict_itemiterator","dict_reverseitemiterator","odict_iterator","itertools.zip_longest","itertools.pairwise"].contains n&&vs[0]?==some (rawInt a)then
    rule "for.unpacks-the-owned-tuple"
    updateField r 0 .none
  |_,_=>pure ()) Q E s:=by
  cases v with
  |ref a=>
   refine wpAny_bind (wpAny_load ho ?_)
   rw[hc]
   cases o.data with
   |fields vs=>
    show wpAny M Ar (if(_&&_)=true then _ else _) Q E s
    rw[hT]
    exact wpAny_pure h
   |_=>exact wpAny_pure h
  |_=>exact wpAny_pure h
 cases target with
 |Tuple a b c=>exact key
 |List a b=>exact key
 |_=>exact wpAny_pure h
theorem EG{P:Nat->Value->Prop}{S:Nat->Heap->Prop}{fp:List Addr}{T:String}(W:Walks Z.X.prog Z.X.w Z.Ar I fp [I] n P S)(hT:lD T=true)(hc:∀i h,S i h->∃o,h.get? I=some o/\o.cls=.type T):
  Wk Z.X Z.Ar I fp [I] n tp (λi _ v _=>P i v) S λi _=>S (i+1):=by
 have cd:∀i h,S i h->∀b∈[I],∃o,h.get? b=some o/\bR o:=λi h st b m=>by
  obtain rfl:=fG m
  obtain⟨o,e,c⟩:=hc i h st
  refine⟨o,e,.inl λq=>?_⟩
  rw[c]at q
  have:=not_eq (both hT).2
  rw[Value.type.inj q]at this
  exact nomatch this
 exact⟨W.frame,λi s Q E hi st q=>W.item i s Q E hi st λv h' tk p st' k=>q v h' tk p st' k,λtarget i v s Q E _ st q=>(hc _ _ st).elim λo e=>tF e.1 e.2 hT (q _ st λ_ _ _ e=>e),W.done,cd,λi v h st=>cd _ h st,λs Q E st q=>W.self 0 s Q E st q⟩
theorem gE{P:Nat->Value->Prop}{S:Nat->Heap->Prop}{fp:List Addr}{T:String}{o:Obj}(V:Bs Z s)(hK:∀a,Z.B a->K a)(hT:lD T=true)(W:Walks Z.X.prog Z.X.w Z.Ar s.heap.objs.size fp [s.heap.objs.size] n P S)(hc:∀i h,S i h->∃o,h.get? s.heap.objs.size=some o/\o.cls=.type T)
  (hn:n=xs.length) (st:S 0 (s.heap.push o)) (hf:∀b∈fp,b=s.heap.objs.size\/(K b/\∃o,s.heap.get? b=some o)) (hv:∀j p v,xs[j]?=some p->P j v->Z.Rep s.heap p v) (h:eG Z K tp s xs Q):Q (.ref s.heap.objs.size) {s with heap:=s.heap.push o}:=
 h _ _ _ _ V.push (yg (Z:=Z) (s₁:={s with heap:=s.heap.push o}) V (EG W hT hc) hn (V.push (tk:=s.toks)) st (λb m=>fG m▸⟨bL _,V.K.size _ V.g⟩) (λb m=>(hf b m).imp (λq=>List.mem_singleton.mpr q) λq=>⟨q.1,q.2.imp λ_ e=>Heap.get?_push_of_some _ e⟩) hK
  λj p v _ h' e pv fH k _=>Internal.Rep.move (hv j p v e pv) k)
theorem Kl(V:Bs Z s)(hK:∀a,Z.B a->K a)(g:s.heap.get? l=some (aU vs n))(k:K l)(r:Z.af s.heap xs vs)(h:eG Z K tp s xs Q):wpAny Z.X.M Z.Ar (pyIter (.ref l)) Q E s:=
 wpAny_pyIter_list (lst_is g) (gE V hK (T:="list_iterator") (by decide) (Walks.list V.R.hh s.heap.objs.size l (Nat.ne_of_lt (Heap.lt_size g)) vs.toArray) (λi h st=>st.1.imp λo q=>⟨q.1,q.2.1⟩) r.size ⟨⟨_,Heap.get?_push_size _ rfl,rfl,rfl⟩,(lst_is g).push _⟩
  (λb m=>(eX m).imp id λm=>by obtain rfl:=fG m;exact⟨k,_,g⟩) (λj p v e hp=>(Internal.af.get r e).elim λu q=>by
   obtain rfl:v=u:=aq ((show vs.toArray[j]?=some v from hp).symm.trans (ag q.1))
   exact q.2) h)
theorem Ko(V:Bs Z s)(hK:∀a,Z.B a->K a)(g:s.heap.get? l=some (ic vs n))(k:K l)(r:Z.af s.heap xs vs)(h:eG Z K tp s xs Q):wpAny Z.X.M Z.Ar (pyIter (.ref l)) Q E s:=
 wpAny_pyIter_tuple (tup_is g) (gE V hK (T:="tuple_iterator") (by decide) (Walks.tuple V.R.hh s.heap.objs.size l (Nat.ne_of_lt (Heap.lt_size g)) vs.toArray) (λi h st=>st.1.imp λo q=>⟨q.1,q.2.1⟩) r.size ⟨⟨_,Heap.get?_push_size _ rfl,rfl,rfl⟩,(tup_is g).push _⟩
  (λb m=>(eX m).imp id λm=>by obtain rfl:=fG m;exact⟨k,_,g⟩) (λj p v e hp=>(Internal.af.get r e).elim λu q=>by
   obtain rfl:v=u:=aq ((show vs.toArray[j]?=some v from hp).symm.trans (ag q.1))
   exact q.2) h)
noncomputable def signs(x:Str):List PV:=x.cps.toList.map λc=>.str ⟨#[c]⟩
theorem lF(x:Str):x.cps.size=(signs x).length:=(List.length_map ..).symm
theorem oB{x:Str}{j:Nat}{p:PV}{h:Heap}(e:(signs x)[j]?=some p)(hp:SignAt x j v):Z.Rep h p v:=by
 obtain⟨c,u,h1,rfl⟩:=hp
 unfold signs at e
 rw[List.getElem?_map]at e
 have h1:x.cps.toList[j]?=some c:=by simpa using h1
 rw[h1]at e
 obtain rfl:=aq e
 exact Rep.mkStr
theorem Kn{x:Str}{t:Tok}(V:Bs Z s)(hK:∀a,Z.B a->K a)(h:eG Z K tp s (signs x) Q):wpAny Z.X.M Z.Ar (pyIter (.str x t)) Q E s:=by
 have one:∀b∈[s.heap.objs.size],b=s.heap.objs.size\/(K b/\∃o,s.heap.get? b=some o):=λb m=>.inl (fG m)
 cases ha:x.cps.all (· <128)
 ·exact wpAny_pyIter_wide ha (gE V hK (T:="str_iterator") (by decide) (Walks.strWide V.R.hh _ x t) (λi h st=>st.imp λo q=>⟨q.1,q.2.1⟩) (lF x) ⟨_,Heap.get?_push_size _ rfl,rfl,rfl⟩ one (λj p v e hp=>oB e hp) h)
 ·exact wpAny_pyIter_ascii ha (gE V hK (T:="str_ascii_iterator") (by decide) (Walks.strAscii V.R.hh _ x t) (λi h st=>st.imp λo q=>⟨q.1,q.2.1⟩) (lF x) ⟨_,Heap.get?_push_size _ rfl,rfl,rfl⟩ one (λj p v e hp=>oB e hp) h)
def DY(i:Int):Bool:=Nat.blt i.natAbs 4611686018427387904
noncomputable def ranges(a b:Int):List PV:=(List.range (b-a).toNat).map λ(i:Nat)=>PV.int (a+(i:Int))
theorem wK(a b:Int):Builtin.Range.rangeSize a b 1=((b-a).toNat:Int):=by
 rw[rangeSize_one]
 by_cases h:a<b
 ·rw[if_pos h];exact(Int.toNat_of_nonneg (Int.sub_nonneg_of_le (Int.le_of_lt h))).symm
 ·rw[if_neg h,Int.toNat_of_nonpos (Int.sub_nonpos_of_le (Int.not_lt.mp h))];rfl
theorem GI{a:Int}(h:a.natAbs<4611686018427387904):-(2^62)<=a/\a<2^62:=⟨by lia,by lia⟩
theorem uu{a b:Int}(ha:DY a=true)(hb:DY b=true):Builtin.Range.small a b 1=true:=by
 have ha:=Nat.blt_eq.mp ha
 have hb:=Nat.blt_eq.mp hb
 exact small_one (GI ha).1 (GI ha).2 (GI hb).1 (GI hb).2
theorem tQ{a b:Int}{t u w:Tok}{r:Addr}(V:Bs Z s)(hK:∀a,Z.B a->K a)(hr:IsRange s.heap r a b 1 t u w)(ha:DY a=true)(hb:DY b=true)(h:eG Z K tp s (ranges a b) Q):wpAny Z.X.M Z.Ar (pyIter (.ref r)) Q E s:=by
 refine wpAny_pyIter_range hr (uu ha hb) ?_
 rw[wK]
 refine gE V hK (T:="range_iterator") (by decide) (Walks.range V.R.hh s.heap.objs.size a 1 (b-a).toNat) (λi h st=>⟨_,st,rfl⟩) (by unfold ranges;rw[List.length_map,List.length_range]) (by simpa using Heap.get?_push_size _ rfl) (λb m=>.inl (fG m)) (λj p v e hp=>?_) h
 obtain⟨t,rfl⟩:=hp
 unfold ranges at e
 rw[List.getElem?_map]at e
 refine aE e λi e1 e2=>?_
 have hj:=jb e1
 obtain rfl:j=i:=by rw[<-hj.2,List.getElem_range]
 subst e2
 rw[Int.mul_one]
 exact Rep.mkInt
theorem Km(V:Bs Z s)(hK:∀a,Z.B a->K a)(g:s.heap.get? l=some (aU vs n))(k:K l)(r:Z.af s.heap xs vs)(h:eG Z K tp s xs.reverse Q):wpAny Z.X.M Z.Ar (call (.type "reversed") [.ref l]) (λv s'=>wpAny Z.X.M Z.Ar (pyIter v) Q E s') E s:=by
 refine call_reversed_list (lst_is g) ?_
 generalize ho:revObj l ((vs.toArray.size:Int)-1)=o
 have gR:(s.heap.push o).IsRevIter s.heap.objs.size l ((vs.toArray.size:Int)-1):=⟨_,Heap.get?_push_size _ (by rw[<-ho];rfl),by rw[<-ho];rfl,by rw[<-ho];rfl⟩
 refine wpAny_pyIter_revIter gR (gE V hK (T:="list_reverseiterator") (by decide) (Walks.listRev V.R.hh s.heap.objs.size l (Nat.ne_of_lt (Heap.lt_size g)) vs.toArray) (λi h st=>st.2.1.imp λo q=>⟨q.1,q.2.1⟩) (by rw[List.length_reverse];exact r.size) ⟨Nat.zero_le _,by simpa using gR,(lst_is g).push _⟩
  (λb m=>(eX m).imp id λm=>by obtain rfl:=fG m;exact⟨k,_,g⟩) (λj p v e hp=>?_) h)
 have hj:j<xs.length:=List.length_reverse▸(jb e).1
 rw[List.getElem?_reverse hj]at e
 obtain⟨u,q1,q2⟩:=Internal.af.get r e
 rw[<-r.size]at q1
 obtain rfl:v=u:=aq ((show vs.toArray[vs.toArray.size-1-j]?=some v from hp).symm.trans (ag q1))
 exact q2
end
section
variable{Z:Fr}{K:Addr->Prop}{xs:List PV}{s s':Shared}{Q:Value->Shared->Prop}{E:Value->Shared->Prop}{h h':Heap}
noncomputable def bP(i:Nat):List PV->List PV
 | []=>[]
 |x::xs=>.tup [.int (i:Int),x]::bP (i+1) xs
theorem kM:∀(xs:List PV) (k:Nat),(bP k xs).length=xs.length
 | [],_=>rfl
 |x::xs,k=>congrArg (·+1) (kM xs _)
theorem pB:∀(xs:List PV) (k i:Nat) (p:PV),(bP k xs)[i]?=some p->∃q,xs[i]?=some q/\p=.tup [.int ((k+i:Nat):Int),q]:=by
 intro w
 induction w with
 |nil=>intro _ _ _ e;exact no e
 |cons x xs ih=>
  intro k v
  cases v with
  |zero=>intro p e;exact⟨x,rfl,(aq e).symm⟩
  |succ i=>
   intro p e
   obtain⟨q,h1,h2⟩:=ih (k+1) i p e
   exact⟨q,h1,by rw[h2,Nat.add_right_comm];rfl⟩
def Made(PL:List Value->Prop)(h:Heap)(v:Value)(h':Heap):Prop:=v=.ref h.objs.size/\∃vs,PL vs/\h'.get? h.objs.size=some (ic vs 0)
theorem rX{it e:Addr}{fp:List Addr}{n:Nat}{P:Nat->Value->Prop}{S:Nat->Heap->Prop}{T:String}(D:Draws Z.X.prog Z.X.w Z.Ar.in1 it fp n P S)(hne:e≠it)(hef:e∉fp)(hit:it∈fp)(hc:∀i h,S i h->∃o,h.get? it=some o/\o.cls=.type T)(hT:T≠"code"):
  Wk Z.X Z.Ar e (e::fp) [it,e] n true (λi=>Made λvs=>∃t v,vs=[.int (i:Nat) t,v]/\P i v) (λi h=>(∃old,IsEnum h e it (i:Nat) old)/\S i h) (λi v h=>∃T x,v=.ref T/\IsEnumOut h e it ((i:Int)+1) x T/\S (i+1) h):=by
 have cd:∀i h o,h.get? e=some o->o.cls=.type "enumerate"->S i h->∀b∈[it,e],∃o,h.get? b=some o/\bR o:=λi h o ho hco st b m=>by
  rcases eX m with q|m
  ·obtain⟨o,e1,c⟩:=hc i h st
   exact⟨o,q▸e1,.inl λz=>hT (Value.type.inj (c.symm.trans z))⟩
  ·exact⟨o,fG m▸ho,.inl λz=>nomatch Value.type.inj (hco.symm.trans z)⟩
 refine⟨λi h h' st k=>⟨st.1.imp λold g=>k e eF _ g,D.frame i h h' st.2 λb m o=>k b (f5 _ m) o⟩,λi s Q E hi st q=>?_,λtarget i v s Q E ht m q=>?_,λs Q E st q=>?_,λi h st=>st.1.elim λold g=>cd i h _ g rfl st.2,λi v h m=>?_,λs Q E st q=>st.1.elim λold g=>wpAny_pyIter_enum g q⟩
 ·obtain⟨⟨old,g⟩,st⟩:=st
  exact wpAny_pyNext_enum_itemD D g st hi hne hef λv h' tk p a1 a2 a3 a4 a5=>q _ h' _ ⟨rfl,_,⟨tk,v,rfl,p⟩,a3⟩ ⟨_,v,rfl,a1,a2⟩ λb o m e=>a5 b o (λz=>m (z▸f5 _ eF)) (λz=>m (z▸eF)) e
 ·obtain⟨T,x,rfl,g,st⟩:=m
  obtain⟨es,k,ps,rfl⟩:=ht rfl
  exact wpAny_letOwnedTupleGo_enum g λh' b1 b2=>q h' ⟨⟨_,b1⟩,D.frame _ _ _ st λb m o e=>b2.extBut b o (λz=>hef (z▸m)) e⟩ λb o m e=>b2.extBut b o (λz=>m (z▸f5 _ eF)) e
 ·obtain⟨⟨old,g⟩,st⟩:=st
  exact wpAny_pyNext_enum_endD D g st λh' b1=>q h' s.toks λb o m e=>b1 b o (λz=>m (z▸eF)) e
 ·obtain⟨T,x,rfl,g,st⟩:=m
  exact cd _ _ _ g rfl st
theorem yf{fp:List Addr}{n:Nat}{P:Nat->Value->Prop}{S:Nat->Heap->Prop}{T:String}(V:Bs Z s)(hK:∀a,Z.B a->K a)(D:Draws Z.X.prog Z.X.w Z.Ar.in1 s.heap.objs.size fp n P S)(hn:n=xs.length)(hfp:∀b∈fp,b=s.heap.objs.size\/(K b/\∃o,s.heap.get? b=some o))(hit:s.heap.objs.size∈fp)
  (hc:∀i h,S i h->∃o,h.get? s.heap.objs.size=some o/\o.cls=.type T) (hT:T≠"code") (he:IsEnum h' (s.heap.objs.size+1) s.heap.objs.size 0 .none) (st:S 0 h') (x:Ext s.heap h') (hP:∀j p v,xs[j]?=some p->P j v->Z.Rep s.heap p v)
  (h:eG Z K true s (bP 0 xs) Q):Q (.ref (s.heap.objs.size+1)) {s with heap:=h'}:=by
 have hef:s.heap.objs.size+1∉fp:=λm=>(hfp _ m).elim (λq=>absurd q (Nat.succ_ne_self _)) λq=>q.2.elim λo e=>absurd (Heap.lt_size e) (Nat.not_lt.mpr (Nat.le_succ _))
 refine h _ _ _ _ (V.ext x) (yg (Z:=Z) (s₁:={s with heap:=h'}) V (rX D (Nat.succ_ne_self _) hef hit hc hT) (hn.trans (kM xs 0).symm) (V.ext x (tk:=s.toks)) ⟨⟨_,he⟩,st⟩ (λb m=>?_) (λb m=>?_) hK λj p v h1 h2 e pv fH k new=>?_)
 ·rcases eX m with q|m
  ·exact q▸⟨bL _,V.K.size _ V.g⟩
  ·exact fG m▸⟨eK (Nat.le_succ _),Nat.le_succ_of_le (V.K.size _ V.g)⟩
 ·rcases eX m with q|m
  ·exact .inl (q▸f5 _ eF)
  ·exact(hfp b m).elim (λq=>.inl (by rw[q];exact eF)) λq=>.inr ⟨q.1,q.2.imp λo e=>x b o e⟩
 ·obtain⟨rfl,vs,⟨t,u,rfl,pu⟩,g⟩:=pv
  obtain⟨q,e1,rfl⟩:=pB xs 0 j p e
  rw[Nat.zero_add]
  exact Rep.yt new g (af.cons Rep.mkInt (af.cons (Internal.Rep.move (hP j q u e1 pu) k) af.nil))
theorem BO{l:Addr}{vs:List Value}{n:Nat}(V:Bs Z s)(hK:∀a,Z.B a->K a)(g:s.heap.get? l=some (aU vs n))(k:K l)(r:Z.af s.heap xs vs)(h:eG Z K true s (bP 0 xs) Q):wpAny Z.X.M Z.Ar (call (.type "enumerate") [.ref l]) (λv s'=>wpAny Z.X.M Z.Ar (pyIter v) Q E s') E s:=
 call_enumerate_list (lst_is g) λh' b1 b2 b3 b4=>wpAny_pyIter_enum b1 (yf V hK (Draws.list (A:=Z.Ar.in1) V.R.hh s.heap.objs.size l (Nat.ne_of_lt (Heap.lt_size g)) vs.toArray) r.size (λb m=>(eX m).imp id λm=>by obtain rfl:=fG m;exact⟨k,_,g⟩) eF (λi h st=>st.1.imp λo q=>⟨q.1,q.2.1⟩) (by decide) b1 ⟨b2,_,b4 _ _ g,rfl,_,rfl⟩ b4
  (λj p v e hp=>(Internal.af.get r e).elim λu q=>by
   obtain rfl:v=u:=aq ((show vs.toArray[j]?=some v from hp).symm.trans (ag q.1))
   exact q.2) h)
end
structure ZE where
 it:Addr
 l:Addr
 xs:List Value
structure ZP where
 z:Addr
 TI:Addr
 TO:Addr
 its:List ZE
section
variable{prog:Program}{w:World}{Ar:Around}{E:Value->Shared->Prop}{s:Shared}{h h':Heap}{p:ZP}{f0 f1:Value}{i k:Nat}{c vals:List Value}
end
section
variable{prog:Program}{w:World}{Ar:Around}{E:Value->Shared->Prop}{s:Shared}{h h':Heap}{p:ZP}{f0 f1:Value}{i k:Nat}{c vals:List Value}
end
section
variable{Z:Fr}{K:Addr->Prop}{xs ys zs:List PV}{s s':Shared}{Q:Value->Shared->Prop}{E:Value->Shared->Prop}{h h':Heap}{p:ZP}
end
section
variable{prog:Program}{w:World}{Ar:Around}{E:Value->Shared->Prop}{s:Shared}
end
section
variable{Z:Fr}{K:Addr->Prop}{xs ys zs:List PV}{s:Shared}{Q:Value->Shared->Prop}{E:Value->Shared->Prop}
end
section
variable{prog:Program}{w:World}{Ar:Around}{E:Value->Shared->Prop}{s:Shared}
theorem vJ{I:Addr}{fp:List Addr}{n:Nat}{items:List Value}{S:Nat->Heap->Prop}{P:Nat->Value->Prop}(W:Walks prog w Ar I fp [I] n P S)(hP:∀i v,P i v->items[i]?=some v)(hn:n=items.length):
  ∀(k i:Nat) (s:Shared) (Q:List Value->Shared->Prop),S i s.heap->i+k=n->(∀h' tk,S n h'->Heap.ExtBut I s.heap h'->Q (items.drop i) {s with heap:=h',toks:=tk})->wpAny (model prog w) Ar (draw (.ref I) k) Q E s:=by
 intro w
 induction w with
 |zero=>
  intro i s Q st e q
  have q:=q s.heap s.toks (e▸st) λ_ _ _ e=>e
  rw[List.drop_eq_nil_of_le (Nat.le_of_eq (hn▸e.symm))]at q
  exact wpAny_pure q
 |succ k ih=>
  intro i s Q st e q
  show wpAny _ _ (pyNext (.ref I)>>=_) Q E s
  have hi:i<n:=e▸Nat.lt_add_of_pos_right (Nat.succ_pos k)
  refine wpAny_bind (W.item i s _ _ hi st λv h₁ tk₁ hv Ef hk₁=>wpAny_bind (wpAny_holding (ih (i+1) _ _ Ef ((Nat.add_right_comm i 1 k).trans e) λh₂ tk₂ oG hk₂=>wpAny_pure ?_)))
  have q:=q h₂ tk₂ oG λb o hb e=>hk₂ b o hb (hk₁ b o (λm=>hb (fG m)) e)
  have hlt:i<items.length:=hn▸hi
  have hv:=hP i v hv
  rw[List.getElem?_eq_getElem hlt]at hv
  rw[List.drop_eq_getElem_cons hlt,aq hv]at q
  exact q
theorem l7(hh:Ar.handled=none){v:Value}{items:List Value}(hv:∃a,v=.ref a/\(s.heap.IsTuple a items.toArray\/s.heap.IsList a items.toArray)){Q:List Value->Shared->Prop}
  (hQ:∀h' tk,Ext s.heap h'->Q items {s with heap:=h',toks:=tk}):wpAny (model prog w) Ar (unpackItems v items.length none) Q E s:=by
 obtain⟨a,rfl,hv⟩:=hv
 have new:∀b o,s.heap.get? b=some o->b≠s.heap.objs.size:=λb o e=>Nat.ne_of_lt (Heap.lt_size e)
 have main:∀(o:Obj) (fp:List Addr) (S:Nat->Heap->Prop),Walks prog w Ar s.heap.objs.size fp [s.heap.objs.size] items.toArray.size (λi v=>items.toArray[i]?=some v) S->S 0 (s.heap.push o)->
   wpAny (model prog w) Ar (do
    let items'<-holding [.ref s.heap.objs.size] (draw (.ref s.heap.objs.size) items.length)
    if items'.length<items.length then
     rule "unpack.too-few";raiseError "ValueError" s!"not enough values to unpack (expected {items.length}, got {items'.length})"
    if(<-holding items' (pyNext (.ref s.heap.objs.size))).isSome then
     rule "unpack.too-many";raiseError "ValueError" s!"too many values to unpack (expected {items.length})"
    return items') Q E {s with heap:=s.heap.push o}:=by
  intro o fp S W st
  refine wpAny_bind (wpAny_holding (vJ W (λi v e=>by simpa using e) List.size_toArray items.length 0 _ _ st ((Nat.zero_add _).trans List.size_toArray.symm) λh₁ tk₁ Ef hk₁=>?_))
  rw[List.drop_zero,if_neg (Nat.lt_irrefl _)]
  exact wpAny_bind (wpAny_holding (W.done _ _ _ Ef λh₂ tk₂ hk₂=>wpAny_pure (hQ h₂ tk₂ λb o e=>hk₂ b o (λm=>new b o e (fG m)) (hk₁ b o (new b o e) (Heap.get?_push_of_some _ e)))))
 unfold unpackItems notIterableAtAll
 refine wpAny_bind ?_
 rcases hv with hv|hv
 ·refine wpAny_bind (wpAny_specialOf hv.typeIs F.slot_tuple_iter.lookup (wpAny_pure (wpAny_bind (wpAny_holding (wpAny_pyIter_tuple hv ?_)))))
  obtain⟨o,ho,_⟩:=id hv
  exact main _ _ (λi h=>h.IsTupleIter s.heap.objs.size a i/\h.IsTuple a items.toArray) (Walks.tuple (prog:=prog) (w:=w) hh s.heap.objs.size a (new a o ho) items.toArray) ⟨⟨_,Heap.get?_push_size _ rfl,rfl,rfl⟩,hv.push _⟩
 ·refine wpAny_bind (wpAny_specialOf hv.typeIs slot_list_iter.lookup (wpAny_pure (wpAny_bind (wpAny_holding (wpAny_pyIter_list hv ?_)))))
  obtain⟨o,ho,_⟩:=id hv
  exact main _ _ (λi h=>h.IsListIter s.heap.objs.size a i/\h.IsList a items.toArray) (Walks.list (prog:=prog) (w:=w) hh s.heap.objs.size a (new a o ho) items.toArray) ⟨⟨_,Heap.get?_push_size _ rfl,rfl,rfl⟩,hv.push _⟩
end
structure Tg where
 i:Nat
 x:Str
 p:Pos
noncomputable def Tg.e(t:Tg):Expr:=.Name t.x t.p
def Tg.ok(sc:SC)(t:Tg):Bool:=kX sc t.i t.x
noncomputable def iL:List Tg->List PV->List Slot->Option (List Slot)
 | [],ps,σ=>bif ps.isEmpty then some σ else none
 |t::ts,ps,σ=>List.casesOn ps none λp ps=>iL ts ps (σ.set t.i (.val p))
structure SP(sc:SC)where
 e:Expr
 tp:Bool
 ts:List Tg
 bind:PV->List Slot->Option (List Slot)
 ht:tp=true->∃es k ps,e=.Tuple es k ps
 ok:∀{Z:Fr} {σ σ':List Slot} {ws:Nat->Option Value} {s:Shared} {p:PV} {v:Value} {Q:Unit->Shared->Prop} {E:Value->Shared->Prop},Dy Z σ ws s->bq Z.env sc Z.ls->(∀t∈ts,t.i<Z.wr)->Z.Rep s.heap p v->bind p σ=some σ'->
  (∀dH s',aJ Z.X Z.K s s'->Dy Z σ' dH s'->Q () s')->wpAny Z.X.M Z.Ar (assign e Z.env v) Q E s
section
variable{sc:SC}{Z:Fr}{σ σ':List Slot}{ws:Nat->Option Value}{s s':Shared}{E:Value->Shared->Prop}{Q:Unit->Shared->Prop}{p:PV}{v:Value}
def SP.one(t:Tg)(h:t.ok sc=true):SP sc:=⟨t.e,false,[t],λp σ=>some (σ.set t.i (.val p)),nofun,
 λD EO hw r e q=>wpAny_assign_Name (iO D EO h (hw t eF) r λdH s' x D'=>q dH s' x (aq e▸D'))⟩
theorem uH{env:Env}:∀{ts:List Tg},(assignEach (ts.map Tg.e) env).findIdx? (·.1)=none/\(assignEach (ts.map Tg.e) env).length=ts.length:=by
 intro w
 induction w with
 |nil=>exact⟨rfl,rfl⟩
 |cons t ts ih=>
  have h:=ih
  have e1:assignEach ((t::ts).map Tg.e) env=(false,assign t.e env)::assignEach (ts.map Tg.e) env:=rfl
  rw[e1]
  exact⟨by rw[List.findIdx?_cons,h.1];rfl,congrArg (·+1) h.2⟩
theorem uC:∀{ts:List Tg} {ps:List PV} {σ σ':List Slot},iL ts ps σ=some σ'->ts.length=ps.length:=by
 intro w
 induction w with
 |nil=>
  intro v
  cases v with
  |nil=>intros;exact rfl
  |cons _ _=>intro _ _ h;exact no h
 |cons t ts ih=>
  intro v
  cases v with
  |nil=>intro _ _ h;exact no h
  |cons p ps=>intro σ σ' h;exact congrArg (·+1) (ih h)
theorem G9(EO:bq Z.env sc Z.ls):∀(ts:List Tg) (ps:List PV) (vs:List Value) (σ:List Slot) (ws:Nat->Option Value) (s:Shared),ts.all (Tg.ok sc)=true->(∀t∈ts,t.i<Z.wr)->Dy Z σ ws s->iL ts ps σ=some σ'->Z.af s.heap ps vs->
   (∀dH s',aJ Z.X Z.K s s'->Dy Z σ' dH s'->Q () s')->wpAny Z.X.M Z.Ar (assignInOrder ((assignEach (ts.map Tg.e) Z.env).map (·.2)) vs) Q E s:=by
 intro w
 induction w with
 |nil=>
  intro v
  cases v with
  |nil=>
   intro vs σ ws s _ _ D e r q
   obtain rfl:vs=[]:=r
   exact wpAny_pure (q ws s .refl (aq e▸D))
  |cons _ _=>intro _ _ _ _ _ _ _ e _ _;exact no e
 |cons t ts ih=>
  intro v
  cases v with
  |cons p ps=>
   intro vs σ ws s ho hw D e r q
   obtain⟨v,vs,rfl,r1,r2⟩:=r
   have ho:=both (a:=t.ok sc) (b:=ts.all (Tg.ok sc)) ho
   show wpAny _ _ (do holding vs (assign t.e Z.env v);assignInOrder ((assignEach (ts.map Tg.e) Z.env).map (·.2)) vs) Q E s
   exact wpAny_bind (wpAny_holding (wpAny_assign_Name (iO D EO ho.1 (hw t eF) r1 λeB s₁ x₁ D₁=>ih ps vs _ eB s₁ ho.2 (λt m=>hw t (f5 _ m)) D₁ e (Fr.af.Aa r2 D x₁) λbB s₂ x₂ D₂=>q bB s₂ (x₁.trans x₂) D₂)))
  |nil=>intro _ _ _ _ _ _ _ e _ _;exact no e
theorem uK(D:Dy Z σ ws s)(EO:bq Z.env sc Z.ls){ts:List Tg}(ho:ts.all (Tg.ok sc)=true)(hw:∀t∈ts,t.i<Z.wr){ps:List PV}(e:iL ts ps σ=some σ')(hv:∃a vs,v=.ref a/\(s.heap.IsTuple a vs.toArray\/s.heap.IsList a vs.toArray)/\Z.af s.heap ps vs)
  (q:∀dH s',aJ Z.X Z.K s s'->Dy Z σ' dH s'->Q () s'):wpAny Z.X.M Z.Ar (unpack v (assignEach (ts.map Tg.e) Z.env)) Q E s:=by
 obtain⟨a,vs,rfl,ha,r⟩:=hv
 unfold unpack
 rw[uH.1,uH.2,uC e,<-r.len]
 refine wpAny_bind (wpAny_holding (l7 D.R.hh ⟨a,rfl,ha⟩ λh' tk hk=>?_))
 have x:aJ Z.X Z.X.V s {s with heap:=h',toks:=tk}:=D.toBs.ext hk
 exact G9 EO ts ps vs σ ws _ ho hw (D.step x) e (r.ext hk) λbB s₂ x₂ D₂=>q bB s₂ (x.toK.trans x₂) D₂
def SP.many(ts:List Tg)(k:Nat)(pp:Pos)(h:ts.all (Tg.ok sc)=true):SP sc:=⟨.Tuple (ts.map Tg.e) k pp,true,ts,λp σ=>p.o4.bind λps=>iL ts ps σ,λ_=>⟨_,_,_,rfl⟩,
 λ{Z σ σ' ws s p v Q E} D EO hw r e q=>aa e λps e1 e=>by
  rw[arm_assign_Tuple]
  refine wpAny_bind (wpAny_standAt (uK D EO h hw e ?_ q))
  rw[PV.is_tup e1]at r
  exact Internal.Rep.j5 r (M:=λv=>∃a vs,v=.ref a/\(s.heap.IsTuple a vs.toArray\/s.heap.IsList a vs.toArray)/\Z.af s.heap ps vs) λa n vs _ g rl=>⟨a,vs,rfl,.inl (tup_is g),rl⟩⟩
end
structure SI(sc:SC)where
 e:Expr
 need:Bool
 ev:bO->List Slot->Option (List PV)
 pl:Pl e
 ok:∀{Z:Fr} {σ:List Slot} {ws:Nat->Option Value} {s:Shared} {xs:List PV},Ev Z sc σ ws s->ev Z.Φ σ=some xs->∀(K:Addr->Prop) (tp:Bool),(∀a,Z.B a->K a)->(need=true->tp=true)->mT Z K s tp xs (eval e Z.env)
section
variable{sc:SC}{Z:Fr}{σ:List Slot}{ws:Nat->Option Value}{s s':Shared}{Q:Value->Shared->Prop}{E:Value->Shared->Prop}
def SI.lst(x:SE sc):SI sc:=⟨x.e,false,λΦ σ=>(x.ev Φ σ).bind PV.gw,x.pl,
 λ{Z σ ws s xs} V e K tp hK _ Q E h=>aa e λp e1 e2=>x.go V e1 λv s' st V' r=>r.lst e2 (M:=λv=>wpAny Z.X.M Z.Ar (pyIter v) Q E s') λa n vs b g rl=>Kl V'.toBs hK g (hK a b) rl (h.after st)⟩
def SI.tup(x:SE sc):SI sc:=⟨x.e,false,λΦ σ=>(x.ev Φ σ).bind PV.o4,x.pl,
 λ{Z σ ws s xs} V e K tp hK _ Q E h=>aa e λp e1 e2=>x.go V e1 λv s' st V' r=>r.tup e2 (M:=λv=>wpAny Z.X.M Z.Ar (pyIter v) Q E s') λa n vs b g rl=>Ko V'.toBs hK g (hK a b) rl (h.after st)⟩
theorem kH{x:Str}{T:String}{as:List (SE sc)}{ps:List PV}{p1 p:Pos}(V:Ev Z sc σ ws s)(hg:aC sc x=true)(hx:x∈jH)(hb:bootBuiltins x=some (.type T))(e:ig Z.Φ σ as=some ps)
  (k:∀vs s₁,aJ Z.X Z.X.V s s₁->Ev Z sc σ ws s₁->Z.af s₁.heap ps vs->wpAny Z.X.M Z.Ar (call (.type T) vs) Q E s₁):wpAny Z.X.M Z.Ar (eval (.Call (.Name x p1) (exprs as) [] p) Z.env) Q E s:=
 wpAny_Call_NameR (fm V hg hx hb (PySem.callWith_type (cg as) (args_call (eH V e k))))
theorem Pl.call{f:Expr}{as:List Expr}{p:Pos}:Pl (.Call f as [] p):=⟨λ_ _=>rfl,λop=>by cases op<;>rfl,λ_ _=>rfl⟩
def SI.K4(b:SE sc)(p1 p:Pos)(hg:aC sc "range"=true):SI sc:=⟨.Call (.Name "range" p1) (exprs [b]) [] p,false,λΦ σ=>(b.ev Φ σ).bind λq=>q.int?.bind λn=>bif DY n then some (ranges 0 n)else none,.call,
 λ{Z σ ws s xs} V e K tp hK _ Q E h=>aa e λq e1 e=>aa e λn e2 e=>by
  cases hc:DY n with
  |false=>rw[hc]at e;exact no e
  |true=>
   rw[hc]at e
   obtain rfl:=aq e
   refine kH (T:="range") (ps:=[q]) V hg (by decide+kernel) (by decide+kernel) (by unfold ig;rw[e1];rfl) λvs s₁ x₁ aj rl=>?_
   obtain⟨v,_,rfl,r,rfl⟩:=rl
   obtain⟨t,rfl⟩:=cQ.rd r e2
   have y:=aj.toBs.push (K:=Z.X.V) (g:=s₁.gens.size) (tk:=s₁.toks+1+1) (o:={cls:=.type "range",data:=.fields #[.int 0 s₁.toks,.int n t,.int 1 (s₁.toks+1)]})
   exact call_range_1 (tQ (aj.step y).toBs hK (IsRange.new _ _ _ _ _ _ _) (by decide+kernel) hc (h.after (x₁.trans y)))⟩
def SI.K5(a b:SE sc)(p1 p:Pos)(hg:aC sc "range"=true):SI sc:=⟨.Call (.Name "range" p1) (exprs [a,b]) [] p,false,λΦ σ=>(a.ev Φ σ).bind λr=>(b.ev Φ σ).bind λq=>r.int?.bind λm=>q.int?.bind λn=>bif DY m&&DY n then some (ranges m n)else none,.call,
 λ{Z σ ws s xs} V e K tp hK _ Q E h=>aa e λr e0 e=>aa e λq e1 e=>aa e λm e2 e=>aa e λn e3 e=>by
  cases hc:DY m&&DY n with
  |false=>rw[hc]at e;exact no e
  |true=>
   rw[hc]at e
   obtain rfl:=aq e
   refine kH (T:="range") (ps:=[r,q]) V hg (by decide+kernel) (by decide+kernel) (by unfold ig ig ig;rw[e0,e1];rfl) λvs s₁ x₁ aj rl=>?_
   obtain⟨v,_,rfl,r1,w,_,rfl,r2,rfl⟩:=rl
   obtain⟨t,rfl⟩:=cQ.rd r1 e2
   obtain⟨u,rfl⟩:=cQ.rd r2 e3
   have y:=aj.toBs.push (K:=Z.X.V) (g:=s₁.gens.size) (tk:=s₁.toks+1) (o:={cls:=.type "range",data:=.fields #[.int m t,.int n u,.int 1 s₁.toks]})
   exact call_range_2 (tQ (aj.step y).toBs hK (IsRange.new _ _ _ _ _ _ _) (both hc).1 (both hc).2 (h.after (x₁.trans y)))⟩
def SI.rev(x:SE sc)(p1 p:Pos)(hg:aC sc "reversed"=true):SI sc:=⟨.Call (.Name "reversed" p1) (exprs [x]) [] p,false,λΦ σ=>(x.ev Φ σ).bind λq=>q.gw.map List.reverse,.call,
 λ{Z σ ws s xs} V e K tp hK _ Q E h=>aa e λq e1 e=>aE e λys e2 e=>by
  subst e
  refine kH (T:="reversed") (ps:=[q]) V hg (by decide+kernel) (by decide+kernel) (by unfold ig;rw[e1];rfl) λvs s₁ x₁ aj rl=>?_
  obtain⟨v,_,rfl,r,rfl⟩:=rl
  exact Fr.Rep.lst r e2 (M:=λv=>wpAny Z.X.M Z.Ar (call (.type "reversed") [v]) (λv s'=>wpAny Z.X.M Z.Ar (pyIter v) Q E s') E s₁) λa n us b g ru=>Km aj.toBs hK g (hK a b) ru (h.after x₁)⟩
def SI.enum(x:SE sc)(p1 p:Pos)(hg:aC sc "enumerate"=true):SI sc:=⟨.Call (.Name "enumerate" p1) (exprs [x]) [] p,true,λΦ σ=>(x.ev Φ σ).bind λq=>q.gw.map (bP 0),.call,
 λ{Z σ ws s xs} V e K tp hK ht Q E h=>aa e λq e1 e=>aE e λys e2 e=>by
  subst e
  obtain rfl:=ht rfl
  refine kH (T:="enumerate") (ps:=[q]) V hg (by decide+kernel) (by decide+kernel) (by unfold ig;rw[e1];rfl) λvs s₁ x₁ aj rl=>?_
  obtain⟨v,_,rfl,r,rfl⟩:=rl
  exact Fr.Rep.lst r e2 (M:=λv=>wpAny Z.X.M Z.Ar (call (.type "enumerate") [v]) (λv s'=>wpAny Z.X.M Z.Ar (pyIter v) Q E s') E s₁) λa n us b g ru=>BO aj.toBs hK g (hK a b) ru (h.after x₁)⟩
end
theorem bA{α:Type}:∀{l:List (Str×α)} {x:Str} {k:α},(l.map (·.1)).Nodup->(x,k)∈l->l.lookup x=some k:=by
 intro w
 induction w with
 |nil=>intro _ _ _ m;exact nomatch m
 |cons yj r ih=>
  obtain⟨y,j⟩:=yj
  intro x k hn hm
  have⟨h1,h2⟩:=List.nodup_cons.mp (show(y::r.map (·.1)).Nodup from hn)
  rw[List.lookup_cons]
  cases e:x==y with
  |true=>
   rcases eX hm with q|q
   ·exact congrArg (λz:Str×α=>some z.2) q.symm
   ·exact absurd (List.mem_map_of_mem (f:=(·.1)) q) (eq_of_beq e▸h1)
  |false=>
   rcases eX hm with q|q
   ·rw[show x=y from congrArg (·.1) q,beq_self_eq_true]at e;exact nomatch e
   ·exact ih h2 q
noncomputable def gF(N:List (Str×NameKind))(x:Str)(k:NameKind):NameKind:=if(k==.free&&N.lookup x==some .cell)then .cell else k
def fC(N names:List (Str×NameKind)):List (Str×NameKind):=names.map λ(n,k)=>(n,gF N n k)
theorem mj(N:List (Str×NameKind))(x:Str):∀(names:List (Str×NameKind)),(fC N names).lookup x=(names.lookup x).map (gF N x):=by
 intro w
 induction w with
 |nil=>exact rfl
 |cons yj r ih=>
  obtain⟨y,j⟩:=yj
  show List.lookup x ((y,gF N y j)::fC N r)=_
  rw[List.lookup_cons,List.lookup_cons]
  cases e:x==y with
  |true=>rw[eq_of_beq e];rfl
  |false=>exact ih
theorem qK(r:List (Str×NameKind)):∀(n:Nat) (acc:List (Str×Addr)),cellsFrom n r acc=cellsFrom n r []++acc:=by
 induction r with
 |nil=>intro n acc;rfl
 |cons p r ih=>
  intro n acc
  obtain⟨x,k⟩:=p
  unfold cellsFrom
  cases k==NameKind.cell with
  |true=>
   show cellsFrom (n+1) r ((x,n)::acc)=cellsFrom (n+1) r [(x,n)]++acc
   rw[ih,ih (n+1) [(x,n)],List.append_assoc];rfl
  |false=>exact ih n acc
theorem ni(x:Str)(r:List (Str×NameKind)):∀(n:Nat) (acc:List (Str×Addr)),((x,NameKind.cell)∈r\/(acc.lookup x).isSome=true)->((cellsFrom n r acc).lookup x).isSome=true:=by
 induction r with
 |nil=>intro n acc h;exact h.elim (λq=>nomatch q) id
 |cons p r ih=>
  intro n acc h
  obtain⟨y,k⟩:=p
  unfold cellsFrom
  cases hk:k==NameKind.cell with
  |true=>
   refine ih (n+1) ((y,n)::acc) ?_
   rw[List.lookup_cons]
   cases e:x==y with
   |true=>exact .inr rfl
   |false=>exact h.imp (λq=>(eX q).resolve_left λq=>by rw[show x=y from congrArg (·.1) q,beq_self_eq_true]at e;exact nomatch e) id
  |false=>exact ih n acc (h.imp (λq=>(eX q).resolve_left λq=>by rw[<-show NameKind.cell=k from congrArg (·.2) q]at hk;exact nomatch hk) id)
theorem sD{x:Str}{c:Addr}(r:List (Str×NameKind)):∀(n:Nat) (acc:List (Str×Addr)),(x,c)∈cellsFrom n r acc->(x,NameKind.cell)∈r\/(x,c)∈acc:=by
 induction r with
 |nil=>intro n acc h;exact .inr h
 |cons p r ih=>
  intro n acc h
  obtain⟨y,k⟩:=p
  unfold cellsFrom at h
  cases hk:k==NameKind.cell with
  |true=>
   rw[hk]at h
   rcases ih (n+1) ((y,n)::acc) h with q|q
   ·exact .inl (f5 _ q)
   ·exact(eX q).imp (λq=>by rw[show x=y from congrArg (·.1) q,<-eq_of_beq hk];exact eF) id
  |false=>rw[hk]at h;exact(ih n acc h).imp (f5 _) id
noncomputable def aT(names:List (Str×NameKind))(cs:List (Str×Addr))(C:Addr)(x:Str):Loc:=bif names.lookup x==some .cell then .cell ((cs.lookup x).getD 0)else .loc C x
def aA(C:Addr)(cs:List (Str×Addr))(a:Addr):Prop:=a=C\/∃x,(x,a)∈cs
structure bF(C:Addr)(names:List (Str×NameKind))(cs:List (Str×Addr)):Prop where
 apart:cs.Pairwise λx y=>x.2≠y.2
 has:∀x,(x,NameKind.cell)∈names->∃c,cs.lookup x=some c
 ne:∀x c,(x,c)∈cs->c≠C
structure di(H:Heap)(C:Addr)(names:List (Str×NameKind))(cs:List (Str×Addr))(vars:List Str):Prop where
 ns:∃m,H.Ns C m
 pl:∀x,∃o,x∈vars->At H o (aT names cs C x)
 mu:∀a,aA C cs a->∃o,H.get? a=some o/\bR o
section
variable{h H H':Heap}{C:Addr}{names:List (Str×NameKind)}{cs:List (Str×Addr)}{vars:List Str}
theorem bF.of(F:bF C names cs)(x:Str):aA C cs (aT names cs C x).addr:=by
 unfold aT
 cases e:names.lookup x==some NameKind.cell with
 |true=>
  obtain⟨c,hc⟩:=F.has x (mem_of_lookup (eq_of_beq e))
  rw[hc]
  exact .inr ⟨x,mem_of_lookup hc⟩
 |false=>exact .inl rfl
theorem bF.inj(F:bF C names cs){x y:Str}(e:aT names cs C x=aT names cs C y):x=y:=by
 unfold aT at e
 cases e1:names.lookup x==some NameKind.cell with
 |true=>
  obtain⟨c,hc⟩:=F.has x (mem_of_lookup (eq_of_beq e1))
  cases e2:names.lookup y==some NameKind.cell with
  |true=>
   obtain⟨c',hc'⟩:=F.has y (mem_of_lookup (eq_of_beq e2))
   rw[e1,e2,hc,hc']at e
   have e:c=c':=congrArg Loc.addr e
   exact name_of_addr F.apart (mem_of_lookup hc) (e▸mem_of_lookup hc')
  |false=>rw[e1,e2]at e;exact nomatch e
 |false=>
  cases e2:names.lookup y==some NameKind.cell with
  |true=>rw[e1,e2]at e;exact nomatch e
  |false=>rw[e1,e2]at e;injection e
theorem bF.nodup(F:bF C names cs){vars:List Str}(hn:vars.Nodup):(vars.map (aT names cs C)).Nodup:=List.Pairwise.map _ (λ_ _ n e=>n (F.inj e)) hn
theorem di.keep(F:di H C names cs vars)(N:bF C names cs)(k:∀a o,aA C cs a->H.get? a=some o->H'.get? a=some o):di H' C names cs vars:=
 ⟨F.ns.imp λm q=>q.at' λo e=>k _ o (.inl rfl) e,λx=>(F.pl x).imp λo q m=>(q m).keep λob e=>k _ ob (N.of x) e,λa u=>(F.mu a u).imp λo q=>⟨k a o u q.1,q.2⟩⟩
theorem jQ(h:Heap)(names:List (Str×NameKind))(cls:Value)(vars:List Str):bF h.objs.size names (cellsFrom (h.objs.size+1) names [])/\(∀a,aA h.objs.size (cellsFrom (h.objs.size+1) names []) a->h.objs.size<=a)/\di (pushCells (h.push {cls:=cls,data:=.dict #[]}) names) h.objs.size names (cellsFrom (h.objs.size+1) names []) vars/\
  (∀x,At (pushCells (h.push {cls:=cls,data:=.dict #[]}) names) none (aT names (cellsFrom (h.objs.size+1) names []) h.objs.size x))/\Ext h (pushCells (h.push {cls:=cls,data:=.dict #[]}) names):=by
 have ok:=cellsFrom_ok names (h.push {cls:=cls,data:=.dict #[]}) (h.objs.size+1) [] ⟨λ_ _ hm=>(nomatch hm),List.Pairwise.nil⟩ (by rw[Heap.size_push];exact Nat.le_refl _)
 rw[Heap.size_push]at ok
 have lo:∀x c,(x,c)∈cellsFrom (h.objs.size+1) names []->h.objs.size+1<=c:=λx c hm=>(ok.empty x c hm).2
 have cell:∀x c,(x,c)∈cellsFrom (h.objs.size+1) names []->At (pushCells (h.push {cls:=cls,data:=.dict #[]}) names) none (.cell c):=λx c hm=>(ok.empty x c hm).1
 have ns:=(Heap.Ns.new h cls).keeps (pushCells_keeps names _)
 have N:bF h.objs.size names (cellsFrom (h.objs.size+1) names []):=⟨ok.apart,λx hm=>Option.isSome_iff_exists.mp (ni x _ _ _ (.inl hm)),λx c hm q=>absurd (q▸lo x c hm) (Nat.not_succ_le_self _)⟩
 have pl:∀x,At (pushCells (h.push {cls:=cls,data:=.dict #[]}) names) none (aT names (cellsFrom (h.objs.size+1) names []) h.objs.size x):=λx=>by
  unfold aT
  cases e:names.lookup x==some NameKind.cell with
  |true=>
   obtain⟨c,hc⟩:=N.has x (mem_of_lookup (eq_of_beq e))
   rw[hc]
   exact cell x c (mem_of_lookup hc)
  |false=>exact⟨_,ns,rfl⟩
 refine⟨N,λa ha=>ha.elim (λq=>Nat.le_of_eq q.symm) λq=>q.elim λx q=>Nat.le_of_succ_le (lo x a q),⟨⟨_,ns⟩,λx=>⟨none,λ_=>pl x⟩,λa q=>?_⟩,pl,λb o e=>pushCells_keeps _ _ b o (Heap.get?_push_of_some _ e)⟩
 rcases q with q|⟨x,q⟩
 ·obtain⟨o,e,n,_⟩:=(show At _ none (.loc h.objs.size "")from⟨_,ns,rfl⟩).live
  exact⟨o,q▸e,n⟩
 ·obtain⟨o,e,n,_⟩:=(cell x a q).live
  exact⟨o,e,n⟩
end
def dF(k:Nat)(σ:List Slot):List Slot:=List.replicate k .unset++σ
theorem dU{k i:Nat}{σ:List Slot}{t:Slot}(e:(dF k σ)[i]?=some t):t=.unset\/(k<=i/\σ[i-k]?=some t):=by
 unfold dF at e
 by_cases hi:i<k
 ·rw[List.getElem?_append_left (by rw[List.length_replicate];exact hi),List.getElem?_replicate,if_pos hi]at e
  exact .inl (aq e).symm
 ·rw[List.getElem?_append_right (by rw[List.length_replicate];exact Nat.not_lt.mp hi),List.length_replicate]at e
  exact .inr ⟨Nat.not_lt.mp hi,e⟩
def gW(vars:List Str)(g:Str->Option Value)(ws:Nat->Option Value)(i:Nat):Option Value:=if i<vars.length then vars[i]?.bind g else ws (i-vars.length)
section
variable{Z:Fr}{σ:List Slot}{ws:Nat->Option Value}{s s':Shared}{C:Addr}{names:List (Str×NameKind)}{cs:List (Str×Addr)}{vars:List Str}{env:Env}
abbrev Fr.over(Z:Fr)(env:Env)(W:Addr->Prop)(cs:List (Str×Addr))(names:List (Str×NameKind))(C:Addr)(vars:List Str):Fr:=
 {Z with env:=env,ls:=vars.map (aT names cs C)++Z.ls,B:=λa=>(Z.B a/\¬aA C cs a)/\¬W a,U:=aA C cs,wr:=vars.length,ow:=0}
theorem ah{h:Heap}{a:Addr}{P:Prop}(e:h.get? a=none)(q:∃o,h.get? a=some o):P:=by
 obtain⟨o,q⟩:=q
 rw[e]at q;exact nomatch q
theorem B6{W:Addr->Prop}(D:Dy Z σ ws s)(x:aJ Z.X Z.X.V s s')(N:bF C names cs)(hi:∀a,aA C cs a->s.heap.get? a=none/\Z.X.N<=a)(F:di s'.heap C names cs vars)(hC:env.locals=C)(hv:vars.Nodup)(hW:∀a,W a->s.heap.get? a=none/\∃o,s'.heap.get? a=some o):
  ∃dH,Dy (Z.over env W cs names C vars) (dF vars.length σ) dH s':=by
 have D₁:=D.step x
 have hN:∀a,aA C cs a->Z.X.N<=a:=λa q=>(hi a q).2
 have old:∀a,aA C cs a->s.heap.get? a=none:=λa q=>(hi a q).1
 have mv:∀a o,Z.B a->s.heap.get? a=some o->((Z.B a/\¬aA C cs a)/\¬W a)/\s'.heap.get? a=some o:=λa o b e=>⟨⟨⟨b,λq=>ah (old a q) ⟨o,e⟩⟩,λq=>ah (hW a q).1 ⟨o,e⟩⟩,x.off a o (D.sub a b) e⟩
 have loc:∀(i:Nat) (l:Loc),(vars.map (aT names cs C)++Z.ls)[i]?=some l->(i<vars.length/\∃y,vars[i]?=some y/\l=aT names cs C y)\/(¬i<vars.length/\Z.ls[i-vars.length]?=some l):=λi l e=>by
  by_cases hi:i<vars.length
  ·rw[List.getElem?_append_left (by rw[List.length_map];exact hi),List.getElem?_map]at e
   exact aE e λy e q=>.inl ⟨hi,y,e,q.symm⟩
  ·rw[List.getElem?_append_right (by rw[List.length_map];exact Nat.not_lt.mp hi),List.length_map]at e
   exact .inr ⟨hi,e⟩
 obtain⟨g,hg⟩:=Classical.axiomOfChoice F.pl
 refine⟨gW vars g ws,{K:=D.K,R:=D.R,g:=D₁.g,fresh:=λa n e=>⟨⟨D₁.fresh a n e,λq=>ah e ((F.mu a q).imp λ_ q=>q.1)⟩,λq=>ah e (hW a q).2⟩,sub:=λa b=>D.sub a b.1.1,eU:=λa u b=>b.1.2 u,turn:=λa u=>⟨hN a u,F.mu a u⟩,len:=?_,pl:=λi l e=>?_,hi:=λl m=>?_,ok:=λi t e=>?_,mine:=λi l hi e=>?_,dI:=λi xs a hi e _=>?_,apart:=?_,eV:=⟨hC▸hN C (.inl rfl),hC▸F.ns⟩,once:=λi j xs ys e1 e2 e3=>?_}⟩
 ·show(vars.map (aT names cs C)++Z.ls).length=(dF vars.length σ).length
  unfold dF
  rw[ay,ay,List.length_map,List.length_replicate,D.len]
 ·unfold gW
  rcases loc i l e with⟨hi,y,ey,rfl⟩|⟨hi,e⟩
  ·rw[if_pos hi,ey];exact hg y (List.mem_of_getElem? ey)
  ·rw[if_neg hi];exact D₁.pl _ l e
 ·rcases dU e with rfl|⟨hk,e⟩
  ·trivial
  ·unfold gW
   rw[if_neg (Nat.not_lt.mpr hk)]
   have q:=D.ok _ t e
   cases t with
   |unset=>trivial
   |val p=>exact q.imp λv q=>⟨q.1,Internal.Rep.move q.2 mv⟩
   |own xs=>obtain⟨v,vs,e,l,r⟩:=q;exact⟨v,vs,e,l.move λa o n e=>⟨n,x.off a o (.inl n) e⟩,Internal.af.move mv r⟩
   |is v=>exact q
 ·rcases List.mem_append.mp m with m|m
  ·obtain⟨y,_,rfl⟩:=List.mem_map.mp m
   exact hN _ (N.of y)
  ·exact D.hi l m
 ·rcases loc i l e with⟨_,y,_,rfl⟩|⟨h,_⟩
  ·exact N.of y
  ·exact absurd hi h
 ·exact absurd hi (Nat.not_lt_zero _)
 ·refine List.nodup_append.mpr ⟨N.nodup hv,D.apart,λl m l' m' e=>?_⟩
  obtain⟨y,_,rfl⟩:=List.mem_map.mp m
  obtain⟨j,hj⟩:=List.mem_iff_getElem?.mp m'
  obtain⟨o,e',_⟩:=(D.pl j l' hj).live
  exact ah (old _ (N.of y)) ⟨o,e▸e'⟩
 ·rcases dU e1 with q|⟨h1,e1⟩
  ·exact nomatch q
  ·rcases dU e2 with q|⟨h2,e2⟩
   ·exact nomatch q
   ·unfold gW at e3
    rw[if_neg (Nat.not_lt.mpr h1),if_neg (Nat.not_lt.mpr h2)]at e3
    have q:=D.once _ _ xs ys e1 e2 e3
    rw[<-Nat.sub_add_cancel h1,q,Nat.sub_add_cancel h2]
theorem sZ{W:Addr->Prop}{σ':List Slot}{dH:Nat->Option Value}(D:Dy (Z.over env W cs names C vars) σ' dH s')(hC:env.locals=C):di s'.heap C names cs vars:=
 ⟨hC▸D.eV.2,λx=>by
  by_cases m:x∈vars
  ·obtain⟨i,e⟩:=List.mem_iff_getElem?.mp m
   refine⟨dH i,λ_=>D.pl i _ ?_⟩
   show(vars.map _++Z.ls)[i]?=_
   rw[List.getElem?_append_left (by rw[List.length_map];exact(jb e).1),List.getElem?_map,e];rfl
  ·exact⟨none,λq=>absurd q m⟩,λa u=>(D.turn a u).2⟩
end
noncomputable def aK(scope:Scope):List Str:=(scope.names.filter λx=>(x.2==.local||x.2==.cell)&&!(x.1==(".0":Str))).map (·.1)
def hidden(vs:List Str)(x:Str):Str:=bif vs.contains x then("":Str)else x
def cY(sc:SC)(scope:Scope):SC:={sc with N:=fC sc.N scope.names,Γ:=aK scope++sc.Γ.map (hidden (aK scope)),top:=false}
noncomputable def i0(sc:SC)(scope:Scope):Bool:=
 scope.kind==.function&&(decide ((scope.names.map (·.1)).Nodup)&&(!((scope.names.map (·.1)).contains ("":Str))&&(!(sc.Γ.contains (".0":Str))&&
 scope.names.all (λx=>!(x.2==.free)||(sc.Γ.contains x.1&&(sc.N.lookup x.1==some .cell||sc.N.lookup x.1==some .free))))))
def Bw(scope:Scope)(cells:List (Str×Addr))(C:Addr)(env:Env):Env:=
 {scope:=relabel scope env,locals:=C,globals:=env.globals,cells:=cells,qual:=env.qual,func:=none,code:=env.code,frame:=env.frame,builtins:=env.builtins}
theorem yz{l:List Str}{x:Str}(h:(!(l.contains x))=true):x∉l:=λm=>by rw[List.contains_iff_mem.mpr m]at h;exact nomatch h
section
variable{sc:SC}{scope:Scope}{env:Env}{ls:List Loc}{C:Addr}{n:Nat}{cl:List (Str×Addr)}
structure jE(sc:SC)(scope:Scope):Prop where
 kind:scope.kind=.function
 nodup:(scope.names.map (·.1)).Nodup
 blank:("":Str)∉scope.names.map (·.1)
 dot:(".0":Str)∉sc.Γ
 free:∀x,(x,NameKind.free)∈scope.names->x∈sc.Γ/\(sc.N.lookup x=some .cell\/sc.N.lookup x=some .free)
theorem fD(hs:i0 sc scope=true):jE sc scope:=by
 obtain⟨h1,hs⟩:=both hs
 obtain⟨h2,hs⟩:=both hs
 obtain⟨h3,hs⟩:=both hs
 obtain⟨h4,hs⟩:=both hs
 refine⟨eq_of_beq h1,of_decide_eq_true h2,yz h3,yz h4,λx hx=>?_⟩
 have q:=both (List.all_eq_true.mp hs (x,.free) hx:(sc.Γ.contains x&&(sc.N.lookup x==some .cell||sc.N.lookup x==some .free))=true)
 exact⟨List.contains_iff_mem.mp q.1,(Bool.or_eq_true _ _▸q.2:_\/_).imp eq_of_beq eq_of_beq⟩
theorem qP{x:Str}:x∈aK scope->∃k,(x,k)∈scope.names/\(k=.local\/k=.cell)/\x≠(".0":Str):=λh=>by
 obtain⟨⟨y,k⟩,h1,rfl⟩:=List.mem_map.mp h
 obtain⟨h2,h3⟩:=List.mem_filter.mp h1
 have h3:=both h3
 exact⟨k,h2,(Bool.or_eq_true _ _▸h3.1:_\/_).imp eq_of_beq eq_of_beq,λq=>by rw[show((y,k).1==(".0":Str))=true from beq_iff_eq.mpr q]at h3;exact(nomatch h3.2)⟩
theorem jZ{x:Str}{k:NameKind}(h:(x,k)∈scope.names)(hk:((k==.local||k==.cell)&&!(x==(".0":Str)))=true):x∈aK scope:=List.mem_map.mpr ⟨(x,k),List.mem_filter.mpr ⟨h,hk⟩,rfl⟩
theorem nA(h:(scope.names.map (·.1)).Nodup):(aK scope).Nodup:=List.Sublist.nodup (List.Sublist.map _ List.filter_sublist) h
theorem wL(EO:bq env sc ls)(scope:Scope):(relabel scope env).names=fC sc.N scope.names:=by
 unfold relabel fC gF
 show List.map _ scope.names=List.map _ scope.names
 congr 1
 funext x
 obtain⟨n,k⟩:=x
 have:env.kindOf n=sc.N.lookup n:=by rw[<-EO.names];rfl
 simp only[EO.kind,this,beq_self_eq_true,Bool.and_true]
 cases(k==NameKind.free&&sc.N.lookup n==some NameKind.cell)<;>rfl
noncomputable def handed(names:List (Str×NameKind))(env:Env):List (Str×Addr):=(names.filter (·.2==.free)).reverse.map λx=>(x.1,(env.cells.lookup x.1).getD 0)
theorem tL{n:Str}{k:NameKind}{r:List (Str×NameKind)}{acc:List (Str×Addr)}:handed ((n,k)::r) env++acc=handed r env++(bif k==.free then(n,(env.cells.lookup n).getD 0)::acc else acc):=by
 unfold handed
 rw[List.filter_cons]
 cases k==NameKind.free with
 |true=>show(List.map _ (List.reverse (_::_)))++acc=_;rw[List.reverse_cons,List.map_append,List.append_assoc];rfl
 |false=>rfl
theorem xJ(EO:bq env sc ls)(S:jE sc scope){x:Str}(hx:(x,NameKind.free)∈scope.names):∃c,env.cells.lookup x=some c:=by
 obtain⟨h1,h2⟩:=S.free x hx
 obtain⟨i,e⟩:=List.mem_iff_getElem?.mp h1
 have hl:i<ls.length:=by rw[EO.len];exact(jb e).1
 exact(EO.L3 i x ls[i] e (List.getElem?_eq_getElem hl) h2).imp λ_ q=>q.1
theorem ny(EO:bq env sc ls)(S:jE sc scope):closureFor scope env=pure (handed scope.names env):=by
 have go:∀(names:List (Str×NameKind)) (acc:List (Str×Addr)),(∀p∈names,p∈scope.names)->
   (forIn names acc (λ(x:Str×NameKind) (cs:List (Str×Addr))=>(match x with|(name,kind)=>if kind==.free then(do let c<-cellOf env name;pure (ForInStep.yield ((name,c)::cs)))else pure (ForInStep.yield cs):Sem (ForInStep (List (Str×Addr))))))=
    pure (handed names env++acc):=by
  intro names
  induction names with
  |nil=>intro acc _;rfl
  |cons p r ih=>
   intro acc hp
   obtain⟨n,kd⟩:=p
   have hr:∀p∈r,p∈scope.names:=λq hq=>hp q (f5 _ hq)
   rw[List.forIn_cons,tL]
   cases hk:kd==NameKind.free with
   |true=>
    obtain rfl:=eq_of_beq hk
    obtain⟨c,hc⟩:=xJ EO S (hp _ eF)
    have e1:cellOf env n=pure c:=by unfold cellOf;rw[hc]
    show(do let y<-(do let c<-cellOf env n;pure (ForInStep.yield ((n,c)::acc)):Sem (ForInStep (List (Str×Addr))));_)=_
    rw[e1,hc]
    exact ih _ hr
   |false=>
    show(do let y<-(if kd==NameKind.free then(do let c<-cellOf env n;pure (ForInStep.yield ((n,c)::acc)))else pure (ForInStep.yield acc):Sem (ForInStep (List (Str×Addr))));_)=_
    rw[hk]
    exact ih _ hr
 unfold closureFor
 refine Eq.trans (congrArg (λt=>t>>=λcs=>pure cs) (Eq.trans ?_ (go scope.names [] λ_ q=>q))) ?_
 ·congr 1
 ·rw[pure_bind,List.append_nil]
theorem ji(EO:bq env sc ls)(S:jE sc scope){x:Str}(hx:(x,NameKind.free)∈scope.names):(handed scope.names env).lookup x=env.cells.lookup x:=by
 obtain⟨c,hc⟩:=xJ EO S hx
 rw[hc]
 refine bA ?_ (List.mem_map.mpr ⟨(x,NameKind.free),List.mem_reverse.mpr (List.mem_filter.mpr ⟨hx,rfl⟩),by rw[hc];rfl⟩)
 unfold handed
 rw[List.map_map,List.map_reverse]
 exact List.pairwise_reverse.mpr (List.Pairwise.imp (λh=>Ne.symm h) (List.Sublist.nodup (List.Sublist.map _ List.filter_sublist) S.nodup))
theorem n7{x:Str}{k:NameKind}(e:(fC sc.N scope.names).lookup x=some k):∃k',(x,k')∈scope.names/\gF sc.N x k'=k:=by
 rw[mj]at e
 exact aE e λk' e1 e2=>⟨k',mem_of_lookup e1,e2⟩
theorem zI{vs:List Str}{x y:Str}(e:hidden vs x=y):y=""\/(y∉vs/\x=y):=by
 unfold hidden at e
 cases h:vs.contains x with
 |true=>rw[h]at e;exact .inl e.symm
 |false=>
  rw[h]at e
  exact .inr ⟨λm=>by rw[<-(show x=y from e)]at m;rw[List.contains_iff_mem.mpr m]at h;exact(nomatch h),e⟩
theorem nD{vars Γ:List Str}{ps:List Loc}{g:Str->Loc}{i:Nat}{x:Str}{l:Loc}(e1:(vars++Γ.map (hidden vars))[i]?=some x)(e2:(vars.map g++ps)[i]?=some l):
  (x∈vars/\l=g x)\/(x=""\/(x∉vars/\∃j:Nat,Γ[j]?=some x/\ps[j]?=some l)):=by
 by_cases hi:i<vars.length
 ·rw[List.getElem?_append_left hi]at e1
  rw[List.getElem?_append_left (by rw[List.length_map];exact hi),List.getElem?_map,e1]at e2
  exact .inl ⟨List.mem_of_getElem? e1,(aq e2).symm⟩
 ·have hi:=Nat.not_lt.mp hi
  rw[List.getElem?_append_right hi,List.getElem?_map]at e1
  rw[List.getElem?_append_right (by rw[List.length_map];exact hi),List.length_map]at e2
  exact aE e1 λy h1 h2=>.inr ((zI h2).imp_right λq=>⟨q.1,_,q.2▸h1,e2⟩)
theorem sJ(EO:bq env sc ls)(S:jE sc scope):bq (Bw scope (cellsFrom n scope.names (handed scope.names env)) C env) (cY sc scope) ((aK scope).map (aT scope.names (cellsFrom n scope.names []) C)++ls):=by
 have rA:∀{k},(fC sc.N scope.names).lookup ("":Str)≠some k:=λq=>(n7 q).elim λk' q=>S.blank (List.mem_map.mpr ⟨_,q.1,rfl⟩)
 refine⟨S.kind,wL EO scope,EO.glob,EO.blt,?_,λi x l e1 e2 e3=>?_,λi x l e1 e2 e3=>?_⟩
 ·show _=((aK scope)++sc.Γ.map _).length
  rw[ay,ay,List.length_map,List.length_map,EO.len]
 ·obtain⟨k,hk,ek⟩:=n7 (k:=.local) e3
  have hk:(x,NameKind.local)∈scope.names:=by
   unfold gF at ek
   cases q:(k==NameKind.free&&sc.N.lookup x==some .cell)with
   |true=>rw[q]at ek;exact nomatch ek
   |false=>rw[q]at ek;exact(show k=NameKind.local from ek)▸hk
  rcases nD e1 e2 with⟨_,rfl⟩|rfl|⟨h1,j,h2,_⟩
  ·unfold aT
   rw[bA S.nodup hk];rfl
  ·exact absurd e3 rA
  ·refine absurd (jZ hk ?_) h1
   cases q:x==(".0":Str)with
   |true=>exact absurd (eq_of_beq q▸List.mem_of_getElem? h2) S.dot
   |false=>rfl
 ·show∃c,(cellsFrom n scope.names (handed scope.names env)).lookup x=some c/\_
  obtain⟨k,hk,ek⟩:∃k,(x,k)∈scope.names/\(k=.cell\/k=.free):=by
   rcases e3 with e3|e3
   all_goals
    obtain⟨k,hk,ek⟩:=n7 e3
    refine⟨k,hk,?_⟩
    cases k with
    |cell=>exact .inl rfl
    |free=>exact .inr rfl
    |_=>exact nomatch ek
  rw[qK,List.lookup_append]
  have own:k=.cell->∃c,(cellsFrom n scope.names []).lookup x=some c:=λq=>Option.isSome_iff_exists.mp (ni x _ n [] (.inl (q▸hk)))
  rcases nD e1 e2 with⟨h1,rfl⟩|rfl|⟨h1,j,h2,h3⟩
  ·obtain⟨k',h4,h5,_⟩:=qP h1
   have e:k=k':=aq ((bA S.nodup hk).symm.trans (bA S.nodup h4))
   obtain rfl:k=.cell:=ek.resolve_right λq=>by rw[<-e,q]at h5;exact h5.elim (λq=>nomatch q) λq=>nomatch q
   obtain⟨c,hc⟩:=own rfl
   refine⟨c,by rw[hc];rfl,?_⟩
   unfold aT
   rw[bA S.nodup hk,hc];rfl
  ·exact e3.elim (λq=>absurd q rA) λq=>absurd q rA
  ·obtain rfl:k=.free:=ek.resolve_left λq=>h1 (jZ (q▸hk) (by
    cases z:x==(".0":Str)with
    |true=>exact absurd (eq_of_beq z▸List.mem_of_getElem? h2) S.dot
    |false=>rfl))
   obtain⟨c,h4,h5⟩:=EO.L3 j x l h2 h3 (S.free x hk).2
   refine⟨c,?_,h5⟩
   have:(cellsFrom n scope.names []).lookup x=none:=by
    cases q:(cellsFrom n scope.names []).lookup x with
    |none=>rfl
    |some c'=>
     have hm:=(sD scope.names n [] (mem_of_lookup q)).elim id λq=>(nomatch q)
     exact nomatch (bA S.nodup hm).symm.trans (bA S.nodup hk)
   rw[this,ji EO S hk,h4];rfl
end
section
variable{Ar:Around}{s:Shared}{env:Env}
theorem rz{M:Model}{E:Value->Shared->Prop}{scope:Scope}{cl:List (Str×Addr)}{Q:Env->Shared->Prop}
  (h:Q {scope:=scope,locals:=s.heap.objs.size,globals:=env.globals,cells:=cellsFrom (s.heap.objs.size+1) scope.names cl,qual:=env.qual,func:=none,code:=env.code,frame:=env.frame,builtins:=env.builtins}
   {s with heap:=pushCells (s.heap.push {cls:=.type "dict",data:=.dict #[]}) scope.names}):wpAny M Ar (newFunctionEnv scope env.globals cl [] env.qual none .none (some env)) Q E s:=by
 simp only[newFunctionEnv,Option.isSome_some,if_true]
 refine wpAny_bind (wpAny_alloc ?_)
 refine wpAny_bind (wpAny_layCells _ (λname kind cells=>by cases hkc:kind==NameKind.cell<;>simp[hkc]) _ _ _ _ ?_)
 rw[show({s with heap:=s.heap.push {cls:=.type "dict",data:=.dict #[]}}:Shared).heap.objs.size=s.heap.objs.size+1 from Heap.size_push ..]
 rw[List.forIn_nil]
 exact wpAny_bind (wpAny_pure (wpAny_pure h))
noncomputable abbrev DV (ifs:List Expr) (env:Env):Sem Bool:=forIn ifs true λc r=>if r=true then do let ok<-isTrue c env (eval c env);pure (ForInStep.yield ok)else pure (ForInStep.yield r)
theorem qN{prog:Program}{w:World}{R:Result->Shared->Prop}{elt target iter:Expr}{ifs:List Expr}{scope:Scope}{pos:Pos}{it acc:Value}{env:Env}(I:Nat->Shared->Prop)
  (turn:∀n s,I n s->∀E:Value->Shared->Prop,wpAny (model prog w) Ar (pyNext it) (λr s₁=>Option.casesOn r (R (.ok .next) s₁) λv=>wpAny (model prog w) Ar (letOwnedTupleGo target it v) (λ_ s₁'=>wpAny (model prog w) Ar (assign target env v) (λ_ s₂=>
     wpAny (model prog w) Ar (DV ifs env) (λok s₃=>Bool.casesOn ok (∃m,m<n/\I m s₃) (wpAny (model prog w) Ar (eval elt env) (λx s₄=>wpAny (model prog w) Ar (call (.builtin "list.append") [acc,x]) (λ_ s₅=>∃m,m<n/\I m s₅) E s₄) E s₃)) E s₂) E s₁') E s₁) E s)
  (n:Nat) (h:I n s):codeAny (model prog w) Ar (.compLoop (.ListComp elt [⟨target,iter,ifs,0⟩] scope pos) 0 it acc env) R s:=by
 refine codeAny_loop rfl I (λn s hI=>?_) n h
 show wpAny _ Ar ((compTurn (.ListComp elt [⟨target,iter,ifs,0⟩] scope pos) 0 it acc env).onRaise (λx=>do noteFrame x env;theTreesLotGoes x)) _ _ s
 refine wpAny_noted ?_
 rw[compTurn_list]
 refine wpAny_bind (wpAny_standAt (wpAny_bind (wpAny_mono (turn n s hI _) (λr s₁ h₁=>?_) λ_ _ h'=>h')))
 cases r with
 |none=>exact wpAny_pure h₁
 |some v=>
  refine wpAny_bind (wpAny_mono h₁ (λ_ s₁' h₁'=>?_) λ_ _ h'=>h')
  refine wpAny_bind (wpAny_mono h₁' (λ_ s₂ h₂=>wpAny_bind (wpAny_mono h₂ (λok s₃ h₃=>?_) λ_ _ h'=>h')) λ_ _ h'=>h')
  cases ok with
  |false=>exact wpAny_pure ⟨rfl,h₃⟩
  |true=>exact wpAny_bind (wpAny_bind (wpAny_mono h₃ (λx s₄ h₄=>wpAny_bind (wpAny_mono h₄ (λ_ s₅ h₅=>wpAny_pure (wpAny_pure ⟨rfl,h₅⟩)) λ_ _ h'=>h')) λ_ _ h'=>h'))
end
theorem St.on{X:Cx}{K K':Addr->Prop}{g g':Nat}{s s' s'':Shared}(x:St X K g s s')(y:St X K' g' s' s'')(h:∀a o,K a->s.heap.get? a=some o->K' a)(hg:g<=g'):St X K g s s'':=
 ⟨λa o k e=>y.off a o (h a o k e) (x.off a o k e),λq=>y.G (x.G q),λi z l e=>y.gens i z (Nat.lt_of_lt_of_le l hg) (x.gens i z l e),λb=>y.bare (x.bare b),y.os.trans x.os⟩
theorem iF{vs:List Value}{n:Nat}:bR (aU vs n):=.inl λq=>by
 injection q with q
 exact absurd q (by decide)
section
variable{Z:Fr}{K:Addr->Prop}{tp:Bool}{it:Value}{xs:List PV}{W₀ W W':Addr->Prop}{S:(Addr->Prop)->Nat->Shared->Prop}{s s₁ s' s'':Shared}{Da C:Addr}{names:List (Str×NameKind)}{cs:List (Str×Addr)}{vars:List Str}{i j:Nat}{done:List PV}{vs:List Value}
def Fr.In(Z:Fr)(C:Addr)(cs:List (Str×Addr))(W:Addr->Prop)(Da a:Addr):Prop:=(Z.B a/\¬aA C cs a)/\¬(W a\/a=Da)
structure Mid(Z:Fr)(s:Shared)(S:(Addr->Prop)->Nat->Shared->Prop)(Da C:Addr)(names:List (Str×NameKind))(cs:List (Str×Addr))(vars:List Str)(W:Addr->Prop)(i:Nat)(done:List PV)(vs:List Value)(s':Shared):Prop where
 st:S W i s'
 wo:∀a,W a->(s.heap.get? a=none/\∃o,s'.heap.get? a=some o)/\(Z.X.N<=a/\(a≠Da/\¬aA C cs a))
 x:aJ Z.X Z.X.V s s'
 fr:di s'.heap C names cs vars
 l:∃n,s'.heap.get? Da=some (aU vs n)
 r:Internal.af s'.heap (Z.In C cs W Da) done vs
structure E4(Z:Fr)(s:Shared)(Da C:Addr)(names:List (Str×NameKind))(cs:List (Str×Addr)):Prop where
 V:Bs Z s
 N:bF C names cs
 hi:∀a,aA C cs a->s.heap.get? a=none/\Z.X.N<=a
 dn:s.heap.get? Da=none/\Z.X.N<=Da
 ap:¬aA C cs Da
theorem Mid.next(M:Mid Z s S Da C names cs vars W i done vs s')(c:E4 Z s Da C names cs)(y:St Z.X (Z.X.VW W) s.gens.size s' s'')(h1:∀a,W' a->W a\/s'.heap.get? a=none)(hm:∀a,W' a->mD Z.X.N s''.heap a)(st:S W' j s''):Mid Z s S Da C names cs vars W' j done vs s'':=
 have fk:∀a o,aA C cs a->s'.heap.get? a=some o->s''.heap.get? a=some o:=λa o u e=>y.off a o ⟨.inl (c.hi _ u).2,λw=>(M.wo a w).2.2.2 u⟩ e
 {st:=st
  wo:=λa w=>(h1 a w).elim (λq=>⟨⟨(M.wo a q).1.1,(hm a w).2.imp λ_ q=>q.1⟩,(M.wo a q).2⟩) λq=>⟨⟨M.x.live (.inl (hm a w).1) q,(hm a w).2.imp λ_ q=>q.1⟩,(hm a w).1,
   λe=>ah (e▸q) (M.l.elim λn q=>⟨_,q⟩),λu=>ah q ((M.fr.mu a u).imp λ_ q=>q.1)⟩
  x:=M.x.on y (λa o v e=>⟨v,λw=>ah (M.wo a w).1.1 ⟨o,e⟩⟩) (Nat.le_refl _)
  fr:=M.fr.keep c.N fk
  l:=M.l.imp λn e=>y.off _ _ ⟨.inl c.dn.2,λw=>(M.wo _ w).2.2.1 rfl⟩ e
  r:=Internal.af.move (λa o b e=>⟨⟨b.1,λq=>q.elim (λw=>(h1 a w).elim (λq=>b.2 (.inl q)) λq=>ah q ⟨o,e⟩) λq=>b.2 (.inr q)⟩,y.off a o ⟨c.V.sub a b.1.1,λw=>b.2 (.inl w)⟩ e⟩) M.r}
theorem Mid.to(M:Mid Z s S Da C names cs vars W i done vs s')(c:E4 Z s Da C names cs)(y:aJ Z.X (λa=>Z.X.V a/\¬aA C cs a) s' s'')(st:S W i s'')(fr:di s''.heap C names cs vars):Mid Z s S Da C names cs vars W i done vs s'':=
 {st:=st
  wo:=λa w=>⟨⟨(M.wo a w).1.1,(M.wo a w).1.2.imp λo e=>y.off a o ⟨.inl (M.wo a w).2.1,(M.wo a w).2.2.2⟩ e⟩,(M.wo a w).2⟩
  x:=M.x.on y (λa o v e=>⟨v,λu=>ah (c.hi _ u).1 ⟨o,e⟩⟩) M.x.size
  fr:=fr
  l:=M.l.imp λn e=>y.off _ _ ⟨.inl c.dn.2,c.ap⟩ e
  r:=Internal.af.move (λa o b e=>⟨b,y.off a o ⟨c.V.sub a b.1.1,b.1.2⟩ e⟩) M.r}
theorem Mid.push(M:Mid Z s S Da C names cs vars W i done vs s')(c:E4 Z s Da C names cs){h':Heap}{v:Value}{p:PV}{n:Nat}(e:h'.get? Da=some (aU (vs++[v]) n))(k:∀a o,a≠Da->s'.heap.get? a=some o->h'.get? a=some o)
  (r:Internal.Rep s'.heap (Z.In C cs W Da) p v) (st:S W i {s' with heap:=h'}):aJ Z.X (λa=>Z.X.V a/\a≠Da) s' {s' with heap:=h'}->Mid Z s S Da C names cs vars W i (done++[p]) (vs++[v]) {s' with heap:=h'}:=λy=>
 {st:=st
  wo:=λa w=>⟨⟨(M.wo a w).1.1,(M.wo a w).1.2.imp λo e=>k a o (M.wo a w).2.2.1 e⟩,(M.wo a w).2⟩
  x:=M.x.on y (λa o v e=>⟨v,λu=>ah (u▸c.dn.1) ⟨o,e⟩⟩) M.x.size
  fr:=M.fr.keep c.N λa o u e=>k a o (λq=>c.ap (q▸u)) e
  l:=⟨n,e⟩
  r:=af.append (af.cons (r.move λa o b e=>⟨b,k a o (λq=>b.2 (.inr q)) e⟩) af.nil) (Internal.af.move (λa o b e=>⟨b,k a o (λq=>b.2 (.inr q)) e⟩) M.r)}
end
structure SF(sc:SC)where
 es:List Expr
 ev:bO->List Slot->Option Bool
 ok:∀{Z:Fr} {σ:List Slot} {ws:Nat->Option Value} {s:Shared} {b:Bool},Ev Z sc σ ws s->ev Z.Φ σ=some b->r8 Z s b (DV es Z.env)
def SF.all{sc:SC}:SF sc:=⟨[],λ_ _=>some true,λ{Z σ ws s b} V e Q E q=>by rw[<-aq e]at q;unfold DV;rw[List.forIn_nil];exact wpAny_pure (q _ .refl)⟩
def fq{sc:SC}(tg:SP sc)(ifs:SF sc)(elt:SE sc)(k:Nat)(Φ:bO)(σ:List Slot)(xs:List PV):Option (List PV):=
 List.rec (motive:=λ_=>Option (List PV)) (some []) (λx _ r=>(tg.bind x (dF k σ)).bind λσ'=>(ifs.ev Φ σ').bind λb=>bif b then(elt.ev Φ σ').bind λy=>r.map (y::·)else r) xs
structure Cp(sc:SC)where
 scope:Scope
 it:SI sc
 tg:SP (cY sc scope)
 ifs:SF (cY sc scope)
 elt:SE (cY sc scope)
 pos:Pos
 h:(i0 sc scope&&(tg.ts.all (λt=>Nat.blt t.i (aK scope).length)&&(!it.need||tg.tp)))=true
section
variable{sc:SC}{Z:Fr}{σ:List Slot}{ws:Nat->Option Value}{s s':Shared}
def Cp.e(c:Cp sc):Expr:=.ListComp c.elt.e [⟨c.tg.e,c.it.e,c.ifs.es,0⟩] c.scope c.pos
def Cp.ev(c:Cp sc)(Φ:bO)(σ:List Slot):Option (List PV):=(c.it.ev Φ σ).bind λxs=>(fq c.tg c.ifs c.elt (aK c.scope).length Φ σ xs).bind λys=>bif fits ys.length then some ys else none
theorem nV{xs:List PV}{i:Nat}{x:PV}(e:xs[i]?=some x):xs.drop i=x::xs.drop (i+1):=by
 obtain⟨h,e⟩:=jb e
 rw[List.drop_eq_getElem_cons h,e]
theorem BJ{done rest ys:List PV}{n:Nat}(e:done++rest=ys)(h:ys.length<=n):done.length<=n:=Nat.le_trans (by rw[<-e,ay];exact Nat.le_add_right _ _) h
theorem sI{tg:SP sc}{ifs:SF sc}{elt:SE sc}{k:Nat}{Φ:bO}{x:PV}{xs ys:List PV}(e:fq tg ifs elt k Φ σ (x::xs)=some ys):
  ∃σ' b,tg.bind x (dF k σ)=some σ'/\ifs.ev Φ σ'=some b/\(bif b then(elt.ev Φ σ').bind λy=>(fq tg ifs elt k Φ σ xs).map (y::·)else fq tg ifs elt k Φ σ xs)=some ys:=
 aa e λσ' e1 e=>aa e λb e2 e=>⟨σ',b,e1,e2,e⟩
inductive xj{sc:SC}{scope:Scope}(Z:Fr)(s:Shared)(S:(Addr->Prop)->Nat->Shared->Prop)(Da C:Addr)(cs:List (Str×Addr))(tg:SP (cY sc scope))(ifs:SF (cY sc scope))(elt:SE (cY sc scope))(σ:List Slot)(xs ys:List PV)(n:Nat)(s':Shared):Prop
 |mk (W:Addr->Prop) (i:Nat) (done rest:List PV) (vs:List Value) (hn:n=xs.length-i/\i<=xs.length) (M:Mid Z s S Da C scope.names cs (aK scope) W i done vs s') (hm:fq tg ifs elt (aK scope).length Z.Φ σ (xs.drop i)=some rest) (hd:done++rest=ys):xj Z s S Da C cs tg ifs elt σ xs ys n s'
theorem zp{scope:Scope}{tg:SP (cY sc scope)}{ifs:SF (cY sc scope)}{elt:SE (cY sc scope)}{iter:Expr}{pos:Pos}{it:Value}{W₀:Addr->Prop}{S:(Addr->Prop)->Nat->Shared->Prop}{s₂:Shared}{h₄:Heap}{tk:Nat}{Da C:Addr}{cs:List (Str×Addr)}{env:Env}{xs ys:List PV}
  (hv:(aK scope).Nodup) (hw:∀t∈tg.ts,t.i<(aK scope).length) (V:Ev Z sc σ ws s) (x₂:aJ Z.X Z.X.V s s₂) (I:Iter Z Z.X.V tg.tp it xs W₀ S s s₂) (e:fq tg ifs elt (aK scope).length Z.Φ σ xs=some ys) (hy:ys.length<=1000000)
  (c:E4 Z s Da C scope.names cs) (old:∀a,(aA C cs a\/a=Da)->s₂.heap.get? a=none) (EO:bq env (cY sc scope) ((aK scope).map (aT scope.names cs C)++Z.ls)) (hC:env.locals=C) {R:Result->Shared->Prop}
  (F:di h₄ C scope.names cs (aK scope)) (lI:Ext s₂.heap h₄) (hl:h₄.get? Da=some (aU [] 0))
  (hR:∀vs s',aJ Z.X Z.X.V s s'->(∃m,s'.heap.Ns C m)->(∃n,s'.heap.get? Da=some (aU vs n))->Internal.af s'.heap (λa=>(Z.B a/\¬aA C cs a)/\a≠Da) ys vs->R (.ok .next) s'):
  codeAny Z.X.M Z.Ar (.compLoop (.ListComp elt.e [⟨tg.e,iter,ifs.es,0⟩] scope pos) 0 it (.ref Da) env) R {s₂ with heap:=h₄,toks:=tk}:=by
 have HS:aJ Z.X Z.X.V s₂ {s₂ with heap:=h₄,toks:=tk}:=(V.step x₂).toBs.ext lI
 refine qN (xj Z s S Da C cs tg ifs elt σ xs ys) ?_ xs.length
  ⟨W₀,0,[],ys,[],⟨rfl,Nat.zero_le _⟩,⟨I.keep _ _ _ _ _ I.start HS (λa w=>.inl (I.lz _ _ _ I.start a w).1) λ_ _ k _=>k,λa w=>?_,x₂.trans HS,F,⟨0,hl⟩,af.nil⟩,e,rfl⟩
 ·rintro n s' ⟨W,i,done,rest,vs,⟨hn,hi⟩,M,hm,hd⟩ E
  cases hxi:xs[i]? with
  |none=>
   obtain rfl:i=xs.length:=Nat.le_antisymm hi (List.getElem?_eq_none_iff.mp hxi)
   refine I.done W s' _ _ M.st (M.x.G V.g) λs'' y=>?_
   rw[List.drop_length]at hm
   obtain rfl:=aq hm
   rw[List.append_nil]at hd
   subst hd
   exact hR vs s'' (M.x.on y (λa o v e=>⟨v,λw=>ah (M.wo a w).1.1 ⟨o,e⟩⟩) (Nat.le_refl _)) (M.fr.ns.imp λm q=>q.at' λo e=>y.off _ o ⟨.inl (c.hi C (.inl rfl)).2,λw=>(M.wo _ w).2.2.2 (.inl rfl)⟩ e)
    (M.l.imp λn e=>y.off _ _ ⟨.inl c.dn.2,λw=>(M.wo _ w).2.2.1 rfl⟩ e) (Internal.af.move (λa o b e=>⟨⟨b.1,λq=>b.2 (.inr q)⟩,y.off a o ⟨V.sub a b.1.1,λw=>b.2 (.inl w)⟩ e⟩) M.r)
  |some x=>
   have hlt:i<xs.length:=(jb hxi).1
   have less:xs.length-(i+1)<n:=hn▸Nat.sub_lt_sub_left hlt (Nat.lt_succ_self i)
   rw[nV hxi]at hm
   obtain⟨σ',b,e1,e2,e3⟩:=sI hm
   refine I.item W i x tg.e hxi tg.ht (λa=>(Z.B a/\¬aA C cs a)/\a≠Da) s' _ _ (λa o b e=>⟨⟨b,λu=>ah (old a (.inl u)) ⟨o,e⟩⟩,λu=>ah (old a (.inr u)) ⟨o,e⟩⟩)
    (λa n e=>⟨⟨V.fresh a n (M.x.live (.inl n) e),λu=>ah e ((M.fr.mu a u).imp λ_ q=>q.1)⟩,λu=>ah (u▸e) (M.l.elim λn q=>⟨_,q⟩)⟩) M.st (M.x.G V.g) λW' v sa h1 h2 h3 ya rv go=>?_
   refine go _ _ λsb yb Lj=>?_
   have y:St Z.X (Z.X.VW W) s.gens.size s' sb:=ya.on yb (λa o k e=>⟨k.1,λw=>(h2 a w).elim k.2 λq=>ah q ⟨o,e⟩⟩) (Nat.le_refl _)
   have Mb:=M.next c y h2 (I.lz W' (i+1) sb Lj) Lj
   obtain⟨wb,Db⟩:=B6 (W:=λa=>W' a\/a=Da) V.toDy Mb.x c.N c.hi Mb.fr hC hv (λa q=>q.elim (λw=>(Mb.wo a w).1) λq=>q▸⟨c.dn.1,Mb.l.elim λn q=>⟨_,q⟩⟩)
   refine tg.ok Db EO hw (rv.move λa o b e=>⟨⟨b.1.1,λq=>q.elim b.2 b.1.2⟩,yb.off a o ⟨V.sub a b.1.1.1,b.2⟩ e⟩) e1 λwc I8 yc Dc=>?_
   have Vc:Ev (Z.over env (λa=>W' a\/a=Da) cs scope.names C (aK scope)) (cY sc scope) σ' wc I8:=⟨Dc,V.P,EO,V.nm,nofun⟩
   refine ifs.ok Vc e2 _ _ λsd yd=>?_
   have Vd:=Vc.step yd
   have yk:aJ Z.X (λa=>Z.X.V a/\¬aA C cs a) sb sd:=yc.trans yd.toK
   have mid:∀{sx:Shared},aJ Z.X (λa=>Z.X.V a/\¬aA C cs a) sb sx->di sx.heap C scope.names cs (aK scope)->Mid Z s S Da C scope.names cs (aK scope) W' (i+1) done vs sx:=λy fr=>
    Mb.to c y (I.keep W' (i+1) sb _ _ Lj y (λa w=>⟨.inl (Mb.wo a w).2.1,(Mb.wo a w).2.2.2⟩) λa o k e=>⟨k,λu=>ah (old a (.inl u)) ⟨o,e⟩⟩) fr
   cases b with
   |false=>exact⟨_,less,W',i+1,done,rest,vs,⟨rfl,hlt⟩,mid yk (sZ Vd.toDy hC),e3,hd⟩
   |true=>
    refine aa e3 λp e3 e4=>aE e4 λrest' e4 e5=>elt.go Vd e3 λv' s5 y5 V5 r5=>?_
    have M5:=mid (yk.trans y5.toK) (sZ V5.toDy hC)
    obtain⟨n5,l5⟩:=M5.l
    refine wpAny_list_append_plain (items:=vs.toArray) ⟨n5,l5⟩ (λh' hl' hs'=>?_) (by rw[List.size_toArray,M5.r.length];exact bT (BJ hd hy))
    obtain⟨n6,l6⟩:=hl'
    rw[List.push_toArray]at l6
    have k6:∀a o,a≠Da->s5.heap.get? a=some o->h'.get? a=some o:=λa o n e=>hs'.extBut a o n e
    have y6:aJ Z.X (λa=>Z.X.V a/\a≠Da) s5 {s5 with heap:=h'}:=⟨λa o n e=>k6 a o n.2 e,λg=>V.K.Gk _ _ (λa=>a=Da) g (λa q=>q▸⟨c.dn.2,_,l5,iF⟩) k6,λ_ _ _ e=>e,id,rfl⟩
    exact⟨_,less,W',i+1,done++[p],rest',vs++[v'],⟨rfl,hlt⟩,M5.push c l6 k6 r5 (I.keep W' (i+1) s5 _ _ M5.st y6 (λa w=>⟨.inl (M5.wo a w).2.1,(M5.wo a w).2.2.1⟩) λa o k e=>⟨k,λu=>ah (old a (.inr u)) ⟨o,e⟩⟩) y6,e4,by rw[List.append_assoc];exact(congrArg (done++·) e5).trans hd⟩
 ·obtain⟨n,o,q,_⟩:=I.lz _ _ _ I.start a w
  exact⟨⟨I.new a w,o,lI a o q⟩,n,λh=>ah (old a (.inr h)) ⟨o,q⟩,λh=>ah (old a (.inl h)) ⟨o,q⟩⟩
end
section
variable{sc:SC}{Z:Fr}{σ:List Slot}{ws:Nat->Option Value}{s s':Shared}
theorem Dl{ys zs:List PV}{P:Prop}(e:(bif fits ys.length then some ys else none)=some zs)(k:ys.length<=1000000->ys=zs->P):P:=by
 cases h:fits ys.length with
 |true=>rw[h]at e;exact k (aQ h) (aq e)
 |false=>rw[h]at e;exact no e
theorem Cp.core(c:Cp sc){ys:List PV}(V:Ev Z sc σ ws s)(e:c.ev Z.Φ σ=some ys){p:Pos}{use:Option (Value->Sem Unit)}{Q:Value->Shared->Prop}{E:Value->Shared->Prop}
  (hQ:∀(a:Addr) (vs:List Value) (n:Nat) (C:Addr) (m:Str->Option Value) (s':Shared),aJ Z.X Z.X.V s s'->s.heap.get? a=none->s.heap.get? C=none->a≠C->s'.heap.get? a=some (aU vs n)->Internal.af s'.heap (λb=>(Z.B b/\b≠C)/\b≠a) ys vs->s'.heap.Ns C m->Z.X.N<=a->Z.X.N<=C->
   compPost Z.X.M Z.Ar E use Q (.ref a) C (.ok .next) s'):
  wpAny Z.X.M Z.Ar (comprehension c.e c.scope Z.env p (newList []) false (eval c.it.e Z.env) use) Q E s:=by
 obtain⟨hs,hc⟩:=both c.h
 obtain⟨hk,hn⟩:=both hc
 have S:=fD hs
 refine aa e λxs e1 e=>aa e λys' e2 e=>Dl e λhy he=>?_
 subst he
 refine wpAny_comprehension_free rfl (c.it.pl.fd _) (ny V.EO S) S.kind (λx hx hl=>bA S.nodup (hl▸hx)) ?_
 refine c.it.ok V e1 Z.X.V c.tg.tp V.sub (λq=>by rw[q]at hn;exact hn) _ _ λit' W₀ St s₂ x₂ I=>?_
 refine wpAny_newList (rz ?_)
 have aD:=V.step x₂
 obtain⟨N,hi,F,_,K⟩:=jQ (s₂.heap.push (aU [] 0)) c.scope.names (.type "dict") (aK c.scope)
 have DN:Z.X.N<=s₂.heap.objs.size:=V.K.size _ aD.g
 have z:(s₂.heap.push (aU [] 0)).objs.size=s₂.heap.objs.size+1:=Heap.size_push _ _
 have hi:∀a,aA (s₂.heap.push (aU [] 0)).objs.size (cellsFrom ((s₂.heap.push (aU [] 0)).objs.size+1) c.scope.names []) a->s₂.heap.objs.size<a:=λa u=>Nat.lt_of_lt_of_le (z▸Nat.lt_succ_self _) (hi a u)
 have old:∀{a},s₂.heap.objs.size<=a->s.heap.get? a=none:=λl=>x₂.live (.inl (Nat.le_trans DN l)) (eK l)
 have lI:Ext s₂.heap (pushCells ((s₂.heap.push (aU [] 0)).push {cls:=.type "dict",data:=.dict #[]}) c.scope.names):=λa o e=>K a o (Ext.push _ _ a o e)
 have HS:aJ Z.X Z.X.V s₂ {s₂ with heap:=pushCells ((s₂.heap.push (aU [] 0)).push {cls:=.type "dict",data:=.dict #[]}) c.scope.names}:=aD.toBs.ext lI
 have zC:s₂.heap.objs.size<(s₂.heap.push (aU [] 0)).objs.size:=z▸Nat.lt_succ_self _
 have go:=zp (elt:=c.elt) (ifs:=c.ifs) (iter:=c.it.e) (pos:=c.pos) (tk:=s₂.toks) (nA S.nodup) (λt m=>Nat.blt_eq.mp (List.all_eq_true.mp hk t m)) V x₂ I e2 hy
  ⟨V.toBs,N,λa u=>⟨old (Nat.le_of_lt (hi a u)),Nat.le_trans DN (Nat.le_of_lt (hi a u))⟩,⟨old (Nat.le_refl _),DN⟩,λu=>Nat.lt_irrefl _ (hi _ u)⟩ (λa u=>eK (u.elim (λu=>Nat.le_of_lt (hi a u)) λu=>Nat.le_of_eq u.symm)) (sJ V.EO S) rfl
  (R:=compPost Z.X.M Z.Ar E use Q (.ref s₂.heap.objs.size) (s₂.heap.push (aU [] 0)).objs.size) F lI (K _ _ (Heap.get?_push_size _ rfl)) λvs s' x n l r=>n.elim λm n=>l.elim λk l=>
   hQ _ vs k _ m s' x (old (Nat.le_refl _)) (old (Nat.le_of_lt zC)) (Nat.ne_of_lt zC) l (Internal.af.move (λa o b e=>⟨⟨⟨b.1.1,λq=>b.1.2 (.inl q)⟩,b.2⟩,e⟩) r) n DN (Nat.le_trans DN (Nat.le_of_lt zC))
 exact codeAny_compStart_list go (I.self W₀ _ _ _ (I.keep _ _ _ _ _ I.start HS (λa w=>.inl (I.lz _ _ _ I.start a w).1) λ_ _ k _=>k) go)
theorem Bx(V:Bs Z s){C:Addr}{m:Str->Option Value}{h':Heap}(x:aJ Z.X Z.X.V s s')(hC:s.heap.get? C=none)(hN:Z.X.N<=C)(hm:s'.heap.Ns C m)(hs:Heap.SameBut C s'.heap h'):aJ Z.X Z.X.V s {s' with heap:=h'}:=by
 have nC:∀a o,s.heap.get? a=some o->a≠C:=λa o e q=>ah (q▸hC) ⟨o,e⟩
 refine⟨λa o n e=>hs.extBut a o (nC a o e) (x.off a o n e),λg=>V.K.Gk _ _ (λa=>a=C) (x.G g) (λa q=>q▸⟨hN,?_⟩) (λa o n e=>hs.extBut a o n e),x.gens,x.bare,x.os⟩
 obtain⟨o,e,n,_⟩:=(show At s'.heap _ (.loc C "")from⟨m,hm,rfl⟩).live
 exact⟨o,e,n⟩
def SE.comp(c:Cp sc):SE sc:=⟨c.e,λΦ σ=>(c.ev Φ σ).map .lst,⟨λ_ _=>rfl,λop=>by cases op<;>rfl,λ_ _=>rfl⟩,
 λ{Z σ ws s p} V e Q E h=>aE e λys e1 e2=>by
  subst e2
  unfold Cp.e
  rw[eval_ListComp]
  refine c.core (p:=firstIterPos [⟨c.tg.e,c.it.e,c.ifs.es,0⟩] c.pos) V e1 λa vs n C m s' x ha hC hne hl hr hm hN Cq=>?_
  refine⟨m,hm,λh' hs=>h _ _ (Bx V.toBs x hC Cq hm hs) (Rep.oi (V.fresh a hN ha) (hs.extBut _ _ hne hl) (Internal.af.move (λb o k e=>⟨k.1.1,hs.extBut b o k.1.2 e⟩) hr))⟩⟩
end
inductive Out
 |next (σ:List Slot)
 |brk (σ:List Slot)
 |ret (p:PV)
noncomputable def Fr.bu(Z:Fr)(B U:Addr->Prop):Fr:={Z with B:=B,U:=U}
structure Ey(Z:Fr)(sc:SC)(σ:List Slot)(ws:Nat->Option Value)(s:Shared):Prop extends Ev Z sc σ ws s where
 al:Z.ls.length<=Z.ow
structure Ex(Z:Fr)(sc:SC)(σ:List Slot)(ws:Nat->Option Value)(s:Shared):Prop extends Ey Z sc σ ws s where
 to:∀(i:Nat) (x:Str),kX sc i x=true->i<Z.wr
def xq(Z:Fr)(s:Shared)(a:Addr):Prop:=Z.X.N<=a/\s.heap.get? a=none
structure aI(Z:Fr)(s s':Shared)(B U:Addr->Prop):Prop where
 x:aJ Z.X Z.K s s'
 hU:∀a,U a->Z.U a\/xq Z s a
 hB:∀a,B a->Z.B a\/(Z.U a\/xq Z s a)
 kB:∀a o,Z.B a->s.heap.get? a=some o->B a
 al:∀a,Z.U a->∃o,s'.heap.get? a=some o
def Ends(Z:Fr)(sc:SC)(o:Out)(f:Flow)(s:Shared):Prop:=Out.casesOn (motive:=λ_=>Prop) o (λσ=>f=.next/\∃ws,Ex Z sc σ ws s) (λσ=>f=.brk/\∃ws,Ex Z sc σ ws s) (λp=>∃v,f=.ret v/\Z.Rep s.heap p v)
def l8(Z:Fr)(sc:SC)(s:Shared)(o:Out)(t:Sem Flow):Prop:=∀(Q:Flow->Shared->Prop) (E:Value->Shared->Prop),(∀f s' B U,aI Z s s' B U->Ends (Z.bu B U) sc o f s'->Q f s')->wpAny Z.X.M Z.Ar t Q E s
section
variable{sc:SC}{Z:Fr}{σ σ':List Slot}{ws dH:Nat->Option Value}{s s' s'':Shared}{o:Out}{f:Flow}{t:Sem Flow}{Q:Flow->Shared->Prop}{E:Value->Shared->Prop}{B U B' U':Addr->Prop}{a:Addr}
theorem Ex.step(V:Ex Z sc σ ws s)(x:aJ Z.X Z.X.V s s'):Ex Z sc σ ws s':=⟨⟨V.toEv.step x,V.al⟩,V.to⟩
theorem Ex.val(V:Ex Z sc σ ws s)(D:Dy Z σ' dH s'):Ex Z sc σ' dH s':=⟨⟨⟨D,V.P,V.EO,V.nm,V.fr⟩,V.al⟩,V.to⟩
theorem Dy.live(D:Dy Z σ ws s)(a:Addr)(u:Z.U a):∃o,s.heap.get? a=some o:=(D.turn a u).2.imp λ_ q=>q.1
theorem aI.of(x:aJ Z.X Z.K s s')(D:Dy Z σ ws s'):aI Z s s' Z.B Z.U:=⟨x,λ_ u=>.inl u,λ_ b=>.inl b,λ_ _ b _=>b,D.live⟩
theorem xq.back(n:xq Z s' a)(x:aJ Z.X Z.K s s'):Z.U a\/xq Z s a:=by
 by_cases u:Z.U a
 ·exact .inl u
 ·exact .inr ⟨n.1,x.live ⟨.inl n.1,u⟩ n.2⟩
theorem aI.trans(g:aI Z s s' B U)(D:Dy Z σ ws s)(h:aI (Z.bu B U) s' s'' B' U'):aI Z s s'' B' U':=
 ⟨g.x.on h.x (λa o k e=>⟨k.1,λu=>(g.hU a u).elim k.2 λn=>ah n.2 ⟨o,e⟩⟩) g.x.size,λa u=>(h.hU a u).elim (g.hU a) λn=>xq.back n g.x,
  λa b=>(h.hB a b).elim (g.hB a) λq=>.inr (q.elim (g.hU a) λn=>xq.back n g.x),λa o b e=>h.kB a o (g.kB a o b e) (g.x.off a o ⟨D.sub a b,λu=>D.eU a u b⟩ e),λa u=>by
   by_cases q:U a
   ·exact h.al a q
   ·exact(g.al a u).imp λo e=>h.x.off a o ⟨.inl (D.turn a u).1,q⟩ e⟩
theorem l8.after(V:Dy Z σ ws s)(g:aI Z s s' B U)(d:l8 (Z.bu B U) sc s' o t)(h:∀f s'' B U,aI Z s s'' B U->Ends (Z.bu B U) sc o f s''->Q f s''):wpAny Z.X.M Z.Ar t Q E s':=d Q E λf s'' B' U' g' e=>h f s'' B' U' (g.trans V g') e
theorem l8.step(V:Dy Z σ ws s)(x:aJ Z.X Z.X.V s s')(d:l8 Z sc s' o t)(h:∀f s'' B U,aI Z s s'' B U->Ends (Z.bu B U) sc o f s''->Q f s''):wpAny Z.X.M Z.Ar t Q E s':=l8.after (B:=Z.B) (U:=Z.U) V (.of x.toK (V.step x)) d h
structure SS(sc:SC)where
 st:Stmt
 ex:bO->List Slot->Option Out
 ok:∀{Z:Fr} {σ:List Slot} {ws:Nat->Option Value} {s:Shared} {o:Out},Ex Z sc σ ws s->ex Z.Φ σ=some o->l8 Z sc s o (exec st Z.env)
structure SL(sc:SC)where
 sts:List Stmt
 ex:bO->List Slot->Option Out
 ok:∀{Z:Fr} {σ:List Slot} {ws:Nat->Option Value} {s:Shared} {o:Out},Ex Z sc σ ws s->ex Z.Φ σ=some o->l8 Z sc s o (execs sts Z.env)
def SL.nil:SL sc:=⟨[],λ_ σ=>some (.next σ),λ{Z σ ws s o} V e Q E h=>by
 obtain rfl:=aq e
 exact wpAny_execs_nil (h .next s Z.B Z.U (.of .refl V.toDy) ⟨rfl,ws,V⟩)⟩
noncomputable def f7(o:Option Out)(g:List Slot->Option Out):Option Out:=o.bind λo=>Out.casesOn (motive:=λ_=>Option Out) o g (λσ=>some (.brk σ)) λp=>some (.ret p)
def SL.cons(a:SS sc)(r:SL sc):SL sc:=⟨a.st::r.sts,λΦ σ=>f7 (a.ex Φ σ) (r.ex Φ),λ{Z σ ws s o} V e Q E h=>aa e λo₁ e1 e2=>wpAny_execs_cons ((a.ok V e1) _ _ λf s₁ B U g e3=>by
 cases o₁ with
 |next σ₁=>
  obtain⟨rfl,eB,aj⟩:=e3
  exact l8.after V.toDy g (r.ok aj e2) h
 |brk σ₁=>
  obtain rfl:=aq e2
  obtain⟨rfl,_⟩:=id e3
  exact h _ s₁ B U g e3
 |ret p=>
  obtain rfl:=aq e2
  obtain⟨v,rfl,_⟩:=id e3
  exact h _ s₁ B U g e3)⟩
end
section
variable{sc:SC}{Z:Fr}{σ σ':List Slot}{ws dH:Nat->Option Value}{s s' s'':Shared}{o:Out}{f:Flow}{t:Sem Flow}{Q:Flow->Shared->Prop}{E:Value->Shared->Prop}{B U B' U':Addr->Prop}
theorem kT(V:Ex Z sc σ ws s)(x:aJ Z.X Z.K s s')(D:Dy Z σ' dH s')(h:∀f s' B U,aI Z s s' B U->Ends (Z.bu B U) sc (.next σ') f s'->Q f s'):Q .next s':=h .next s' Z.B Z.U (.of x D) ⟨rfl,dH,V.val D⟩
theorem Ex.Qi(V:Ex Z sc σ ws s){ts:List Tg}(h:ts.all (Tg.ok sc)=true):∀t∈ts,t.i<Z.wr:=λt m=>V.to t.i t.x (List.all_eq_true.mp h t m)
def SS.set(t:Tg)(v:SE sc)(pos:Pos)(h:t.ok sc=true)(hs:∀env:Env,env.scope.kind=.function->env.scope.names=sc.N->swapsWith v.e (some (.Name t.x t.p)) pos.line env=pure false):SS sc:=⟨.Assign [t.e] v.e pos,λΦ σ=>(v.ev Φ σ).map λp=>.next (σ.set t.i (.val p)),
 λ{Z σ ws s o} V e Q E q=>aE e λp e1 e2=>by
  subst e2
  exact wpAny_Assign_Name (v.go V.toEv e1 λw s₁ x₁ aj r₁=>iO aj.toDy V.EO h (V.to _ _ h) r₁ λdH s₂ x₂ D₂=>kT V (x₁.toK.trans x₂) D₂ q) (hs _ V.EO.kind V.EO.names)⟩
noncomputable def rQ(p:PV):List Tg->List Slot->List Slot
 | [],σ=>σ
 |t::ts,σ=>rQ p ts (σ.set t.i (.val p))
theorem G7(V:Ex Z sc σ ws s){p:PV}{v:Value}{Q:Unit->Shared->Prop}:∀(ts:List Tg) (σ:List Slot) (ws:Nat->Option Value) (s:Shared),Dy Z σ ws s->ts.all (Tg.ok sc)=true->(∀t∈ts,t.i<Z.wr)->Z.Rep s.heap p v->
  (∀dH s',aJ Z.X Z.K s s'->Dy Z (rQ p ts σ) dH s'->Q () s')->wpAny Z.X.M Z.Ar (assignAll v ((assignEach (ts.map Tg.e) Z.env).map (·.2))) Q E s:=by
 intro w
 induction w with
 |nil=>intro σ ws s D _ _ _ h;exact wpAny_pure (h ws s .refl D)
 |cons t ts ih=>
  intro σ ws s D ho hw r h
  cases ts with
  |nil=>exact wpAny_assign_Name (iO D V.EO (both ho).1 (hw t eF) r h)
  |cons u ts=>
   show wpAny _ _ (do holding [v] (assign t.e Z.env v);assignAll v ((assignEach ((u::ts).map Tg.e) Z.env).map (·.2))) Q E s
   exact wpAny_bind (wpAny_holding (wpAny_assign_Name (iO D V.EO (both ho).1 (hw t eF) r λeB s₁ x₁ D₁=>
    ih _ eB s₁ D₁ (both ho).2 (λt m=>hw t (f5 _ m)) (r.Aa D x₁) λbB s₂ x₂ D₂=>h bB s₂ (x₁.trans x₂) D₂)))
def SS.Lg(t u:Tg)(ts:List Tg)(v:SE sc)(pos:Pos)(h:(t::u::ts).all (Tg.ok sc)=true):SS sc:=⟨.Assign ((t::u::ts).map Tg.e) v.e pos,λΦ σ=>(v.ev Φ σ).map λp=>.next (rQ p (t::u::ts) σ),
 λ{Z σ ws s o} V e Q E q=>aE e λp e1 e2=>by
  subst e2
  exact wpAny_Assign_stores (v.go V.toEv e1 λw s₁ x₁ aj r₁=>G7 (V.step x₁) (t::u::ts) σ ws s₁ aj.toDy h (V.Qi h) r₁ λdH s₂ x₂ D₂=>kT V (x₁.toK.trans x₂) D₂ q) rfl rfl⟩
def SS.many(tp:Bool)(ts:List Tg)(k:Nat)(pp:Pos)(v:SE sc)(pos:Pos)(h:ts.all (Tg.ok sc)=true)(hs:∀env:Env,env.scope.kind=.function->env.scope.names=sc.N->swappedStores [.Tuple (ts.map Tg.e) k pp] v.e env=pure none):SS sc:=⟨.Assign [.Tuple (ts.map Tg.e) k pp] v.e pos,λΦ σ=>(v.ev Φ σ).bind λp=>(bif tp then p.o4 else p.gw).bind λps=>(iL ts ps σ).map .next,
 λ{Z σ ws s o} V e Q E q=>aa e λp e1 e=>aa e λps e2 e=>aE e λσ' e3 e4=>by
  subst e4
  refine wpAny_Assign_stores (v.go V.toEv e1 λw s₁ x₁ aj r₁=>?_) (by cases v.e<;>rfl) (hs _ V.EO.kind V.EO.names)
  show wpAny _ _ (assign (.Tuple (ts.map Tg.e) k pp) Z.env w) _ _ _
  rw[arm_assign_Tuple]
  refine wpAny_bind (wpAny_standAt (uK aj.toDy V.EO h (V.Qi h) e3 ?_ λdH s₂ x₂ D₂=>kT V (x₁.toK.trans x₂) D₂ q))
  cases tp with
  |true=>
   rw[PV.is_tup e2]at r₁
   exact Internal.Rep.j5 r₁ (M:=λv=>∃a vs,v=.ref a/\(s₁.heap.IsTuple a vs.toArray\/s₁.heap.IsList a vs.toArray)/\Z.af s₁.heap ps vs) λa n vs _ g rl=>⟨a,vs,rfl,.inl (tup_is g),rl⟩
  |false=>
   rw[PV.v9 e2]at r₁
   exact Internal.Rep.lU r₁ (M:=λv=>∃a vs,v=.ref a/\(s₁.heap.IsTuple a vs.toArray\/s₁.heap.IsList a vs.toArray)/\Z.af s₁.heap ps vs) λa n vs _ g rl=>⟨a,vs,rfl,.inr (lst_is g),rl⟩⟩
noncomputable def SS.ret(v:SE sc)(pos:Pos):SS sc:=⟨.Return (some v.e) pos,λΦ σ=>(v.ev Φ σ).map .ret,
 λ{Z σ ws s o} V e Q E q=>aE e λp e1 e2=>by
  subst e2
  exact wpAny_Return_some (v.go V.toEv e1 λw s₁ x₁ aj r₁=>q _ s₁ Z.B Z.U (.of x₁.toK aj.toDy) ⟨w,rfl,r₁⟩)⟩
def SS.brk(pos:Pos):SS sc:=⟨.Break pos,λ_ σ=>some (.brk σ),λ{Z σ ws s o} V e Q E q=>by
 obtain rfl:=aq e
 exact wpAny_Break (q _ s Z.B Z.U (.of .refl V.toDy) ⟨rfl,ws,V⟩)⟩
noncomputable def SS.ite(t:SB sc)(a b:SL sc)(pos:Pos):SS sc:=⟨.If t.e a.sts b.sts pos,λΦ σ=>(t.ev Φ σ).bind λk=>bif k then a.ex Φ σ else b.ex Φ σ,
 λ{Z σ ws s o} V e Q E q=>aa e λk e1 e2=>wpAny_If (t.go V.toEv e1 λs₁ x₁ aj=>by
  cases k with
  |true=>exact l8.step V.toDy x₁ (a.ok (V.step x₁) e2) q
  |false=>exact l8.step V.toDy x₁ (b.ok (V.step x₁) e2) q)⟩
end
section
variable{prog:Program}{w:World}{Ar:Around}{s:Shared}{E:Value->Shared->Prop}{l b:Addr}{vs ws:List Value}{n k:Nat}{h:Heap}
theorem pY{f:Array Value->Array Value}(hf:f vs.toArray=ws.toArray)(hl:h.get? l=some (aU vs n)):∃n',(h.update l (Obj.mapSeq f)).get? l=some (aU ws n'):=by
 have:∃n',Obj.mapSeq f (aU vs n)=aU ws n':=by
  unfold Obj.mapSeq
  simp only[hf]
  exact⟨_,rfl⟩
 obtain⟨n',e⟩:=this
 exact⟨n',by rw[Heap.get?_update_self _ hl (by rw[e];rfl),e]⟩
theorem set_list{i:Int}{t:Tok}{v:Value}{Q:Unit->Shared->Prop}(hl:s.heap.get? l=some (aU vs n))(h0:0<=i)(hs:i<2^63)(hi:i<vs.length)
  (h:∀h' n',h'.get? l=some (aU (vs.set i.toNat v) n')->Heap.SameBut l s.heap h'->Q () {s with heap:=h'}):wpAny (model prog w) Ar (setItem (.ref l) (.int i t) v) Q E s:=by
 obtain⟨n',e⟩:=pY (f:=(·.setIfInBounds i.toNat v)) (ws:=vs.set i.toNat v) (by simp) hl
 exact ki_setAt hl h0 hs (by simpa using hi) (h _ n' e (Heap.SameBut.update ..))
theorem app_list{v:Value}{Q:Value->Shared->Prop}(hl:s.heap.get? l=some (aU vs n))(hz:vs.length<=1000000)
  (h:∀h' n',h'.get? l=some (aU (vs++[v]) n')->Heap.SameBut l s.heap h'->Q .none {s with heap:=h'}):wpAny (model prog w) Ar (call (.builtin "list.append") [.ref l,v]) Q E s:=
 wpAny_list_append_plain (items:=vs.toArray) ⟨n,hl⟩ (λh' hl' hs'=>hl'.elim λn' e=>h h' n' (by rw[e,List.push_toArray]) hs') (by rw[List.size_toArray];exact bT hz)
theorem Dz{Q:Value->Shared->Prop}(hl:s.heap.get? l=some (aU vs n))(hz:vs.length<=1000000)
  (h:∀h' n',h'.get? l=some (aU vs.reverse n')->Heap.SameBut l s.heap h'->Q .none {s with heap:=h'}):wpAny (model prog w) Ar (call (.builtin "list.reverse") [.ref l]) Q E s:=by
 obtain⟨n',e⟩:=pY (f:=λx=>x.reverse) (ws:=vs.reverse) (by simp) hl
 refine call_meets F.slot_list_reverse ⟨_,hl,rfl⟩ F.entry_list_reverse (F.args_list_reverse_1 _) (AutoSeq1.list_reverse_list_0 l vs.toArray n (by rw[List.size_toArray];exact bT hz)) ⟨hl,?_⟩
 exact h _ n' e (Heap.SameBut.update ..)
end
structure lM(Z:Fr)(ws:Nat->Option Value)(s:Shared)(i:Nat)(xs:List PV)(a:Addr)(vs:List Value)(n:Nat):Prop where
 hh:ws i=some (.ref a)
 hN:Z.X.N<=a
 ha:s.heap.get? a=some (aU vs n)
 hr:Z.af s.heap xs vs
 hu:Z.U a
section
variable{sc:SC}{Z:Fr}{σ σ':List Slot}{ws dH:Nat->Option Value}{s s' s'':Shared}{o:Out}{Q:Flow->Shared->Prop}{E:Value->Shared->Prop}{B U B' U':Addr->Prop}{i:Nat}{xs ys:List PV}{a:Addr}{vs us:List Value}{n k tk:Nat}{h':Heap}
theorem Ex.own(V:Ex Z sc σ ws s)(e:eW σ i=some xs){P:Prop}(k:∀a vs n,lM Z ws s i xs a vs n->P):P:=by
 obtain⟨v,vs,h1,⟨a,n,rfl,h2,h3⟩,h4⟩:=V.ok i _ (gH e)
 refine k a vs n ⟨h1,h2,h3,h4,V.dI i xs a (Nat.lt_of_lt_of_le ?_ V.al) (gH e) h1⟩
 rw[V.len];exact(jb (gH e)).1
theorem lM.step(O:lM Z ws s i xs a vs n)(V:Bs Z s)(x:aJ Z.X Z.X.V s s'):lM Z ws s' i xs a vs n:=⟨O.hh,O.hN,x.off _ _ (.inl O.hN) O.ha,O.hr.stp V.sub x,O.hu⟩
theorem Dp(D:Dy Z σ ws s)(O:lM Z ws s i xs a vs n)(hx:σ[i]?=some (.own xs))(hs:Heap.SameBut a s.heap h')(ha':h'.get? a=some (aU us k))(hr:Z.af s.heap ys us):
  aJ Z.X Z.K s {s with heap:=h',toks:=tk}/\Dy Z (σ.set i (.own ys)) ws {s with heap:=h',toks:=tk}:=by
 have kp:∀b o,b≠a->s.heap.get? b=some o->h'.get? b=some o:=λb o n e=>hs.extBut b o n e
 have G:Z.X.G s.heap->Z.X.G h':=λg=>D.K.Gk _ _ (λb=>b=a) g (λb q=>q▸⟨O.hN,_,O.ha,iF⟩) kp
 have kB:∀b o,Z.B b->s.heap.get? b=some o->Z.B b/\h'.get? b=some o:=λb o q e=>⟨q,kp b o (λz=>D.eU _ O.hu (z▸q)) e⟩
 have hi:i<σ.length:=(jb hx).1
 have own:∀(j:Nat) (zs:List PV),(σ.set i (.own ys))[j]?=some (.own zs)->∃zs',σ[j]?=some (.own zs'):=λj zs e=>by
  by_cases q:i=j
  ·exact⟨xs,q▸hx⟩
  ·rw[List.getElem?_set_ne q]at e;exact⟨zs,e⟩
 refine⟨⟨λb o k e=>kp b o (λq=>k.2 (q▸O.hu)) e,G,λ_ _ _ e=>e,id,rfl⟩,{K:=D.K,R:=D.R,g:=G D.g,fresh:=λb n e=>D.fresh b n ?_,sub:=D.sub,eU:=D.eU,turn:=λb u=>⟨(D.turn b u).1,?_⟩,len:=by rw[List.length_set];exact D.len,pl:=λj l e=>(D.pl j l e).keep λob eo=>kp _ ob (λq=>(D.pl j l e).rB O.ha q.symm) eo,hi:=D.hi,ok:=λj t e=>?_,mine:=D.mine,dI:=λj zs c hj e e2=>(own j zs e).elim λzs' e=>D.dI j zs' c hj e e2,apart:=D.apart,eV:=⟨D.eV.1,D.eV.2.imp λm q=>q.at' λo e=>kp _ o (λz=>(show At s.heap _ (.loc Z.env.locals "")from⟨m,q,rfl⟩).rB O.ha z.symm) e⟩,once:=λj j' zs zs' e1 e2 e3=>(own j zs e1).elim λy1 e1=>(own j' zs' e2).elim λy2 e2=>D.once j j' y1 y2 e1 e2 e3}⟩
 ·cases q:s.heap.get? b with
  |none=>rfl
  |some o=>
   by_cases z:b=a
   ·exact ah e ⟨_,z▸ha'⟩
   ·exact ah e ⟨o,kp b o z q⟩
 ·by_cases z:b=a
  ·exact⟨_,z▸ha',iF⟩
  ·exact(D.turn b u).2.imp λo q=>⟨kp b o z q.1,q.2⟩
 ·by_cases q:i=j
  ·rw[<-q,List.getElem?_set_self hi]at e
   rw[<-aq e,<-q]
   exact⟨_,us,O.hh,⟨a,k,rfl,O.hN,ha'⟩,Internal.af.move kB hr⟩
  ·rw[List.getElem?_set_ne q]at e
   have z:=D.ok j t e
   cases t with
   |unset=>trivial
   |val p=>exact z.imp λv z=>⟨z.1,Internal.Rep.move z.2 kB⟩
   |own zs=>
    obtain⟨v,us',h1,⟨c,n',rfl,h2,h3⟩,h4⟩:=z
    exact⟨_,us',h1,⟨c,n',rfl,h2,kp c _ (λz=>q (D.once i j xs zs hx e (O.hh.trans (by rw[h1,z])))) h3⟩,Internal.af.move kB h4⟩
   |is v=>exact z
theorem wI(D:Dy Z σ ws s)(O:lM Z ws s i xs a vs n)(hx:σ[i]?=some (.own xs)):
  Dy (Z.bu (λb=>Z.B b\/b=a) (λb=>Z.U b/\b≠a)) (σ.set i (.val (.lst xs))) ws s:=by
 have hi:i<σ.length:=(jb hx).1
 have kB:∀b o,Z.B b->s.heap.get? b=some o->(Z.B b\/b=a)/\s.heap.get? b=some o:=λb o q e=>⟨.inl q,e⟩
 have own:∀(j:Nat) (zs:List PV),(σ.set i (.val (.lst xs)))[j]?=some (.own zs)->i≠j/\σ[j]?=some (.own zs):=λj zs e=>by
  by_cases q:i=j
  ·rw[<-q,List.getElem?_set_self hi]at e;exact nomatch e
  ·rw[List.getElem?_set_ne q]at e;exact⟨q,e⟩
 refine{K:=D.K,R:=D.R,g:=D.g,fresh:=λb n e=>.inl (D.fresh b n e),sub:=λb q=>q.elim (D.sub b) λq=>.inl (q▸O.hN),eU:=λb u q=>q.elim (D.eU b u.1) u.2,turn:=λb u=>D.turn b u.1,len:=by rw[List.length_set];exact D.len,pl:=D.pl,hi:=D.hi,ok:=λj t e=>?_,mine:=λj l h e=>⟨D.mine j l h e,λq=>(D.pl j l e).rB O.ha q.symm⟩,dI:=λj zs c hj e e2=>⟨D.dI j zs c hj (own j zs e).2 e2,λq=>(own j zs e).1 (D.once i j xs zs hx (own j zs e).2 (O.hh.trans (by rw[e2,q])))⟩,apart:=D.apart,eV:=D.eV,once:=λj j' zs zs' e1 e2 e3=>D.once j j' zs zs' (own j zs e1).2 (own j' zs' e2).2 e3}
 by_cases q:i=j
 ·rw[<-q,List.getElem?_set_self hi]at e
  rw[<-aq e,<-q]
  exact⟨_,O.hh,Rep.oi (.inr rfl) O.ha (Internal.af.move kB O.hr)⟩
 ·rw[List.getElem?_set_ne q]at e
  have z:=D.ok j t e
  cases t with
  |unset=>trivial
  |val p=>exact z.imp λv z=>⟨z.1,Internal.Rep.move z.2 kB⟩
  |own zs=>obtain⟨v,us,e,l,r⟩:=z;exact⟨v,us,e,l,Internal.af.move kB r⟩
  |is v=>exact z
def SL.freeze(i:Nat)(r:SL sc):SL sc:=⟨r.sts,λΦ σ=>(eW σ i).bind λxs=>r.ex Φ (σ.set i (.val (.lst xs))),
 λ{Z σ ws s o} V e Q E h=>aa e λxs e1 e2=>V.own e1 λa vs n O=>l8.after V.toDy (B:=λb=>Z.B b\/b=a) (U:=λb=>Z.U b/\b≠a) ⟨.refl,λb u=>.inl u.1,λb q=>Or.imp id (λ(q:b=a)=>.inl (q▸O.hu)) q,λb o q _=>.inl q,V.live⟩ (r.ok (Z:=Z.bu _ _) ⟨⟨⟨wI V.toDy O (gH e1),V.P,V.EO,V.nm,V.fr⟩,V.al⟩,V.to⟩ e2) h⟩
end
structure Apart(Z:Fr)(σ:List Slot)(ws:Nat->Option Value)(Y:Addr->Prop):Prop where
 ls:∀l∈Z.ls,¬Y l.addr
 nl:¬Y Z.env.locals
 own:∀(i:Nat) (xs:List PV) (a:Addr),σ[i]?=some (.own xs)->ws i=some (.ref a)->¬Y a
section
variable{sc:SC}{Z:Fr}{σ σ':List Slot}{ws dH:Nat->Option Value}{s s' s₁:Shared}{o:Out}{Q:Flow->Shared->Prop}{E:Value->Shared->Prop}{B U B' U' Y W:Addr->Prop}{i:Nat}{xs ys:List PV}{a C:Addr}{vs us:List Value}{n k tk:Nat}{h':Heap}{m:Str->Option Value}
theorem Dy.to(D:Dy Z σ ws s)(A:Apart Z σ ws Y)(g:Z.X.G s'.heap)(fresh:∀a,Z.X.N<=a->s'.heap.get? a=none->B' a)(sub:∀a,B' a->Z.X.V a)(eU:∀a,U' a->¬B' a)(turn:∀a,U' a->mD Z.X.N s'.heap a)
  (kB:∀a o,Z.B a->s.heap.get? a=some o->B' a/\s'.heap.get? a=some o) (kN:∀a o,Z.X.N<=a->¬Y a->s.heap.get? a=some o->s'.heap.get? a=some o) (hU:∀a,Z.U a->U' a):Dy (Z.bu B' U') σ ws s':=
 {K:=D.K,R:=D.R,g:=g,fresh:=fresh,sub:=sub,eU:=eU,turn:=turn,len:=D.len,hi:=D.hi,apart:=D.apart,once:=D.once
  pl:=λi l e=>(D.pl i l e).keep λo q=>kN _ o (D.hi l (List.mem_of_getElem? e)) (A.ls l (List.mem_of_getElem? e)) q
  mine:=λi l h e=>hU _ (D.mine i l h e)
  dI:=λi xs a h e q=>hU _ (D.dI i xs a h e q)
  eV:=⟨D.eV.1,D.eV.2.imp λm q=>q.at' λo e=>kN _ o D.eV.1 A.nl e⟩
  ok:=λi t e=>by
   have q:=D.ok i t e
   cases t with
   |unset=>trivial
   |val p=>exact q.imp λv q=>⟨q.1,Internal.Rep.move q.2 kB⟩
   |own xs=>
    obtain⟨v,vs,h1,⟨a,n,rfl,h2,h3⟩,h4⟩:=q
    exact⟨_,vs,h1,⟨a,n,rfl,h2,kN a _ h2 (A.own i xs a e h1) h3⟩,Internal.af.move kB h4⟩
   |is v=>exact q}
theorem Apart.none:Apart Z σ ws λ_=>False:=⟨λ_ _ q=>q,λq=>q,λ_ _ _ _ _ q=>q⟩
theorem Dy.claim(D:Dy Z σ ws s)(x:aJ Z.X Z.X.V s s₁)(hY:∀a,Y a->s.heap.get? a=none/\∃o,s₁.heap.get? a=some o)(hW:∀a,W a->Y a/\mD Z.X.N s₁.heap a):Dy (Z.bu (λb=>Z.B b/\¬Y b) (λb=>Z.U b\/W b)) σ ws s₁:=
 D.to .none (x.G D.g) (λa n e=>⟨D.fresh a n (x.live (.inl n) e),λq=>ah e (hY a q).2⟩) (λa b=>D.sub a b.1) (λa u b=>u.elim (λu=>D.eU a u b.1) λw=>b.2 (hW a w).1)
  (λa u=>u.elim (λu=>(D.step x).turn a u) λw=>(hW a w).2) (λa o b e=>⟨⟨b,λq=>ah (hY a q).1 ⟨o,e⟩⟩,x.off a o (D.sub a b) e⟩) (λa o n _ e=>x.off a o (.inl n) e) λa u=>.inl u
theorem fR(hm:s.heap.Ns C m):∃o,s.heap.get? C=some o/\bR o/\∀vs n,o≠aU vs n:=(show At s.heap _ (.loc C "")from⟨m,hm,rfl⟩).live
theorem Dy.drop(D:Dy Z σ ws s)(hN:Z.X.N<=C)(hm:s.heap.Ns C m)(hB:¬Z.B C)(hU:¬Z.U C)(hl:∀l∈Z.ls,l.addr≠C)(hn:Z.env.locals≠C)(hs:Heap.SameBut C s.heap h'):
  Dy (Z.bu (λb=>Z.B b\/b=C) Z.U) σ ws {s with heap:=h',toks:=tk}/\aJ Z.X (λa=>Z.X.V a/\a≠C) s {s with heap:=h',toks:=tk}:=by
 obtain⟨oc,e,nc,nl⟩:=fR hm
 have kp:∀b o,b≠C->s.heap.get? b=some o->h'.get? b=some o:=λb o n e=>hs.extBut b o n e
 have G:Z.X.G s.heap->Z.X.G h':=λg=>D.K.Gk _ _ (λa=>a=C) g (λa q=>q▸⟨hN,oc,e,nc⟩) kp
 have A:Apart Z σ ws (λa=>a=C):=⟨hl,hn,λi xs a e1 e2 q=>by
  obtain⟨v,vs,h1,⟨a',n,rfl,h2,h3⟩,h4⟩:=D.ok i _ e1
  obtain rfl:a'=a:=by rw[h1]at e2;injection e2 with e2;injection e2
  rw[q,e]at h3
  exact nl _ _ (aq h3)⟩
 exact⟨D.to (s':={s with heap:=h',toks:=tk}) A (G D.g) (λa n e=>by
   cases z:s.heap.get? a with
   |none=>exact .inl (D.fresh a n z)
   |some o=>
    by_cases c:a=C
    ·exact .inr c
    ·exact ah e ⟨o,kp a o c z⟩) (λa q=>q.elim (D.sub a) λq=>.inl (q▸hN)) (λa u q=>q.elim (D.eU a u) λq=>hU (q▸u))
  (λa u=>⟨(D.turn a u).1,(D.turn a u).2.imp λo q=>⟨kp a o (λq=>hU (q▸u)) q.1,q.2⟩⟩) (λa o b e=>⟨.inl b,kp a o (λq=>hB (q▸b)) e⟩) (λa o _ n e=>kp a o n e) λa u=>u,
  λa o k e=>kp a o k.2 e,G,λ_ _ _ e=>e,id,rfl⟩
end
def Mi(Z:Fr)(s:Shared)(xs:List PV)(t:Sem Value):Prop:=∀(Q:Value->Shared->Prop) (E:Value->Shared->Prop),(∀a vs n s',aJ Z.X Z.X.V s s'->s.heap.get? a=none->Z.X.N<=a->s'.heap.get? a=some (aU vs n)->Internal.af s'.heap (λb=>Z.B b/\b≠a) xs vs->Q (.ref a) s')->wpAny Z.X.M Z.Ar t Q E s
structure SO(sc:SC)where
 e:Expr
 ev:bO->List Slot->Option (List PV)
 ok:∀{Z:Fr} {σ:List Slot} {ws:Nat->Option Value} {s:Shared} {xs:List PV},Ev Z sc σ ws s->ev Z.Φ σ=some xs->Mi Z s xs (eval e Z.env)
section
variable{sc:SC}{Z:Fr}{σ σ':List Slot}{ws dH:Nat->Option Value}{s s' s₁:Shared}{o:Out}{Q:Flow->Shared->Prop}{E:Value->Shared->Prop}{i:Nat}{xs ys:List PV}{a:Addr}{vs:List Value}{n:Nat}
def SO.lst(as:List (SE sc))(p:Pos):SO sc:=⟨.List (exprs as) p,λΦ σ=>(ig Φ σ as).bind λps=>bif fits ps.length then some ps else .none,
 λ{Z σ ws s xs} V e Q E q=>aa e λps e1 e=>Dl e λhy he=>wpAny_List (eH V e1 λvs s₁ x₁ aj rl=>⟨rl.len▸bT hy,by
  subst he
  have z:s.heap.get? s₁.heap.objs.size=none:=x₁.live (.inl (aj.K.size _ aj.g)) (bL _)
  exact q _ vs 0 _ (x₁.trans aj.toBs.push) z (aj.K.size _ aj.g) (Heap.get?_push_size _ rfl) (Internal.af.move (λb o k e=>⟨⟨k,λz=>ah (z▸bL _) ⟨o,e⟩⟩,Heap.get?_push_of_some _ e⟩) rl)⟩)⟩
theorem Dy.Df(V:Dy Z σ ws s)(ha:s.heap.get? a=none){j:Nat}(e:σ[j]?=some (.own ys)):ws j≠some (.ref a):=λq=>by
 obtain⟨v,vs,h1,⟨c,n,rfl,h2,h3⟩,h4⟩:=V.ok j _ e
 rw[h1]at q
 injection q with q
 injection q with q
 exact ah ha ⟨_,q▸h3⟩
theorem Dy.N8(V:Dy Z σ ws s)(ha:s.heap.get? a=none):¬Z.U a:=λu=>ah ha ((V.turn a u).2.imp λ_ q=>q.1)
theorem Dy.wD(V:Dy Z σ ws s)(ha:s.heap.get? a=none):(∀l∈Z.ls,l.addr≠a)/\Z.env.locals≠a:=⟨λl m q=>by
 obtain⟨i,e⟩:=List.mem_iff_getElem?.mp m
 obtain⟨o,z,_⟩:=(V.pl i l e).live
 exact ah ha ⟨o,q▸z⟩,λq=>V.eV.2.elim λm h=>(fR h).elim λo z=>ah ha ⟨o,q▸z.1⟩⟩
def SS.Lh(t:Tg)(v:SO sc)(pos:Pos)(h:t.ok sc=true)(hs:∀env,swapsWith v.e (some (.Name t.x t.p)) pos.line env=pure false):SS sc:=⟨.Assign [t.e] v.e pos,λΦ σ=>(v.ev Φ σ).map λxs=>.next (σ.set t.i (.own xs)),
 λ{Z σ ws s o} V e Q E q=>aE e λxs e1 e2=>by
  subst e2
  refine wpAny_Assign_Name (v.ok V.toEv e1 _ _ λa vs n s₁ x₁ ha hN hl hr=>?_) (hs _)
  have D₁:=V.claim x₁ (Y:=λb=>b=a) (W:=λb=>b=a) (λb q=>q▸⟨ha,_,hl⟩) λb q=>⟨q,q▸⟨hN,_,hl,iF⟩⟩
  refine store (Z:=Z.bu _ _) D₁ V.EO (t:=.own xs) h (V.to _ _ h) ⟨_,vs,rfl,⟨a,n,rfl,hN,hl⟩,hr⟩ (λzs _=>⟨λj ys _ e=>V.Df ha e,λb z=>.inr (by injection z with z;exact z.symm)⟩) λs₂ x₂ D₂=>?_
  exact q .next s₂ _ _ ⟨x₁.toK.on x₂ (λb o k e=>⟨k.1,λu=>u.elim k.2 λz=>ah (z▸ha) ⟨o,e⟩⟩) x₁.size,λb u=>Or.imp id (λ(z:b=a)=>z▸⟨hN,ha⟩) u,λb k=>.inl k.1,λb o k e=>⟨k,λz=>ah (z▸ha) ⟨o,e⟩⟩,λb u=>D₂.live b (.inl u)⟩ ⟨rfl,_,⟨⟨⟨D₂,V.P,V.EO,V.nm,V.fr⟩,V.al⟩,V.to⟩⟩⟩
def SS.G8(ow:Bool)(t:Tg)(c:Cp sc)(pos:Pos)(h:t.ok sc=true)(hs:∀env:Env,env.scope.kind=.function->env.scope.names=sc.N->swapsWith c.e (some (.Name t.x t.p)) pos.line env=pure true):SS sc:=⟨.Assign [t.e] c.e pos,λΦ σ=>(c.ev Φ σ).map λys=>.next (σ.set t.i (bif ow then .own ys else .val (.lst ys))),
 λ{Z σ ws s o} V e Q E q=>aE e λys e1 e2=>by
  subst e2
  show wpAny _ _ (exec (.Assign [.Name t.x t.p] c.e pos) Z.env) Q E s
  have hs:=hs Z.env V.EO.kind V.EO.names
  unfold Cp.e at hs⊢
  rw[exec_Assign_Name_used _ _ _ _ hs]
  refine wpAny_bind (wpAny_standAt (wpAny_bind ?_))
  show wpAny _ _ (do let _<-comprehension c.e c.scope Z.env (firstIterPos [⟨c.tg.e,c.it.e,c.ifs.es,0⟩] c.pos) (newList []) false (eval c.it.e Z.env) (some (assign (.Name t.x t.p) Z.env))) _ _ s
  refine wpAny_bind (wpAny_mono (c.core (Q:=λ_ s'=>Q .next s') V.toEv e1 (use:=some (assign (.Name t.x t.p) Z.env)) λa vs n C m s₁ x₁ ha hC hne hl hr TR hN Cq=>?_) (λ_ s' hq=>wpAny_pure (wpAny_pure hq)) λ_ _ e=>e)
  obtain⟨oc,ec,nc,_⟩:=fR TR
  have D₁:=V.claim x₁ (Y:=λb=>b=C\/(ow=true/\b=a)) (W:=λb=>ow=true/\b=a) (λb q=>q.elim (λq=>q▸⟨hC,oc,ec⟩) λq=>q.2▸⟨ha,_,hl⟩) λb q=>⟨.inr q,q.2▸⟨hN,_,hl,iF⟩⟩
  have hv:lN (Z.bu (λb=>Z.B b/\¬(b=C\/(ow=true/\b=a))) (λb=>Z.U b\/(ow=true/\b=a))) s₁.heap (some (.ref a)) (bif ow then .own ys else .val (.lst ys)):=by
   cases ow with
   |true=>exact⟨_,vs,rfl,⟨a,n,rfl,hN,hl⟩,Internal.af.move (λb o k e=>⟨⟨k.1.1,λq=>q.elim k.1.2 λq=>k.2 q.2⟩,e⟩) hr⟩
   |false=>exact⟨_,rfl,Rep.oi ⟨V.fresh a hN ha,λq=>q.elim hne λq=>nomatch q.1⟩ hl (Internal.af.move (λb o k e=>⟨⟨k.1.1,λq=>q.elim k.1.2 λq=>k.2 q.2⟩,e⟩) hr)⟩
  refine wpAny_assign_Name (store (Z:=Z.bu _ _) D₁ V.EO h (V.to _ _ h) hv (λzs z=>⟨λj ys _ e=>V.Df ha e,λb z'=>.inr ?_⟩) λs₂ x₂ D₂=>?_)
  ·injection z' with z'
   cases ow with
   |true=>exact⟨rfl,z'.symm⟩
   |false=>exact nomatch z
  ·have nU:¬(Z.U C\/(ow=true/\C=a)):=λu=>u.elim (V.N8 hC) λu=>hne u.2.symm
   have hn₂:s₂.heap.Ns C m:=TR.at' λo e=>x₂.off C o ⟨.inl Cq,nU⟩ e
   refine⟨m,hn₂,λh' hs=>?_⟩
   obtain⟨fJ,x₃⟩:=D₂.drop (tk:=s₂.toks) Cq hn₂ (λb=>b.2 (.inl rfl)) nU (V.wD hC).1 (V.wD hC).2 hs
   exact q .next _ _ _ ⟨(x₁.toK.on x₂ (λb o k e=>⟨k.1,λu=>u.elim k.2 λz=>ah (z.2▸ha) ⟨o,e⟩⟩) x₁.size).on x₃ (λb o k e=>⟨k.1,λz=>ah (z▸hC) ⟨o,e⟩⟩) (Nat.le_trans x₁.size x₂.size),λb u=>Or.imp id (λ(z:ow=true/\b=a)=>z.2▸⟨hN,ha⟩) u,
    λb k=>Or.elim k (λk=>.inl k.1) λ(z:b=C)=>.inr (.inr (z▸⟨Cq,hC⟩)),λb o k e=>.inl ⟨k,λz=>z.elim (λz=>ah (z▸hC) ⟨o,e⟩) λz=>ah (z.2▸ha) ⟨o,e⟩⟩,λb u=>fJ.live b (.inl u)⟩ ⟨rfl,_,⟨⟨⟨fJ,V.P,V.EO,V.nm,V.fr⟩,V.al⟩,V.to⟩⟩⟩
end
structure I2(op:Operator)where
 f:PV->PV->Option PV
 ok:∀{Z:Fr} {s:Shared} {p q r:PV} {v w:Value},Bs Z s->Z.Rep s.heap p v->Z.Rep s.heap q w->f p q=some r->aY Z s r (inplaceOp op v w)
noncomputable def I2.sc{op:Operator}{α β:Type}(A:Sc α)(B:Sc β)(c:α->β->Bool)(g:α->β->PV)
  (k:∀(Z:Fr) (s:Shared) (a:α) (b:β) (t u:Tok),Bs Z s->c a b=true->aY Z s (g a b) (inplaceOp op (A.ve a t) (B.ve b u))):I2 op:=
 ⟨λp q=>(A.d p).bind λa=>(B.d q).bind λb=>bif c a b then some (g a b)else none,
 λ{Z s p q r v w} V rp rq e=>lV e λa ea e=>lV e λb eb e=>iI (M:=λr=>aY Z s r (inplaceOp op v w)) e λhc=>(A.rd rp ea).elim λt e1=>(B.rd rq eb).elim λu e2=>e1▸e2▸k Z s a b t u V hc⟩
def jU:I2 .Add:=.sc cQ cQ tt (λa b=>.int (a+b)) λZ s a b t u V _ Q E h=>PySem.P.iadd_int (V.int h)
def NL:I2 .Sub:=.sc cQ cQ tt (λa b=>.int (a-b)) λZ s a b t u V _ Q E h=>PySem.P.isub_int (V.int h)
def IM:I2 .Add:=.sc rZ rZ (λx y=>fits (x.length+y.length)) (λx y=>.str (x++y)) λZ s x y t u V c Q E h=>PySem.SB.iadd (λ_ _=>V.str h) (bT (aQ c))
section
variable{sc:SC}{Z:Fr}{σ σ':List Slot}{ws dH:Nat->Option Value}{s s' s₁:Shared}{o:Out}{Q:Flow->Shared->Prop}{E:Value->Shared->Prop}{i:Nat}{xs ys:List PV}{a:Addr}{vs us:List Value}{n k tk:Nat}{h':Heap}
def SS.aug{op:Operator}(b:I2 op)(t:Tg)(v:SE sc)(pos:Pos)(h:t.ok sc=true)(hv:isVar sc t.i t.x=true):SS sc:=⟨.AugAssign t.e op v.e pos,λΦ σ=>(ee σ t.i).bind λa=>(v.ev Φ σ).bind λq=>(b.f a q).map λr=>.next (σ.set t.i (.val r)),
 λ{Z σ ws s o} V e Q E q=>aa e λa e0 e=>aa e λc e1 e=>aE e λr e2 e3=>by
  subst e3
  obtain⟨w,h1,h2⟩:=V.ok t.i _ (oE e0)
  exact wpAny_AugAssign_Name (ldn V.toEv hv h1 (v.go V.toEv e1 λw' s₁ x₁ aj r₁=>(b.ok aj.toBs (Fr.Rep.stp h2 V.sub x₁) r₁ e2) _ _ λw'' s₂ x₂ r₂=>iO (aj.step x₂).toDy V.EO h (V.to _ _ h) r₂ λdH s₃ x₃ fJ=>kT V ((x₁.trans x₂).toK.trans x₃) fJ q))⟩
theorem kG(V:Ex Z sc σ ws s)(aj:Ev Z sc σ ws s₁)(x:aJ Z.X Z.K s s₁)(O:lM Z ws s₁ i xs a vs n)(hx:eW σ i=some xs)(hs:Heap.SameBut a s₁.heap h')(ha':h'.get? a=some (aU us k))(hr:Z.af s₁.heap ys us)
  (h:∀f s' B U,aI Z s s' B U->Ends (Z.bu B U) sc (.next (σ.set i (.own ys))) f s'->Q f s'):Q .next {s₁ with heap:=h',toks:=tk}:=by
 obtain⟨q1,q2⟩:=Dp (tk:=tk) aj.toDy O (gH hx) hs ha' hr
 exact kT V (x.trans q1) q2 h
def SS.app(i:Nat)(x:Str)(p ap pos pos':Pos)(v:SE sc)(hm:isVar sc i x=true)(hl:(ap.endLine==pos.line)=true):SS sc:=⟨.Expr (.Call (.Attribute (.Name x p) "append" ap) (exprs [v]) [] pos) pos',λΦ σ=>(eW σ i).bind λxs=>(v.ev Φ σ).bind λr=>bif fits xs.length then some (.next (σ.set i (.own (xs++[r]))))else none,
 λ{Z σ ws s o} V e Q E q=>aa e λxs e0 e=>aa e λr e1 e=>by
  cases hz:fits xs.length with
  |false=>rw[hz]at e;exact no e
  |true=>
   rw[hz]at e
   obtain rfl:=aq e
   rw[exec_Expr Z.env _ pos' (by unfold interactive;rw[V.EO.kind];rfl) (by rfl)]
   refine wpAny_bind (wpAny_standAt (wpAny_bind (wpAny_Call_method_lateS rfl (nK (as:=[v]) rfl) hl ?_)))
   refine V.own e0 λa vs n O=>CW V.toEv hm O.hh ⟨"list","list.append",F.plainAttrs_list,F.slot_list_append,F.type_list_append,⟨_,O.ha,rfl⟩,λb q=>by cases q;exact⟨_,O.ha,rfl⟩,?_⟩
   refine Calls.callWith_builtin (cg [v]) (args_call (eH (ps:=[r]) V.toEv (by unfold ig;rw[e1];rfl) λvs' s₁ x₁ aj rl=>?_))
   obtain⟨w,_,rfl,rw,rfl⟩:=rl
   have i9:=O.step V.toBs x₁
   exact app_list i9.ha (by rw[i9.hr.len];exact aQ hz) λh' n' e1 e2=>wpAny_dropValue (kG V aj x₁.toK i9 e0 e2 e1 (af.append (af.cons rw af.nil) i9.hr) q)⟩
def SS.rev(i:Nat)(x:Str)(p ap pos pos':Pos)(hm:isVar sc i x=true)(hl:(ap.endLine==pos.line)=true):SS sc:=⟨.Expr (.Call (.Attribute (.Name x p) "reverse" ap) [] [] pos) pos',λΦ σ=>(eW σ i).bind λxs=>bif fits xs.length then some (.next (σ.set i (.own xs.reverse)))else none,
 λ{Z σ ws s o} V e Q E q=>aa e λxs e0 e=>by
  cases hz:fits xs.length with
  |false=>rw[hz]at e;exact no e
  |true=>
   rw[hz]at e
   obtain rfl:=aq e
   rw[exec_Expr Z.env _ pos' (by unfold interactive;rw[V.EO.kind];rfl) (by rfl)]
   refine wpAny_bind (wpAny_standAt (wpAny_bind (wpAny_Call_method_lateS rfl rfl hl ?_)))
   refine V.own e0 λa vs n O=>CW V.toEv hm O.hh ⟨"list","list.reverse",F.plainAttrs_list,F.slot_list_reverse,F.type_list_reverse,⟨_,O.ha,rfl⟩,λb q=>by cases q;exact⟨_,O.ha,rfl⟩,?_⟩
   refine Calls.callWith_builtin rfl ?_
   unfold evalArgs
   refine wpAny_pure ?_
   exact Dz O.ha (by rw[O.hr.len];exact aQ hz) λh' n' e1 e2=>wpAny_dropValue (kG V V.toEv .refl O e0 e2 e1 (Internal.af.rev O.hr) q)⟩
def rE(n:Nat)(j:Int):Option Nat:=bif Int.natAbs j==j.toNat&&(Nat.blt j.toNat n&&sm j)then some j.toNat else none
theorem yE{n m:Nat}{j:Int}(e:rE n j=some m):0<=j/\j<2^63/\j<n/\j.toNat=m:=by
 unfold rE at e
 cases h:Int.natAbs j==j.toNat&&(Nat.blt j.toNat n&&sm j)with
 |false=>rw[h]at e;exact no e
 |true=>
  rw[h]at e
  have h1:=eq_of_beq (both h).1
  have h2:=Nat.blt_eq.mp (both (both h).2).1
  have h3:=pV (both (both h).2).2
  have e:=aq e
  have h0:0<=j:=Int.not_lt.mp λq=>by
   rw[Int.toNat_of_nonpos (Int.le_of_lt q)]at h1
   rw[Int.natAbs_eq_zero.mp h1]at q
   exact absurd q (by decide)
  obtain⟨k,rfl⟩:=Int.eq_ofNat_of_zero_le h0
  exact⟨h0,Int.ofNat_lt.mpr h3,Int.ofNat_lt.mpr h2,e⟩
def SS.setItem(i:Nat)(x:Str)(p p':Pos)(ix v:SE sc)(pos:Pos)(hm:isVar sc i x=true)(hs:∀env,swapsWith v.e (some (.Subscript (.Name x p) ix.e p')) pos.line env=pure false):SS sc:=⟨.Assign [.Subscript (.Name x p) ix.e p'] v.e pos,
 λΦ σ=>(eW σ i).bind λxs=>(v.ev Φ σ).bind λr=>(ix.ev Φ σ).bind λj=>j.int?.bind λj=>(rE xs.length j).map λm=>.next (σ.set i (.own (xs.set m r))),
 λ{Z σ ws s o} V e Q E q=>aa e λxs e0 e=>aa e λr e1 e=>aa e λj e2 e=>aa e λj' e3 e=>aE e λm e4 e5=>by
  subst e5
  obtain⟨h0,hk0,hk,rfl⟩:=yE e4
  refine wpAny_Assign_Subscript (v.go V.toEv e1 λw s₁ x₁ aj r₁=>?_) (hs _)
  refine(V.step x₁).own e0 λa vs n O=>CW aj hm O.hh (ix.go aj e2 λiv s₂ x₂ aD r₂=>?_)
  obtain⟨t,rfl⟩:=cQ.rd r₂ e3
  have qe:=O.step aj.toBs x₂
  exact set_list qe.ha h0 hk0 (by rw[qe.hr.len];exact hk) λh' n' e1 e2=>kG V aD (x₁.trans x₂).toK qe e0 e2 e1 (Internal.af.set (r₁.stp aj.sub x₂) _ qe.hr) q⟩
def SS.Ff{op:Operator}(b:I2 op)(i:Nat)(x:Str)(p p':Pos)(ix v:SE sc)(pos:Pos)(hm:isVar sc i x=true)(hix:∀ov iv new,augStore ix.e ov iv new=(do holding [new,ov,iv] (PySem.setItem ov iv new);release [new,ov,iv] [];pure .next)):SS sc:=⟨.AugAssign (.Subscript (.Name x p) ix.e p') op v.e pos,
 λΦ σ=>(eW σ i).bind λxs=>(ix.ev Φ σ).bind λj=>j.int?.bind λj=>(rE xs.length j).bind λm=>(xs[m]?).bind λa=>(v.ev Φ σ).bind λq=>(b.f a q).map λr=>.next (σ.set i (.own (xs.set m r))),
 λ{Z σ ws s o} V e Q E q=>aa e λxs e0 e=>aa e λj e1 e=>aa e λj' e2 e=>aa e λm e3 e=>aa e λa e4 e=>aa e λc e5 e=>aE e λr e6 e7=>by
  subst e7
  obtain⟨h0,hk0,hk,rfl⟩:=yE e3
  refine V.own e0 λl vs n O=>wpAny_AugAssign_SubscriptAny (CW V.toEv hm O.hh ?_) hix
  refine ix.go V.toEv e1 λiv s₁ x₁ aj r₁=>?_
  obtain⟨t,rfl⟩:=cQ.rd r₁ e2
  have i9:=O.step V.toBs x₁
  obtain⟨w,hw1,VH⟩:=Internal.af.get i9.hr e4
  refine wpAny_getItem_list (lst_is i9.ha) h0 hk0 (x:=w) (by rw[List.getElem?_toArray];exact hw1) ?_
  refine v.go aj e5 λw' s₂ x₂ aD r₂=>(b.ok aD.toBs (Fr.Rep.stp VH V.sub x₂) r₂ e6) _ _ λw'' s₃ x₃ Lc=>?_
  have E5:=i9.step aj.toBs (x₂.trans x₃)
  exact set_list E5.ha h0 hk0 (by rw[E5.hr.len];exact hk) λh' n' e1 e2=>kG V (aD.step x₃) (x₁.trans (x₂.trans x₃)).toK E5 e0 e2 e1 (Internal.af.set Lc _ E5.hr) q⟩
end
def loopGo(bind:PV->List Slot->Option (List Slot))(f:List Slot->Option Out)(xs:List PV):List Slot->Option Out:=
 List.rec (motive:=λ_=>List Slot->Option Out) (λσ=>some (.next σ)) (λx _ r σ=>(bind x σ).bind λσ₁=>(f σ₁).bind λo=>Out.casesOn (motive:=λ_=>Option Out) o r (λσ'=>some (.next σ')) λp=>some (.ret p)) xs
theorem tU{bind:PV->List Slot->Option (List Slot)}{f:List Slot->Option Out}{x:PV}{xs:List PV}{σ:List Slot}{o:Out}(e:loopGo bind f (x::xs) σ=some o):∃σ₁ o₁,bind x σ=some σ₁/\f σ₁=some o₁/\Out.casesOn (motive:=λ_=>Option Out) o₁ (loopGo bind f xs) (λσ'=>some (.next σ')) (λp=>some (.ret p))=some o:=
 aa e λσ₁ e1 e=>aa e λo₁ e2 e=>⟨σ₁,o₁,e1,e2,e⟩
structure LI(Z:Fr)(sc:SC)(s s₁:Shared)(S:(Addr->Prop)->Nat->Shared->Prop)(i:Nat)(σ:List Slot)(B U W:Addr->Prop)(ws:Nat->Option Value)(s':Shared):Prop where
 st:S W i s'
 hM:∀a,W a->∃o,s'.heap.get? a=some o
 hW:∀a,W a->(s.heap.get? a=none/\Z.X.N<=a)/\(¬U a/\¬B a)
 g:aI Z s s' B U
 V:Ey (Z.bu B U) sc σ ws s'
 hU:∀a,U a->Z.U a\/s₁.heap.get? a=none
 hN:∀a,Z.X.N<=a->s'.heap.get? a=none->s₁.heap.get? a=none
 hB:∀a o,Z.B a->s₁.heap.get? a=some o->(B a/\s'.heap.get? a=some o)\/W a
section
variable{sc:SC}{Z:Fr}{σ σ' σ₀:List Slot}{ws dH PR:Nat->Option Value}{s s₁ s' s'':Shared}{S:(Addr->Prop)->Nat->Shared->Prop}{i j:Nat}{B U B' U' W W':Addr->Prop}{tp:Bool}{it:Value}{xs:List PV}
theorem LI.apart(L:LI Z sc s s₁ S i σ B U W ws s')(V:Ey Z sc σ' dH s):Apart (Z.bu B U) σ ws W:=
 ⟨λl m y=>(V.wD (L.hW _ y).1.1).1 l m rfl,λy=>(V.wD (L.hW _ y).1.1).2 rfl,λi xs a e q y=>(L.hW a y).2.1 (L.V.dI i xs a (Nat.lt_of_lt_of_le (by rw[L.V.len];exact(jb e).1) L.V.al) e q)⟩
theorem LI.grown(L:LI Z sc s s₁ S i σ B U W ws s')(V:Ey Z sc σ' dH s)(y:St Z.X (Z.X.VW W) s.gens.size s' s'')(hB:∀a,B' a->Z.B a\/(Z.U a\/xq Z s a))(kB:∀a o,s.heap.get? a=some o->B a->B' a):aI Z s s'' B' U:=
 ⟨L.g.x.on y (λa o k e=>⟨k.1,λw=>ah (L.hW a w).1.1 ⟨o,e⟩⟩) (Nat.le_refl _),L.g.hU,hB,λa o b e=>kB a o e (L.g.kB a o b e),λa u=>(L.g.al a u).imp λo e=>y.off a o ⟨.inl (V.turn a u).1,λw=>ah (L.hW a w).1.1 (V.live a u)⟩ e⟩
theorem LI.item(L:LI Z sc s s₁ S i σ B U W ws s')(V:Ey Z sc σ' dH s)(y:St Z.X (Z.X.VW W) s.gens.size s' s'')(h0:∀a,W a->W' a)(h1:∀a,W' a->W a\/s'.heap.get? a=none)(hm:∀a,W' a->mD Z.X.N s''.heap a)(st:S W' j s''):
  LI Z sc s s₁ S j σ (λa=>B a/\¬W' a) U W' ws s'':=by
 have hU':∀a,W' a->¬U a:=λa w u=>(h1 a w).elim (λw=>(L.hW a w).2.1 u) λe=>ah e (L.V.live a u)
 have ex:∀a,W' a->∃o,s''.heap.get? a=some o:=λa w=>(hm a w).2.imp λ_ q=>q.1
 have new:∀a,W' a->s.heap.get? a=none:=λa w=>(h1 a w).elim (λw=>(L.hW a w).1.1) λe=>by
  by_cases u:Z.U a
  ·exact ah e (L.g.al a u)
  ·exact L.g.x.live ⟨.inl (hm a w).1,u⟩ e
 have back:∀a,Z.X.N<=a->s''.heap.get? a=none->s'.heap.get? a=none:=λa n e=>y.live ⟨.inl n,λw=>ah e (ex a (h0 a w))⟩ e
 have nW:∀a o,B a->s'.heap.get? a=some o->¬W' a:=λa o b e w=>(h1 a w).elim (λw=>(L.hW a w).2.2 b) λq=>ah q ⟨o,e⟩
 have kp:∀a o,B a->s'.heap.get? a=some o->s''.heap.get? a=some o:=λa o b e=>y.off a o ⟨L.V.sub a b,λw=>(L.hW a w).2.2 b⟩ e
 refine{st:=st,hM:=ex,hW:=λa w=>⟨⟨new a w,(hm a w).1⟩,hU' a w,λb=>b.2 w⟩,g:=L.grown V y (λa b=>L.g.hB a b.1) λa o e b=>⟨b,λw=>ah (new a w) ⟨o,e⟩⟩,V:=⟨⟨?_,V.P,V.EO,V.nm,V.fr⟩,V.al⟩,hU:=L.hU,hN:=λa n e=>L.hN a n (back a n e),hB:=λa o b e=>(L.hB a o b e).elim (λq=>.inl ⟨⟨q.1,nW a o q.1 q.2⟩,kp a o q.1 q.2⟩) λw=>.inr (h0 a w)}
 exact L.V.toDy.to (L.apart V) (y.G L.V.g) (λa n e=>⟨L.V.fresh a n (back a n e),λw=>ah e (ex a w)⟩) (λa b=>L.V.sub a b.1) (λa u b=>L.V.eU a u b.1) (λa u=>⟨(L.V.turn a u).1,(L.V.turn a u).2.imp λo q=>⟨y.off a o ⟨.inl (L.V.turn a u).1,λw=>(L.hW a w).2.1 u⟩ q.1,q.2⟩⟩)
  (λa o b e=>⟨⟨b,nW a o b e⟩,kp a o b e⟩) (λa o n w e=>y.off a o ⟨.inl n,w⟩ e) λa u=>u
theorem LI.step(L:LI Z sc s s₁ S i σ B U W ws s')(V:Ey Z sc σ₀ PR s)(g:aI (Z.bu B U) s' s'' B' U')(V':Ey (Z.bu B' U') sc σ' dH s'')(st:S W i s''):LI Z sc s s₁ S i σ' B' U' W dH s'':=
 have kp:∀a o,Z.X.V a->¬U a->s'.heap.get? a=some o->s''.heap.get? a=some o:=λa o v u e=>g.x.off a o ⟨v,u⟩ e
 {st:=st
  hM:=λa w=>(L.hM a w).imp λo e=>kp a o (.inl (L.hW a w).1.2) (L.hW a w).2.1 e
  hW:=λa w=>⟨(L.hW a w).1,λu=>(g.hU a u).elim (L.hW a w).2.1 λn=>ah n.2 (L.hM a w),λb=>(g.hB a b).elim (L.hW a w).2.2 λq=>q.elim (L.hW a w).2.1 λn=>ah n.2 (L.hM a w)⟩
  g:=L.g.trans V.toDy g
  V:=V'
  hU:=λa u=>(g.hU a u).elim (L.hU a) λn=>.inr (L.hN a n.1 n.2)
  hN:=λa n e=>L.hN a n (by
   by_cases u:U a
   ·exact ah e (g.al a u)
   ·exact g.x.live ⟨.inl n,u⟩ e)
  hB:=λa o b e=>(L.hB a o b e).imp (λq=>⟨g.kB a o q.1 q.2,kp a o (L.V.sub a q.1) (λu=>L.V.eU a u q.1) q.2⟩) id}
theorem LI.done(L:LI Z sc s s₁ S i σ B U W ws s')(V:Ey Z sc σ' dH s)(y:St Z.X (Z.X.VW W) s.gens.size s' s''):aI Z s s'' (λa=>B a\/W a) U/\Ey (Z.bu (λa=>B a\/W a) U) sc σ ws s'':=
 ⟨L.grown V y (λa b=>b.elim (L.g.hB a) λw=>.inr (.inr ⟨(L.hW a w).1.2,(L.hW a w).1.1⟩)) λa o e b=>.inl b,
  ⟨⟨L.V.toDy.to (L.apart V) (y.G L.V.g) (λa n e=>by
   by_cases w:W a
   ·exact .inr w
   ·exact .inl (L.V.fresh a n (y.live ⟨.inl n,w⟩ e))) (λa b=>b.elim (L.V.sub a) λw=>.inl (L.hW a w).1.2) (λa u b=>b.elim (L.V.eU a u) λw=>(L.hW a w).2.1 u) (λa u=>⟨(L.V.turn a u).1,(L.V.turn a u).2.imp λo q=>⟨y.off a o ⟨.inl (L.V.turn a u).1,λw=>(L.hW a w).2.1 u⟩ q.1,q.2⟩⟩)
  (λa o b e=>⟨.inl b,y.off a o ⟨L.V.sub a b,λw=>(L.hW a w).2.2 b⟩ e⟩) (λa o n w e=>y.off a o ⟨.inl n,w⟩ e) λa u=>u,V.P,V.EO,V.nm,V.fr⟩,V.al⟩⟩
theorem LI.start(V:Ey Z sc σ ws s)(x:aJ Z.X Z.X.V s s₁)(I:Iter Z Z.K tp it xs W S s s₁):LI Z sc s s₁ S 0 σ (λa=>Z.B a/\¬W a) Z.U W ws s₁:=
 have ex:∀a,W a->∃o,s₁.heap.get? a=some o:=λa w=>(I.lz _ _ _ I.start a w).2.imp λ_ q=>q.1
 have aj:=V.toDy.step x
 {st:=I.start
  hM:=ex
  hW:=λa w=>⟨⟨I.new a w,(I.lz _ _ _ I.start a w).1⟩,λu=>ah (I.new a w) (V.live a u),λb=>b.2 w⟩
  g:=⟨x.toK,λa u=>.inl u,λa b=>.inl b.1,λa o b e=>⟨b,λw=>ah (I.new a w) ⟨o,e⟩⟩,aj.live⟩
  V:=⟨⟨V.toDy.to .none (x.G V.g) (λa n e=>⟨V.fresh a n (x.live (.inl n) e),λw=>ah e (ex a w)⟩) (λa b=>V.sub a b.1) (λa u b=>V.eU a u b.1) aj.turn (λa o b e=>⟨⟨b,λw=>ah (I.new a w) ⟨o,e⟩⟩,x.off a o (V.sub a b) e⟩) (λa o n _ e=>x.off a o (.inl n) e) λa u=>u,V.P,V.EO,V.nm,V.fr⟩,V.al⟩
  hU:=λa u=>.inl u
  hN:=λa _ e=>e
  hB:=λa o b e=>by
   by_cases w:W a
   ·exact .inr w
   ·exact .inl ⟨⟨b,w⟩,e⟩}
end
section
variable{sc:SC}
inductive AA{sc:SC}(Z:Fr)(s s₁:Shared)(S:(Addr->Prop)->Nat->Shared->Prop)(tg:SP sc)(body:SL sc)(xs:List PV)(o:Out)(n:Nat)(s':Shared):Prop
 |mk (i:Nat) (Qk:List Slot) (B U W:Addr->Prop) (ws:Nat->Option Value) (hn:n=xs.length-i/\i<=xs.length) (L:LI Z sc s s₁ S i Qk B U W ws s') (hm:loopGo tg.bind (body.ex Z.Φ) (xs.drop i) Qk=some o):AA Z s s₁ S tg body xs o n s'
theorem B4{tg:SP sc}{ie:Expr}{body:SL sc}{pos:Pos}{xs:List PV}{Z:Fr}{σ:List Slot}{ws:Nat->Option Value}{s:Shared}{o:Out}(V:Ex Z sc σ ws s)(ht:tg.ts.all (Tg.ok sc)=true)(hfd:∀x,foldedSetIterable ie Z.env x=pure x)(hit:mT Z Z.K s tg.tp xs (eval ie Z.env))
  (e2:loopGo tg.bind (body.ex Z.Φ) xs σ=some o):l8 Z sc s o (exec (.For tg.e ie body.sts [] pos) Z.env):=by
  intro Q E q
  refine wpAny_For (hit _ _ λit' W₀ S s₁ x₁ I=>?_) hfd
  refine codeAny_forLoop_any (AA Z s s₁ S tg body xs o) ?_ xs.length ⟨0,σ,_,Z.U,W₀,ws,⟨rfl,Nat.zero_le _⟩,LI.start V.toEy x₁ I,e2⟩
  rintro n s' ⟨i,Qk,B,U,W,dH,⟨hn,hi⟩,L,hm⟩
  cases hxi:xs[i]? with
  |none=>
   obtain rfl:i=xs.length:=Nat.le_antisymm hi (List.getElem?_eq_none_iff.mp hxi)
   rw[List.drop_length]at hm
   obtain rfl:=aq (show some (Out.next Qk)=some o from hm)
   refine I.done W s' _ _ L.st L.V.g λs'' y=>wpAny_execs_nil ?_
   obtain⟨g,V'⟩:=L.done V.toEy y
   exact q .next s'' _ _ g ⟨rfl,_,V',V.to⟩
  |some x=>
   have hlt:i<xs.length:=(jb hxi).1
   have less:xs.length-(i+1)<n:=hn▸Nat.sub_lt_sub_left hlt (Nat.lt_succ_self i)
   rw[nV hxi]at hm
   obtain⟨σ₁,o₁,e3,e4,e5⟩:=tU hm
   refine I.item W i x tg.e hxi tg.ht (λa=>B a\/W a) s' _ _ (λa o b e=>(L.hB a o b e).imp (λq=>q.1) id) (λa n e=>.inl (L.V.fresh a n e)) L.st L.V.g λW' v sa h1 h2 h3 ya rv go=>?_
   refine go _ _ λsb yb Lj=>?_
   have y:St Z.X (Z.X.VW W) s.gens.size s' sb:=ya.on yb (λa o k e=>⟨k.1,λw=>(h2 a w).elim k.2 λq=>ah q ⟨o,e⟩⟩) (Nat.le_refl _)
   have Lb:=L.item V.toEy y h1 h2 (I.lz W' (i+1) sb Lj) Lj
   refine tg.ok (Z:=Z.bu (λa=>B a/\¬W' a) U) Lb.V.toDy V.EO (V.Qi ht) (rv.move λa o b e=>⟨⟨b.1.elim id λw=>absurd (h1 a w) b.2,b.2⟩,yb.off a o ⟨b.1.elim (L.V.sub a) λw=>.inl (L.hW a w).1.2,b.2⟩ e⟩) e3 λwc I8 yc Dc=>?_
   refine body.ok ⟨⟨⟨Dc,V.P,V.EO,V.nm,V.fr⟩,V.al⟩,V.to⟩ e4 _ _ λf sd B' U' g en=>?_
   have gg:=(aI.of yc Dc).trans Lb.V.toDy g
   cases o₁ with
   |next σ₂=>
    obtain⟨rfl,wd,Vd⟩:=en
    exact⟨_,less,i+1,σ₂,B',U',W',wd,⟨rfl,hlt⟩,Lb.step V.toEy gg Vd.toEy (I.keep W' (i+1) sb sd _ Lj gg.x (λa w=>⟨.inl (Lb.hW a w).1.2,(Lb.hW a w).2.1⟩) λa o k e=>⟨k.1,λu=>(Lb.hU a u).elim k.2 λz=>ah z ⟨o,e⟩⟩),e5⟩
   |brk σ₂=>
    obtain⟨rfl,wd,Vd⟩:=en
    obtain rfl:=aq (show some (Out.next σ₂)=some o from e5)
    exact q .next sd B' U' (Lb.g.trans V.toDy gg) ⟨rfl,wd,Vd⟩
   |ret p=>
    obtain rfl:=aq (show some (Out.ret p)=some o from e5)
    obtain⟨v,rfl,r⟩:=en
    exact q _ sd B' U' (Lb.g.trans V.toDy gg) ⟨v,rfl,r⟩
def SS.for(tg:SP sc)(it:SI sc)(body:SL sc)(pos:Pos)(h:(tg.ts.all (Tg.ok sc)&&(!it.need||tg.tp))=true):SS sc:=⟨.For tg.e it.e body.sts [] pos,λΦ σ=>(it.ev Φ σ).bind λxs=>loopGo tg.bind (body.ex Φ) xs σ,
 λ{Z σ ws s o} V e=>aa e λxs e1 e2=>B4 V (both h).1 (it.pl.fd _) (it.ok V.toEv e1 Z.K tg.tp (λa b=>⟨V.sub a b,λu=>V.eU a u b⟩) λq=>by have:=(both h).2;rw[q]at this;exact this) e2⟩
end
section
variable{prog:Program}{w:World}{Ar:Around}{s:Shared}{E:Value->Shared->Prop}{l b:Addr}{vs ws:List Value}{n k:Nat}{h:Heap}
end
section
variable{sc:SC}{Z:Fr}{σ:List Slot}{ws:Nat->Option Value}{s:Shared}{i:Nat}{ys:List PV}
def jm:Pos:=(qz 0 0 0)
def uz(sc:SC):Env:={scope:={kind:=.function,names:=sc.N,isGenerator:=false,isCoroutine:=false},locals:=0,globals:=0,cells:=[],qual:=""}
theorem oH{env:Env}(h1:env.scope.kind=.function)(h2:env.scope.names=sc.N){ts vs:List Expr}{k k':Nat}{p p':Pos}:swappedStores [.Tuple ts k p] (.Tuple vs k' p') env=swappedStores [.Tuple ts 0 jm] (.Tuple vs 0 jm) (uz sc):=by
 obtain⟨⟨k,n,g,c⟩,l,gl,ce,q⟩:=env
 cases h1
 cases h2
 rfl
def SS.tups(ts:List Tg)(k k':Nat)(pp p':Pos)(as:List (SE sc))(pos:Pos)(h:ts.all (Tg.ok sc)=true)(hs:swappedStores [.Tuple (ts.map Tg.e) 0 jm] (.Tuple (exprs as) 0 jm) (uz sc)=pure none):SS sc:=
 SS.many true ts k pp (SE.tup as k' p') pos h λenv h1 h2=>(oH h1 h2).trans hs
end
section
variable{Ar:Around}{E:Value->Shared->Prop}{s s':Shared}{sc:SC}{Z:Fr}{env:Env}{C:Addr}{names:List (Str×NameKind)}{cs:List (Str×Addr)}{vars:List Str}
theorem iH{M:Model}{scope:Scope}{globals:Addr}{cl:List (Str×Addr)}{binds:List (Str×Value)}{qual:Str}{func:Option Addr}{code:Value}{builtins:Addr}{Q:Env->Shared->Prop}
  (h:wpAny M Ar (forIn binds (⟨⟩:PUnit) λ(x:Str×Value) (_:PUnit)=>(match x with|(name,v)=>do storeName (newEnv scope s.heap.objs.size globals (cellsFrom (s.heap.objs.size+1) scope.names cl) qual func code none builtins) name v;pure (ForInStep.yield ⟨⟩):Sem (ForInStep PUnit)))
   (λ_ s'=>Q (newEnv scope s.heap.objs.size globals (cellsFrom (s.heap.objs.size+1) scope.names cl) qual func code none builtins) s') E {s with heap:=pushCells (s.heap.push {cls:=.type "frame",data:=.dict #[]}) scope.names}):
  wpAny M Ar (newFunctionEnv scope globals cl binds qual func code none builtins) Q E s:=by
 simp only[newFunctionEnv,Option.isSome_none,Bool.false_eq_true,_root_.if_false]
 refine wpAny_bind (wpAny_alloc ?_)
 refine wpAny_bind (wpAny_layCells _ (λname kind cells=>by cases hkc:kind==NameKind.cell<;>simp[hkc]) _ _ _ _ ?_)
 rw[show({s with heap:=s.heap.push {cls:=.type "frame",data:=.dict #[]}}:Shared).heap.objs.size=s.heap.objs.size+1 from Heap.size_push ..]
 exact wpAny_bind (wpAny_mono h (λ_ _ q=>wpAny_pure q) λ_ _ e=>e)
abbrev Fr.first(Z:Fr)(Ar:Around)(d:Nat)(env:Env)(names:List (Str×NameKind))(cs:List (Str×Addr))(C:Addr)(vars:List Str):Fr:=
 {X:=Z.X,Φ:=Z.Φ,Ar:=Ar,d:=d,env:=env,ls:=vars.map (aT names cs C),B:=λa=>Z.B a/\¬aA C cs a,U:=aA C cs,wr:=vars.length,ow:=vars.length,fx:=Z.fx}
theorem lS{d:Nat}(V:Bs Z s)(R:bD Ar d)(x:aJ Z.X Z.X.V s s')(N:bF C names cs)(hi:∀a,aA C cs a->s.heap.get? a=none/\Z.X.N<=a)(F:di s'.heap C names cs vars)(hC:env.locals=C)(hv:vars.Nodup):
  ∃ws,Dy (Z.first Ar d env names cs C vars) (List.replicate vars.length .unset) ws s':=by
 have aj:=V.step x
 have loc:∀(i:Nat) (l:Loc),(vars.map (aT names cs C))[i]?=some l->∃y,vars[i]?=some y/\aT names cs C y=l:=λi l e=>by
  rw[List.getElem?_map]at e
  exact aE e λy e q=>⟨y,e,q⟩
 have un:∀{i:Nat} {t:Slot},(List.replicate vars.length Slot.unset)[i]?=some t->t=.unset:=λe=>by
  obtain⟨_,e⟩:=jb e
  rw[<-e,List.getElem_replicate]
 obtain⟨g,hg⟩:=Classical.axiomOfChoice F.pl
 refine⟨λi=>vars[i]?.bind g,{K:=V.K,R:=R,g:=aj.g,fresh:=λa n e=>⟨aj.fresh a n e,λq=>ah e ((F.mu a q).imp λ_ q=>q.1)⟩,sub:=λa b=>V.sub a b.1,eU:=λa u b=>b.2 u,turn:=λa u=>⟨(hi a u).2,F.mu a u⟩,len:=?_,pl:=λi l e=>?_,hi:=λl m=>?_,ok:=λi t e=>?_,mine:=λi l _ e=>?_,dI:=λi xs a _ e _=>(nomatch un e),apart:=N.nodup hv,eV:=⟨hC▸(hi C (.inl rfl)).2,hC▸F.ns⟩,once:=λi j xs ys e1 e2 e3=>(nomatch un e1)}⟩
 ·show(vars.map (aT names cs C)).length=_
  rw[List.length_map,List.length_replicate]
 ·obtain⟨y,ey,rfl⟩:=loc i l e
  show At _ (vars[i]?.bind g) _
  rw[ey];exact hg y (List.mem_of_getElem? ey)
 ·rw[un e];trivial
 ·obtain⟨y,_,rfl⟩:=List.mem_map.mp m
  exact(hi _ (N.of y)).2
 ·obtain⟨y,_,rfl⟩:=loc i l e
  exact N.of y
noncomputable def setFrom(k:Nat):List PV->List Slot->List Slot
 | [],σ=>σ
 |p::ps,σ=>setFrom (k+1) ps (σ.set k (.val p))
theorem gU:∀(ps:List PV) (pre:List Slot) (n:Nat),setFrom pre.length ps (pre++List.replicate (ps.length+n) Slot.unset)=pre++ps.map Slot.val++List.replicate n Slot.unset:=by
 intro w
 induction w with
 |nil=>intro pre n;rw[List.length_nil,Nat.zero_add,List.map_nil,List.append_nil];rfl
 |cons p ps ih=>
  intro pre n
  unfold setFrom
  have e:(pre++List.replicate ((p::ps).length+n) Slot.unset).set pre.length (.val p)=(pre++[.val p])++List.replicate (ps.length+n) Slot.unset:=by
   rw[List.set_append_right _ _ (Nat.le_refl _),Nat.sub_self,List.length_cons,Nat.add_right_comm,List.replicate_succ,List.set_cons_zero,List.append_assoc];rfl
  have h:=ih (pre++[.val p]) n
  rw[ay]at h
  rw[e]
  exact h.trans (by rw[List.append_assoc pre];rfl)
theorem fL(EO:bq Z.env sc Z.ls):∀(xs:List Str) (vs:List Value) (ps:List PV) (k:Nat) (σ:List Slot) (ws:Nat->Option Value) (s:Shared) (Q:PUnit->Shared->Prop),Dy Z σ ws s->xs.length=ps.length->Z.af s.heap ps vs->
  (∀(j:Nat) (x:Str),xs[j]?=some x->kX sc (k+j) x=true/\k+j<Z.wr)->
  (∀dH s',aJ Z.X Z.K s s'->Dy Z (setFrom k ps σ) dH s'->Q ⟨⟩ s')->
  wpAny Z.X.M Z.Ar (forIn (xs.zip vs) (⟨⟩:PUnit) λ(x:Str×Value) (_:PUnit)=>(match x with|(name,v)=>do storeName Z.env name v;pure (ForInStep.yield ⟨⟩):Sem (ForInStep PUnit))) Q E s:=by
 intro w
 induction w with
 |nil=>
  intro vs ps k σ ws s Q D hl r _ h
  cases ps with
  |nil=>
   rw[List.zip_nil_left,List.forIn_nil]
   exact wpAny_pure (h ws s .refl D)
  |cons=>cases hl
 |cons x xs ih=>
  intro vs ps k σ ws s Q D hl r hm h
  cases ps with
  |nil=>cases hl
  |cons p ps=>
   obtain⟨v,vs,rfl,r1,r2⟩:=r
   rw[List.zip_cons_cons,List.forIn_cons]
   exact wpAny_bind (wpAny_bind (iO D EO (hm 0 x rfl).1 (hm 0 x rfl).2 r1 λeB s₁ x₁ D₁=>wpAny_pure (ih vs ps (k+1) _ eB s₁ Q D₁ (Nat.succ.inj hl) (Fr.af.Aa r2 D x₁) (λj x' e=>(Nat.add_right_comm k j 1)▸hm (j+1) x' e) λbB s₂ x₂ D₂=>h bB s₂ (x₁.trans x₂) D₂)))
end
structure dY where
 names:List (Str×NameKind)
 params:List Str
 locals:List Str
abbrev dY.sc(D:dY)(nm:oQ):SC:=⟨D.names,D.params++D.locals,nm,D.params==(["script"]:List Str)⟩
structure dJ(fd:FuncData)(D:dY)(stmts:List Stmt):Prop where
 names:fd.scope.names=D.names
 kind:fd.scope.kind=.function
 co:fd.scope.isCoroutine=false
 gen:fd.scope.isGenerator=false
 body:fd.body=.stmts stmts
 Im:fd.closure=[]
 glob:fd.globals=mainGlobals
 blt:fd.builtins=builtinsNs
 nodup:(D.params++D.locals).Nodup
 KP:∀x,D.names.lookup x≠some .free
 store:∀x∈D.params++D.locals,(D.names.lookup x==some .local||D.names.lookup x==some .cell)=true
 bind:∀vs:List Value,vs.length=D.params.length->bindArgs fd ⟨vs,[]⟩=pure (D.params.zip vs)
structure FnAt(X:Cx)(a:Addr)(fd:FuncData):Prop where
 obj:∀h,X.G h->∃o,h.get? a=some o/\o.data=.func fd
 code:∀h,X.G h->h.CodeRec fd.code fd.qualname
section
variable{nm:oQ}{Z:Fr}{s:Shared}{ps:List PV}{vs:List Value}{r:PV}{a:Addr}{fd:FuncData}{D:dY}{stmts:List Stmt}{d:Nat}
noncomputable def dY.slots(D:dY)(ps:List PV):List Slot:=ps.map Slot.val++List.replicate D.locals.length .unset
def Done(Z:Fr)(f:Flow)(r:PV)(s:Shared):Prop:=(f=.next/\r=.none)\/∃v,f=.ret v/\Z.Rep s.heap r v
theorem DC{u d:Nat}(h:u+8*(d+1)+200<=9900):u+1+8*d+200<=9900:=wQ (by decide) h
theorem bD.in1{Ar:Around}{d:Nat}(R:bD Ar (d+1)):bD Ar.in1 d:=⟨R.hh,Nat.le_of_succ_le R.hd,DC R.hu⟩
theorem pg{Rr:Result->Shared->Prop}{σ₂:List Slot}(V:Bs Z s)(A:FnAt Z.X a fd)(DO:dJ fd D stmts)(hd:Z.d=d+1)(hlen:vs.length=D.params.length)
  (bind:∀env cs C ws H,bq env (D.sc nm) ((D.params++D.locals).map (aT D.names cs C))->(∀a,aA C cs a->s.heap.get? a=none/\Z.X.N<=a)->Ext s.heap H->Dy (Z.first Z.Ar.in1 d env D.names cs C (D.params++D.locals)) (List.replicate (D.params++D.locals).length .unset) ws {s with heap:=H}->
   ∀(Q:PUnit->Shared->Prop) E,(∀bB s₂,aJ Z.X (Z.first Z.Ar.in1 d env D.names cs C (D.params++D.locals)).K {s with heap:=H} s₂->Dy (Z.first Z.Ar.in1 d env D.names cs C (D.params++D.locals)) σ₂ bB s₂->Q ⟨⟩ s₂)->
   wpAny Z.X.M Z.Ar.in1 (forIn (D.params.zip vs) (⟨⟩:PUnit) λ(x:Str×Value) (_:PUnit)=>(match x with|(name,v)=>do storeName env name v;pure (ForInStep.yield ⟨⟩):Sem (ForInStep PUnit))) Q E {s with heap:=H})
  (run:∀env cs C ws s₂,env=newEnv fd.scope C fd.globals cs (fd.qualname++".<locals>.") (some a) fd.code none fd.builtins->(∀x,D.names.lookup x=some .cell->env.cells.lookup x=cs.lookup x)->bF C D.names cs->(∀a,aA C cs a->s.heap.get? a=none/\Z.X.N<=a)->bq env (D.sc nm) ((D.params++D.locals).map (aT D.names cs C))->aJ Z.X Z.X.V s s₂->
   Dy (Z.first (Z.Ar.deeper env) d env D.names cs C (D.params++D.locals)) σ₂ ws s₂->wpAny Z.X.M (Z.Ar.deeper env) (execs stmts env) (λf s₃=>Rr (.ok (.ret (match f with| .ret v=>v|_=>.none))) s₃) (λe s₃=>wpAny Z.X.M (Z.Ar.deeper env) (leaving env e) (λ_ s₄=>Rr (.error e) s₄) (λe' s₄=>Rr (.error e') s₄) s₃) s₂):codeAny Z.X.M Z.Ar (.call (.ref a) ⟨vs,[]⟩) Rr s:=by
 obtain⟨o,ho,hod⟩:=A.obj _ V.g
 have R:bD Z.Ar (d+1):=hd▸V.R
 refine codeAny_call_function R.depth ho hod DO.co DO.gen DO.body (A.code _ V.g) ?_
 rw[DO.bind vs hlen,DO.Im]
 refine wpAny_pure (iH ?_)
 have fo:=jQ s.heap fd.scope.names (.type "frame") (D.params++D.locals)
 rw[DO.names]at fo⊢
 revert fo
 generalize pushCells (s.heap.push {cls:=.type "frame",data:=.dict #[]}) D.names=H
 generalize cellsFrom (s.heap.objs.size+1) D.names []=cs
 have new:∀a,s.heap.objs.size<=a->s.heap.get? a=none/\Z.X.N<=a:=λa l=>⟨eK l,Nat.le_trans (V.K.size _ V.g) l⟩
 revert new
 generalize s.heap.objs.size=C
 intro new fo
 obtain⟨N,hi,F,_,K⟩:=fo
 have hi:∀a,aA C cs a->s.heap.get? a=none/\Z.X.N<=a:=λa u=>new a (hi a u)
 generalize he:newEnv fd.scope C fd.globals cs (fd.qualname++".<locals>.") (some a) fd.code none fd.builtins=env
 have hcs:env.cells=cs:=by rw[<-he];rfl
 have hC:env.locals=C:=by rw[<-he];rfl
 have EO:bq env (D.sc nm) ((D.params++D.locals).map (aT D.names cs C)):=by
  refine⟨by rw[<-he];exact DO.kind,by rw[<-he];exact DO.names,by rw[<-he];exact DO.glob,by rw[<-he];exact DO.blt,List.length_map _,λi x l e1 e2 e3=>?_,λi x l e1 e2 e3=>?_⟩
  ·rw[List.getElem?_map,show(D.params++D.locals)[i]?=some x from e1]at e2
   rw[<-aq e2,hC]
   unfold aT
   rw[show D.names.lookup x=some .local from e3];rfl
  ·rw[List.getElem?_map,show(D.params++D.locals)[i]?=some x from e1]at e2
   have e3:D.names.lookup x=some .cell:=e3.elim id λq=>absurd q (DO.KP x)
   obtain⟨c,hc⟩:=N.has x (mem_of_lookup e3)
   refine⟨c,by rw[hcs];exact hc,?_⟩
   rw[<-aq e2]
   unfold aT
   rw[e3,hc];rfl
 have x₁:aJ Z.X Z.X.V s {s with heap:=H}:=V.ext (tk:=s.toks) K
 obtain⟨ws,D₁⟩:=lS (env:=env) (Ar:=Z.Ar.deeper env) V R.deeper x₁ N hi F hC DO.nodup
 refine bind env cs C ws H EO hi K {D₁ with R:=R.in1} _ _ λbB s₂ x₂ D₂=>?_
 have y₂:aJ Z.X Z.X.V s s₂:=x₁.on x₂ (λb o k e=>⟨k,λu=>ah (hi b u).1 ⟨o,e⟩⟩) (Nat.le_refl _)
 exact⟨V.K.nolimit _ D₂.g,codeAny_func (run env cs C bB s₂ he.symm (λx _=>by rw[hcs]) N hi EO y₂ {D₂ with R:=R.deeper})⟩
theorem Ds(DO:dJ fd D stmts){j:Nat}{x:Str}(e:D.params[j]?=some x):kX (D.sc nm) j x=true:=by
 show((D.params++D.locals)[j]?==some x&&_)=true
 rw[List.getElem?_append_left (jb e).1,e,beq_self_eq_true]
 exact DO.store x (List.mem_append_left _ (List.mem_of_getElem? e))
theorem Dr{j:Nat}{x:Str}(e:D.params[j]?=some x):j<(D.params++D.locals).length:=by rw[ay];exact Nat.lt_of_lt_of_le (jb e).1 (Nat.le_add_right _ _)
theorem vS{env:Env}{cs:List (Str×Addr)}{C:Addr}{s₂ s₃:Shared}{B U:Addr->Prop}(V:Bs Z s){Ar:Around}(hi:∀a,aA C cs a->s.heap.get? a=none/\Z.X.N<=a)(y₂:aJ Z.X Z.X.V s s₂)(g:aI (Z.first Ar d env D.names cs C (D.params++D.locals)) s₂ s₃ B U):
  aJ Z.X Z.X.V s s₃/\∀b,B b->Z.B b:=
 ⟨y₂.on g.x (λb o k e=>⟨k,λu=>ah (hi b u).1 ⟨o,e⟩⟩) y₂.size,
  λb q=>(g.hB b q).elim (λq=>q.1) λq=>q.elim (λu=>V.fresh b (hi b u).2 (hi b u).1) λn=>V.fresh b n.1 (y₂.live (.inl n.1) n.2)⟩
theorem vI{Rr:Result->Shared->Prop}(V:Bs Z s)(A:FnAt Z.X a fd)(DO:dJ fd D stmts)(hd:Z.d=d+1)(rl:Z.af s.heap ps vs)(hlen:ps.length=D.params.length)
  (run:∀env cs C ws s₂,env=newEnv fd.scope C fd.globals cs (fd.qualname++".<locals>.") (some a) fd.code none fd.builtins->(∀x,D.names.lookup x=some .cell->env.cells.lookup x=cs.lookup x)->bF C D.names cs->(∀a,aA C cs a->s.heap.get? a=none/\Z.X.N<=a)->bq env (D.sc nm) ((D.params++D.locals).map (aT D.names cs C))->aJ Z.X Z.X.V s s₂->
   Dy (Z.first (Z.Ar.deeper env) d env D.names cs C (D.params++D.locals)) (D.slots ps) ws s₂->wpAny Z.X.M (Z.Ar.deeper env) (execs stmts env) (λf s₃=>Rr (.ok (.ret (match f with| .ret v=>v|_=>.none))) s₃) (λe s₃=>wpAny Z.X.M (Z.Ar.deeper env) (leaving env e) (λ_ s₄=>Rr (.error e) s₄) (λe' s₄=>Rr (.error e') s₄) s₃) s₂):codeAny Z.X.M Z.Ar (.call (.ref a) ⟨vs,[]⟩) Rr s:=by
 refine pg (nm:=nm) V A DO hd (by rw[rl.len];exact hlen) (σ₂:=D.slots ps) (λenv cs C ws H EO hi K D₁ Q E k=>?_) run
 have ux:(Z.first Z.Ar.in1 d env D.names cs C (D.params++D.locals)).af H ps vs:=Internal.af.move (λb o q e=>⟨⟨q,λu=>ah (hi b u).1 ⟨o,e⟩⟩,K b o e⟩) rl
 refine fL (Z:=Z.first Z.Ar.in1 d env D.names cs C (D.params++D.locals)) EO D.params vs ps 0 _ ws _ _ D₁ hlen.symm ux (λj x e=>by rw[Nat.zero_add];exact⟨Ds DO e,Dr e⟩) λbB s₂ x₂ D₂=>?_
 have es:=gU ps [] D.locals.length
 rw[List.nil_append,List.nil_append]at es
 rw[show(D.params++D.locals).length=ps.length+D.locals.length by rw[ay,hlen]]at D₂
 rw[show([]:List Slot).length=0 from rfl]at es
 rw[es]at D₂
 exact k bB s₂ x₂ D₂
theorem qQ(V:Bs Z s)(A:FnAt Z.X a fd)(DO:dJ fd D stmts)(hd:Z.d=d+1)(rl:Z.af s.heap ps vs)(hlen:ps.length=D.params.length)
  (run:∀env cs C ws s₂,env=newEnv fd.scope C fd.globals cs (fd.qualname++".<locals>.") (some a) fd.code none fd.builtins->(∀x,D.names.lookup x=some .cell->env.cells.lookup x=cs.lookup x)->bF C D.names cs->(∀a,aA C cs a->s.heap.get? a=none/\Z.X.N<=a)->bq env (D.sc nm) ((D.params++D.locals).map (aT D.names cs C))->aJ Z.X Z.X.V s s₂->
   Dy (Z.first (Z.Ar.deeper env) d env D.names cs C (D.params++D.locals)) (D.slots ps) ws s₂->∀E,wpAny Z.X.M (Z.Ar.deeper env) (execs stmts env) (λf s₃=>∃B U,aI (Z.first (Z.Ar.deeper env) d env D.names cs C (D.params++D.locals)) s₂ s₃ B U/\Done ((Z.first (Z.Ar.deeper env) d env D.names cs C (D.params++D.locals)).bu B U) f r s₃) E s₂):aY Z s r (call (.ref a) vs):=by
 intro Q E h
 refine wpAny_call (vI (nm:=nm) V A DO hd rl hlen λenv cs C ws s₂ he hc N hi EO y₂ D₂=>wpAny_mono (run env cs C ws s₂ he hc N hi EO y₂ D₂ _) (λf s₃ q=>?_) λ_ _ e=>e)
 obtain⟨B,U,g,en⟩:=q
 obtain⟨eY,fr⟩:=vS V hi y₂ g
 rcases en with⟨rfl,rfl⟩|⟨v,rfl,rv⟩
 ·exact h _ _ eY (rfl:Value.none=_)
 ·exact h _ _ eY (Internal.Rep.move rv λb o q e=>⟨fr b q,e⟩)
end
section
variable{nm:oQ}{Z:Fr}{s:Shared}{ps:List PV}{vs:List Value}{r:PV}{a:Addr}{fd:FuncData}{D:dY}{d:Nat}
def aG(D:dY)(body:SL (D.sc nm))(Φ:bO)(ps:List PV):Option PV:=bif Nat.beq ps.length D.params.length then(body.ex Φ (D.slots ps)).bind λo=>Out.casesOn (motive:=λ_=>Option PV) o (λ_=>some .none) (λ_=>none) some else none
theorem gq{Ar:Around}{env:Env}{cs:List (Str×Addr)}{C:Addr}{σ:List Slot}{ws:Nat->Option Value}(EO:bq env (D.sc nm) ((D.params++D.locals).map (aT D.names cs C)))(hnm:Z.X.nm=nm)(Mf:Dy (Z.first Ar d env D.names cs C (D.params++D.locals)) σ ws s)(P:Pf Z.X Z.Φ Ar d)(ht:(D.sc nm).top=true->Ar.frames=some [env]/\env.frame=some env.locals):Ex (Z.first Ar d env D.names cs C (D.params++D.locals)) (D.sc nm) σ ws s:=
 ⟨⟨⟨Mf,P,EO,hnm,ht⟩,Nat.le_of_eq (List.length_map _)⟩,λi x h=>(jb (eq_of_beq (both h).1:(D.params++D.locals)[i]?=some x)).1⟩
theorem BG{body:SL (D.sc nm)}(V:Bs Z s)(A:FnAt Z.X a fd)(DO:dJ fd D body.sts)(hd:Z.d=d+1)(hnm:Z.X.nm=nm)(P:∀Ar,bD Ar d->Pf Z.X Z.Φ Ar d)(rl:Z.af s.heap ps vs)(e:aG D body Z.Φ ps=some r)(ht:(D.sc nm).top=true->Z.Ar.frames=some []):aY Z s r (call (.ref a) vs):=by
 unfold aG at e
 cases hl:Nat.beq ps.length D.params.length with
 |false=>rw[hl]at e;exact no e
 |true=>
  rw[hl]at e
  refine aa e λo e1 e2=>qQ (nm:=nm) V A DO hd rl (Nat.eq_of_beq_eq_true hl) λenv cs C ws s₂ he _ N hi EO x D₂ E=>?_
  refine body.ok (gq EO hnm D₂ (P _ D₂.R) λq=>⟨by show Z.Ar.frames.map _=_;rw[ht q];rfl,by rw[he];rfl⟩) e1 _ E λf s₃ B U g en=>⟨B,U,g,?_⟩
  cases o with
  |next σ=>exact .inl ⟨en.1,(aq e2).symm⟩
  |brk σ=>exact no e2
  |ret p=>
   obtain⟨v,hf,rv⟩:=en
   exact .inr ⟨v,hf,aq e2▸rv⟩
end
end Mine.Internal
end
section
open PySem PySem.W PyProof.Rows
open Sem (wp)
namespace Mine.Internal
theorem mO{M:Model}{A:Around}{Q:Value->Shared->Prop}{E:Value->Shared->Prop}{s:Shared}(h:∀o1 o2:Obj,o2.isFreed=false->o2.cls=.type "StopIteration"->Q (.ref (s.heap.push o1).objs.size) {s with heap:=(s.heap.push o1).push o2}):wpAny M A (newExc (.type "StopIteration") []) Q E s:=by
 unfold newExc newTuple
 refine wpAny_bind (wpAny_newObj_type ?_ (by size_fits))
 refine wpAny_bind (m:=firstArgMember _ _) (wpAny_of_eq (a:=Value.none) (by first|rfl|(simp only[firstArgMember];rfl)) ?_)
 exact wpAny_newObj_type (h _ _ rfl rfl) (by size_fits)
theorem ua{prog:Program}{w:World}{Ar:Around}{E:Value->Shared->Prop}{s:Shared}{a:Addr}{g n:Nat}{gs:GenState}{P:Nat->Shared->Shared->Prop}{Y:Protocol}{Q:Option Value->Shared->Prop}(hh:Ar.handled=none)
  (hl:s.heap.NoLimit) (hroom:Ar.depth<recursionLimit) (hg:s.heap.IsGen a g) (hgs:s.gens[g]?=some gs)
  (hgo:gs.Goes (model prog w) Ar.in1 (λn s₀ r s₁=>r=.ok (.ret .none)/\P n s₀ s₁) Y n (.send .none) (s.setGen g .running))
  (hY:∀v s₁ gs',gs'.bare=true->Y (n-1) (s.setGen g .running) v s₁ (λr' s''=>match n with
    |0=>False
    |m+1=>gs'.Goes (model prog w) Ar.in1 (λn s₀ r s₁=>r=.ok (.ret .none)/\P n s₀ s₁) Y m r' s'')->Q (some v) (s₁.setGen g gs'))
  (hP:∀s₁,P n (s.setGen g .running) s₁->∀h',Ext s₁.heap h'->Q none {s₁.setGen g .finished with heap:=h'}):
  wpAny (model prog w) Ar (pyNext (.ref a)) Q E s:=by
 unfold pyNext
 refine wpAny_bind (wpAny_attempt (wpAny_callSpecial?_slot (name:=Str.ofString "__next__") hg.typeIs slot_gen_next
  (wpAny_call_entry slot_gen_next hg.typeIs entry_gen_next ?_ (args_gen_next _))))
 show wpAny _ Ar.in1 (Builtin.Generator.genWake (.ref a) (.send .none)) _ _ s
 unfold Builtin.Generator.genWake
 refine wpAny_bind (wpAny_holding (wpAny_genNumber hg (wpAny_bind (wpAny_genState hgs ?_))))
 cases gs with
 |running=>exact hgo.elim
 |finished=>exact hgo.elim
 |_=>
  refine wpAny_bind (wpAny_roomToWake hl hroom ?_)
  show wpAny _ Ar.in1 (.resume g (.send .none) [] _) _ _ s
  refine wpAny_resumeQ hgs hgo (λx s₁ hx=>?_) (λv s₁ gs' hb hv=>?_)
  ·obtain⟨rfl,hp⟩:=hx
   show wpAny _ Ar.in1 (newExc (.type "StopIteration") []>>=_) _ _ _
   refine wpAny_bind (mO λo1 o2 hf hc=>?_)
   refine wpAny_bind (wpAny_raiseNew_none (show Ar.in1.handled=none from hh) ?_)
   refine wpAny_bind (wpAny_isInstance (T:="StopIteration") (b:=true) ⟨_,Heap.get?_push_size _ hf,hc⟩ isSubtype_stop ?_)
   exact wpAny_pure (hP s₁ hp _ λb o hb=>Heap.get?_push_of_some _ (Heap.get?_push_of_some _ hb))
  ·exact wpAny_pure ⟨v,rfl,wpAny_pure (hY v s₁ gs' hb hv)⟩
section
variable{M:Model}{A:Around}{R:GenEnd}{Y:Protocol}{n:Nat}{s₀:Shared}{c:Code}{fs:List Frame}{s:Shared}{env:Env}
 {K:Flow->Sem Fin} {H:Value->Sem Fin} {gd:Bool->Bool} {lv:List Value->List Value}
theorem pR{t:Sem Flow}(h:wpAny M (A.over c fs) t (λf s'=>Seg M A R Y n s₀ c (K f) fs s') (λx s'=>Seg M A R Y n s₀ c (H x) fs s') s):Seg M A R Y n s₀ c (t.wrap K H gd lv) fs s:=seg_wrap h
theorem Lf{test:Expr}{body orelse:List Stmt}{pos:Pos}(h:wpAny M (A.over c fs) (isTrue test env (eval test env)) (λb s'=>Seg M A R Y n s₀ c ((execs (if b=true then body else orelse) env).wrap K H gd lv) fs s') (λx s'=>Seg M A R Y n s₀ c (H x) fs s') s):
  Seg M A R Y n s₀ c ((exec (.If test body orelse pos) env).wrap K H gd lv) fs s:=by
 have e:exec (.If test body orelse pos) env=(standAt pos>>=λ_=>isTrue test env (eval test env)>>=λb=>if b=true then execs body env else execs orelse env):=rfl
 rw[e]
 show Seg M A R Y n s₀ c (.at pos λ_=>(isTrue test env (eval test env)>>=λb=>if b=true then execs body env else execs orelse env).wrap K H gd lv) fs s
 refine seg_at ?_
 rw[Sem.bind_eq_wrap',Sem.wrap_wrap]
 refine seg_wrap (wpAny_mono h (λb s' hb=>?_) λ_ _ x=>x)
 cases b<;>exact hb
theorem G5{target iter:Expr}{body orelse:List Stmt}{pos:Pos}(hs:∀x,foldedSetIterable iter env x=pure x)
  (h:wpAny M (A.over c fs) (eval iter env) (λx s₁=>wpAny M (A.over c fs) (pyIter x) (λit s₂=>∀p,Seg M A R Y n s₀ (.forLoop target it body orelse env) (M.den (.forLoop target it body orelse env))
   (.ret (λr=>((match r with| .ok f=>(.pure f:Sem Flow)| .error e=>.raise e).onRaise λ(x:Value)=>do
    if(<-field x 1)==Value.none then unsupported "frame.own-activation:exception-without-traceback"
    setFlight x env.frame).wrap K H gd lv) none (gd false) (lv []) c p []::fs) s₂) (λx s'=>Seg M A R Y n s₀ c (H x) fs s') s₁) (λx s'=>Seg M A R Y n s₀ c (H x) fs s') s):
  Seg M A R Y n s₀ c ((exec (.For target iter body orelse pos) env).wrap K H gd lv) fs s:=by
 have e:exec (.For target iter body orelse pos) env=(standAt pos>>=λ_=>eval iter env>>=λy=>foldedSetIterable iter env y>>=λx=>standAt iter.pos>>=λ_=>holding [x] (pyIter x)>>=λit=>runOwn (.forLoop target it body orelse env) env):=rfl
 rw[e]
 show Seg M A R Y n s₀ c (.at pos λ_=>(eval iter env>>=λy=>foldedSetIterable iter env y>>=λx=>standAt iter.pos>>=λ_=>holding [x] (pyIter x)>>=λit=>runOwn (.forLoop target it body orelse env) env).wrap K H gd lv) fs s
 refine seg_at ?_
 rw[Sem.bind_eq_wrap',Sem.wrap_wrap]
 refine seg_wrap (wpAny_mono h (λx s₁ h₁=>?_) λ_ _ x=>x)
 rw[hs,pure_bind]
 show Seg M A R Y n s₀ c (.at iter.pos λ_=>(holding [x] (pyIter x)>>=λit=>runOwn (.forLoop target it body orelse env) env).wrap K H gd lv) fs s₁
 refine seg_at ?_
 rw[Sem.bind_eq_wrap',Sem.wrap_wrap]
 refine seg_wrap (wpAny_holding (wpAny_mono h₁ (λit s₂ h₂=>?_) λ_ _ x=>x))
 exact seg_call h₂
end
section
variable{prog:Program}{w:World}{A:Around}{R:GenEnd}{Y:Protocol}{n:Nat}{s₀:Shared}{fs:List Frame}{s:Shared}{env:Env}
theorem lX{target:Expr}{it:Value}{body orelse:List Stmt}
  (h:wpAny (model prog w) (A.over (.forLoop target it body orelse env) fs) (pyNext it) (λr s₁=>match r with
   |none=>Seg (model prog w) A R Y n s₀ (.forLoop target it body orelse env) (.pure (.again (.block orelse env))) fs s₁
   |some v=>wpAny (model prog w) (A.over (.forLoop target it body orelse env) fs) (letOwnedTupleGo target it v) (λ_ s₂=>wpAny (model prog w) (A.over (.forLoop target it body orelse env) fs) (assign target env v) (λ_ s₃=>
     Seg (model prog w) A R Y n s₀ (.forLoop target it body orelse env) ((execs body env).wrap (λf=>match f with
      | .next| .cont=>.pure (.again (.forLoop target it body orelse env))
      | .brk=>.pure (.done .next)
      | .ret v=>.pure (.done (.ret v))) (λe=>(do noteFrame e env;theTreesLotGoes e:Sem Unit).wrap (λ_=>.raise e) .raise id id) id id) fs s₃)
     (λx s'=>Seg (model prog w) A R Y n s₀ (.forLoop target it body orelse env) ((do noteFrame x env;theTreesLotGoes x:Sem Unit).wrap (λ_=>.raise x) .raise id id) fs s') s₂)
     (λx s'=>Seg (model prog w) A R Y n s₀ (.forLoop target it body orelse env) ((do noteFrame x env;theTreesLotGoes x:Sem Unit).wrap (λ_=>.raise x) .raise id id) fs s') s₁)
   (λx s'=>Seg (model prog w) A R Y n s₀ (.forLoop target it body orelse env) ((do noteFrame x env;theTreesLotGoes x:Sem Unit).wrap (λ_=>.raise x) .raise id id) fs s') s):
  Seg (model prog w) A R Y n s₀ (.forLoop target it body orelse env) ((model prog w).den (.forLoop target it body orelse env)) fs s:=by
 show Seg _ A R Y n s₀ _ ((forTurn target it body orelse env).onRaise (λx=>do noteFrame x env;theTreesLotGoes x)) fs s
 have e:forTurn target it body orelse env=(standAt target.pos>>=λ_=>(pyNext it).onRaise (λ_=>standAt {target.pos with line:=0})>>=λr=>match r with
  |none=>again (.block orelse env)
  |some v=>letOwnedTupleGo target it v>>=λ_=>assign target env v>>=λ_=>execs body env>>=λf=>match f with
   | .next| .cont=>again (.forLoop target it body orelse env)
   | .brk=>pure (.done .next)
   | .ret v=>pure (.done (.ret v))):=rfl
 rw[e,Sem.onRaise_eq_wrap]
 refine seg_at ?_
 show Seg _ A R Y n s₀ _ (Sem.wrap Sem.pure _ _ _ ((pyNext it).onRaise (λ_=>standAt {target.pos with line:=0})>>=λr=>match r with
  |none=>again (.block orelse env)
  |some v=>letOwnedTupleGo target it v>>=λ_=>assign target env v>>=λ_=>execs body env>>=λf=>match f with
   | .next| .cont=>again (.forLoop target it body orelse env)
   | .brk=>pure (.done .next)
   | .ret v=>pure (.done (.ret v)))) fs s
 rw[Sem.bind_eq_wrap',Sem.wrap_wrap]
 have EH:∀x s',Seg (model prog w) A R Y n s₀ (.forLoop target it body orelse env) ((do noteFrame x env;theTreesLotGoes x:Sem Unit).wrap (λ_=>.raise x) .raise id id) fs s'->
   Seg (model prog w) A R Y n s₀ (.forLoop target it body orelse env) ((do noteFrame x env;theTreesLotGoes x:Sem Unit).bind λ_=>.raise x) fs s':=λx s' q=>by
  rw[Sem.bind_eq_wrap];exact q
 refine seg_wrap (wpAny_onRaise (wpAny_mono h (λr s₁ h₁=>?_) λx s' q=>wpAny_standAt (EH x s' q)))
 cases r with
 |none=>exact h₁
 |some v=>
  show Seg _ A R Y n s₀ _ (Sem.wrap _ _ _ _ (letOwnedTupleGo target it v>>=_)) fs s₁
  rw[Sem.bind_eq_wrap',Sem.wrap_wrap]
  refine seg_wrap (wpAny_mono h₁ (λ_ s₂ h₂=>?_) λx s' q=>EH x s' q)
  rw[Sem.bind_eq_wrap',Sem.wrap_wrap]
  refine seg_wrap (wpAny_mono h₂ (λ_ s₃ h₃=>?_) λx s' q=>EH x s' q)
  rw[Sem.bind_eq_wrap',Sem.wrap_wrap]
  rw[Sem.wrap_congr (execs body env) _ _ (K':=λf=>match f with
      | .next| .cont=>.pure (.again (.forLoop target it body orelse env))
      | .brk=>.pure (.done .next)
      | .ret v=>.pure (.done (.ret v))) (H':=(λe=>(do noteFrame e env;theTreesLotGoes e:Sem Unit).wrap (λ_=>.raise e) .raise id id))
    (λf=>by cases f<;>rfl)
    (λe=>by first|exact Sem.bind_eq_wrap _ _|(show(do noteFrame e env;theTreesLotGoes e:Sem Unit).bind (λ_=>.raise e)=_;rw[Sem.bind_eq_wrap]))]
  exact h₃
end
def xr(σ:List Slot):Prop:=∀(i:Nat) (xs:List PV),σ[i]?≠some (.own xs)
def noOwn(σ:List Slot):Bool:=σ.all λt=>Slot.casesOn (motive:=λ_=>Bool) t true (λ_=>true) (λ_=>false) λ_=>true
theorem j4{σ:List Slot}(h:noOwn σ=true):xr σ:=λi xs e=>nomatch (List.all_eq_true.mp h _ (List.mem_of_getElem? e):false=true)
noncomputable def mY(p:PV):Bool:=PV.casesOn (motive_1:=λ_=>Bool) p true (λ_=>true) (λ_=>true) (λ_=>true) (λ_=>true) (λ_=>false) (λ_=>false) (λ_ _=>false) λ_=>true
def HZ(t:Slot):Bool:=Slot.casesOn (motive:=λ_=>Bool) t true mY (λ_=>false) λ_=>true
def bY(σ:List Slot):Bool:=σ.all HZ
theorem xu{σ:List Slot}{i:Nat}{t:Slot}(h:bY σ=true)(e:σ[i]?=some t):HZ t=true:=List.all_eq_true.mp h t (List.mem_of_getElem? e)
theorem Fi{σ:List Slot}(h:bY σ=true):xr σ:=λi xs e=>nomatch (xu h e:false=true)
theorem jF{h h':Heap}{B B':Addr->Prop}{p:PV}{v:Value}(hs:mY p=true)(r:Rep h B p v):Rep h' B' p v:=by
 cases p<;>first|exact r|exact nomatch hs
theorem Dy.norm{Z:Fr}{σ:List Slot}{ws:Nat->Option Value}{s s':Shared}{B' U':Addr->Prop}(D:Dy Z σ ws s)(hs:bY σ=true)(kl:∀l∈Z.ls,∀o,s.heap.get? l.addr=some o->s'.heap.get? l.addr=some o)(kn:∀o,s.heap.get? Z.env.locals=some o->s'.heap.get? Z.env.locals=some o)
  (g:Z.X.G s'.heap) (fresh:∀a,Z.X.N<=a->s'.heap.get? a=none->B' a) (sub:∀a,B' a->Z.X.V a) (eU:∀a,U' a->¬B' a) (turn:∀a,U' a->mD Z.X.N s'.heap a) (mine:∀l∈Z.ls,U' l.addr):Dy (Z.bu B' U') σ ws s':=
 {K:=D.K,R:=D.R,g:=g,fresh:=fresh,sub:=sub,eU:=eU,turn:=turn,len:=D.len,hi:=D.hi,apart:=D.apart,once:=D.once
  pl:=λi l e=>(D.pl i l e).keep (kl l (List.mem_of_getElem? e))
  mine:=λi l _ e=>mine l (List.mem_of_getElem? e)
  dI:=λi xs a _ e _=>absurd e (Fi hs i xs)
  eV:=⟨D.eV.1,D.eV.2.imp λm q=>q.at' kn⟩
  ok:=λi t e=>by
   have q:=D.ok i t e
   have c:=xu hs e
   cases t with
   |unset=>trivial
   |val p=>exact q.imp λv q=>⟨q.1,jF c q.2⟩
   |own xs=>exact nomatch c
   |is v=>exact q}
structure Gx where
 Z:Fr
 A:Around
 c:Code
 fs:List Frame
 own:Addr->Prop
 J:Heap->Prop
 C:Addr
 g:Nat
 xs:List PV
def Gx.B(x:Gx)(s₀:Shared)(a:Addr):Prop:=(x.Z.X.N<=a/\s₀.heap.get? a=none)/\¬x.own a
abbrev Gx.fr(x:Gx)(s₀:Shared):Fr:=x.Z.bu (x.B s₀) λa=>a=x.C
structure uS(x:Gx)(sc:SC):Prop where
 P:Pf x.Z.X x.Z.Φ x.Z.Ar x.Z.d
 EO:bq x.Z.env sc x.Z.ls
 nm:x.Z.X.nm=sc.nm
 nt:sc.top=false
 al:x.Z.ls.length<=x.Z.ow
 to:∀(i:Nat) (y:Str),kX sc i y=true->i<x.Z.wr
 ar:x.Z.Ar=x.A.over x.c x.fs
 all:∀l∈x.Z.ls,l.addr=x.C
 loc:x.Z.env.locals=x.C
 mine:x.own x.C
 jk:∀h h',x.J h->(∀a o,x.own a->a≠x.C->h.get? a=some o->h'.get? a=some o)->x.J h'
 U6:splitAtGen x.fs=none
 hfg:x.fs.any Frame.guarded=false
 hco:x.Z.env.scope.isCoroutine=false
 hin:interactive x.Z.env=false
structure r6(x:Gx)(σ:List Slot)(s₀ s:Shared):Prop where
 D:∃ws,Dy (x.fr s₀) σ ws s
 sc:bY σ=true
 nx:St x.Z.X (x.Z.X.VW x.own) x.g s₀ s
 mt:∀a,x.own a->mD x.Z.X.N s.heap a
 jj:x.J s.heap
 gz:x.g<=s.gens.size
noncomputable def vW(X:Cx)(own:Addr->Prop)(g:Nat)(xs:List PV):Protocol:=λm s₀ v s' TV=>
 ∃p,xs[xs.length-1-m]?=some p/\Internal.Rep s'.heap (λa=>(X.N<=a/\s₀.heap.get? a=none)/\¬own a) p v/\St X (X.VW own) g s₀ s'/\(∀a,own a->mD X.N s'.heap a)/\X.G s'.heap/\
  ∀s'',X.G s''.heap->(∀a o,own a->s'.heap.get? a=some o->s''.heap.get? a=some o)->g<=s''.gens.size->TV (.send .none) s''
noncomputable def vV(X:Cx)(own:Addr->Prop)(g:Nat):GenEnd:=λn s₀ r s₁=>r=.ok (.ret .none)/\(n=0/\St X (X.VW own) g s₀ s₁)
abbrev Gx.Seg(x:Gx)(n:Nat)(s₀:Shared)(t:Sem Fin)(s:Shared):Prop:=PySem.Seg x.Z.X.M x.A (vV x.Z.X x.own x.g) (vW x.Z.X x.own x.g x.xs) n s₀ x.c t x.fs s
section
variable{x:Gx}{sc:SC}{σ σ':List Slot}{ws:Nat->Option Value}{s₀ s s':Shared}{B' U':Addr->Prop}
theorem r6.ex(G:r6 x σ s₀ s)(O:uS x sc):∃ws,Ex (x.fr s₀) sc σ ws s:=G.D.imp λws D=>⟨⟨⟨D,O.P,O.EO,O.nm,λh=>nomatch (O.nt.symm.trans h)⟩,O.al⟩,O.to⟩
theorem St.gz{X:Cx}{K:Addr->Prop}{g:Nat}(y:St X K g s s')(h:g<=s.gens.size):g<=s'.gens.size:=by
 cases g with
 |zero=>exact Nat.zero_le _
 |succ k=>exact(Array.getElem?_eq_some_iff.mp (y.gens k _ (Nat.lt_succ_self k) (Array.getElem?_eq_getElem h))).1
theorem CL(nx:St x.Z.X (x.Z.X.VW x.own) x.g s₀ s)(mt:∀a,x.own a->mD x.Z.X.N s.heap a){a:Addr}(n:x.Z.X.N<=a)(e:s.heap.get? a=none):x.B s₀ a:=
 have w:¬x.own a:=λw=>ah e ((mt a w).2.imp λ_ q=>q.1)
 ⟨⟨n,nx.live ⟨.inl n,w⟩ e⟩,w⟩
theorem r6.go(G:r6 x σ s₀ s)(O:uS x sc)(y:aJ x.Z.X (x.fr s₀).K s s')(D:Dy (x.Z.bu B' U') σ' ws s')(hs:bY σ'=true):r6 x σ' s₀ s':=by
 have mC:mD x.Z.X.N s'.heap x.C:=by
  obtain⟨n,m,h⟩:=D.eV
  obtain⟨o,e,c,_⟩:=fR h
  exact O.loc▸⟨n,o,e,c⟩
 have mt:∀a,x.own a->mD x.Z.X.N s'.heap a:=λa w=>by
  by_cases e:a=x.C
  ·exact e▸mC
  ·exact⟨(G.mt a w).1,(G.mt a w).2.imp λo q=>⟨y.off a o ⟨.inl (G.mt a w).1,e⟩ q.1,q.2⟩⟩
 have nx:St x.Z.X (x.Z.X.VW x.own) x.g s₀ s':=G.nx.on y (λa o k e=>⟨k.1,λq=>k.2 (q▸O.mine)⟩) G.gz
 exact⟨⟨ws,D.norm hs (λ_ _ _ e=>e) (λ_ e=>e) D.g (λa n e=>CL nx mt n e) (λa b=>.inl b.1.1) (λa u b=>b.2 (u▸O.mine)) (λa u=>u▸mC) O.all⟩,hs,nx,mt,O.jk _ _ G.jj λa o w n e=>y.off a o ⟨.inl (G.mt a w).1,n⟩ e,Nat.le_trans G.gz y.size⟩
theorem r6.Rh(G:r6 x σ s₀ s)(O:uS x sc)(y:aJ x.Z.X x.Z.X.V s s'):r6 x σ s₀ s':=by
 obtain⟨ws,D⟩:=G.D
 exact G.go O (y.weak λ_ k=>k.1) (D.step y) G.sc
structure GS(sc:SC)where
 st:Stmt
 ev:bO->List Slot->Option (List PV×List Slot)
 ok:∀{x:Gx} {H:Value->Sem Fin} {gd:Bool->Bool} {lv:List Value->List Value} {σ σ':List Slot} {s₀ s:Shared} {K:Flow->Sem Fin} {ys pre rest:List PV},uS x sc->gd false=false->r6 x σ s₀ s->ev x.Z.Φ σ=some (ys,σ')->x.xs=pre++(ys++rest)->
  (∀fS s',r6 x σ' fS s'->x.Seg rest.length fS (K .next) s')->x.Seg (ys++rest).length s₀ ((exec st x.Z.env).wrap K H gd lv) s
structure GL(sc:SC)where
 sts:List Stmt
 ev:bO->List Slot->Option (List PV×List Slot)
 ok:∀{x:Gx} {H:Value->Sem Fin} {gd:Bool->Bool} {lv:List Value->List Value} {σ σ':List Slot} {s₀ s:Shared} {K:Flow->Sem Fin} {ys pre rest:List PV},uS x sc->gd false=false->r6 x σ s₀ s->ev x.Z.Φ σ=some (ys,σ')->x.xs=pre++(ys++rest)->
  (∀fS s',r6 x σ' fS s'->x.Seg rest.length fS (K .next) s')->x.Seg (ys++rest).length s₀ ((execs sts x.Z.env).wrap K H gd lv) s
def GS.plain(a:SS sc):GS sc:=⟨a.st,λΦ σ=>(a.ex Φ σ).bind λo=>Out.casesOn (motive:=λ_=>Option (List PV×List Slot)) o (λσ'=>bif bY σ' then some ([],σ')else none) (λ_=>none) λ_=>none,
 λ{x H gd lv σ σ' s₀ s K ys pre rest} O hg G e hx hk=>aa e λo e1 e2=>by
  obtain⟨ws,V⟩:=G.ex O
  cases o with
  |brk _=>exact no e2
  |ret _=>exact no e2
  |next σ₁=>
   cases hc:bY σ₁ with
   |false=>rw[show(Out.casesOn (motive:=λ_=>Option (List PV×List Slot)) (Out.next σ₁) (λσ'=>bif bY σ' then some ([],σ')else none) (λ_=>none) λ_=>none)=(bif bY σ₁ then some ([],σ₁)else none)from rfl,hc]at e2;exact no e2
   |true=>
    rw[show(Out.casesOn (motive:=λ_=>Option (List PV×List Slot)) (Out.next σ₁) (λσ'=>bif bY σ' then some ([],σ')else none) (λ_=>none) λ_=>none)=(bif bY σ₁ then some ([],σ₁)else none)from rfl,hc]at e2
    obtain⟨rfl,rfl⟩:=Prod.mk.inj (aq e2)
    refine pR (O.ar▸(a.ok V e1) _ _ λf s' B U g en=>?_)
    obtain⟨rfl,dH,V'⟩:=en
    exact hk s₀ s' (G.go O g.x V'.toDy hc)⟩
theorem told{xs pre rest:List PV}{p:PV}(h:xs=pre++([p]++rest)):xs[xs.length-1-rest.length]?=some p:=by
 subst h
 rw[ay,ay,List.length_singleton,Nat.add_comm 1 rest.length,<-Nat.add_assoc,Nat.add_sub_cancel,Nat.add_sub_cancel,List.getElem?_append_right (Nat.le_refl _),Nat.sub_self];rfl
noncomputable def GS.SY(v:SE sc)(yp pos:Pos):GS sc:=⟨.Expr (.Yield (some v.e) yp) pos,λΦ σ=>(v.ev Φ σ).map λp=>([p],σ),
 λ{x H gd lv σ σ' s₀ s K ys pre rest} O hg G e hx hk=>aE e λp e1 e2=>by
  obtain⟨rfl,rfl⟩:=Prod.mk.inj e2
  obtain⟨ws,V⟩:=G.ex O
  refine seg_Expr_Yield O.U6 hg O.hfg (O.ar▸v.go (Z:=x.fr s₀) V.toEv e1 λw s' y V' r=>?_) O.hco O.hin
  intro TV Rz
  have G':=G.Rh O y
  refine⟨p,told hx,r,G'.nx,G'.mt,V'.g,λs'' JY h1 h2=>Rz _ _ (hk s'' s'' ?_)⟩
  have mt:∀a,x.own a->mD x.Z.X.N s''.heap a:=λa w=>⟨(G'.mt a w).1,(G'.mt a w).2.imp λo q=>⟨h1 a o w q.1,q.2⟩⟩
  have kc:∀o,s'.heap.get? x.C=some o->s''.heap.get? x.C=some o:=λo=>h1 _ o O.mine
  exact⟨⟨ws,V'.toDy.norm (Z:=x.fr s₀) G.sc (λl m=>(O.all l m).symm▸kc) (O.loc.symm▸kc) JY (λa n e=>CL .refl mt n e) (λa b=>.inl b.1.1) (λa u b=>b.2 (u▸O.mine)) (λa u=>u▸mt _ O.mine) O.all⟩,G.sc,.refl,mt,O.jk _ _ G'.jj λa o w _ e=>h1 a o w e,h2⟩⟩
noncomputable def GS.ite(t:SB sc)(a b:GL sc)(pos:Pos):GS sc:=⟨.If t.e a.sts b.sts pos,λΦ σ=>(t.ev Φ σ).bind λk=>bif k then a.ev Φ σ else b.ev Φ σ,
 λ{x H gd lv σ σ' s₀ s K ys pre rest} O hg G e hx hk=>aa e λk e1 e2=>by
  obtain⟨ws,V⟩:=G.ex O
  refine Lf (O.ar▸t.go (Z:=x.fr s₀) V.toEv e1 λs' y V'=>?_)
  cases k with
  |true=>exact a.ok O hg (G.Rh O y) e2 hx hk
  |false=>exact b.ok O hg (G.Rh O y) e2 hx hk⟩
def GL.nil:GL sc:=⟨[],λ_ σ=>some ([],σ),λ{x H gd lv σ σ' s₀ s K ys pre rest} O hg G e hx hk=>by
 obtain⟨rfl,rfl⟩:=Prod.mk.inj (aq e)
 exact seg_execs_nil (hk s₀ s G)⟩
noncomputable def GL.cons(a:GS sc)(r:GL sc):GL sc:=⟨a.st::r.sts,λΦ σ=>(a.ev Φ σ).bind λy=>(r.ev Φ y.2).map λz=>(y.1++z.1,z.2),
 λ{x H gd lv σ σ' s₀ s K ys pre rest} O hg G e hx hk=>aa e λy e1 e0=>aE e0 λz e2 e3=>by
  clear e0
  obtain⟨y1,σ1⟩:=y
  obtain⟨y2,σ2⟩:=z
  obtain⟨rfl,rfl⟩:=Prod.mk.inj e3
  rw[List.append_assoc]at hx⊢
  exact seg_execs_cons (a.ok O hg G e1 hx λfS s' G'=>r.ok O hg G' e2 (hx.trans (List.append_assoc _ _ _).symm) hk)⟩
end
section
variable{prog:Program}{w:World}{A:Around}{E:Value->Shared->Prop}{s:Shared}
theorem f6(x:Str):strIterType x="str_ascii_iterator"\/strIterType x="str_iterator":=by
 unfold strIterType;split
 ·exact .inl rfl
 ·exact .inr rfl
theorem Hj{it:Addr}{x:Str}{t:Tok}{i:Nat}{Q:Value->Shared->Prop}(hh:A.handled=none)(hit:s.heap.IsStrIter it (strIterType x) x t i)(hx:x.cps[i]?=none)
  (hE:∀h' e,Heap.ExtBut it s.heap h'->(∃o,h'.get? it=some o/\o.cls=.type (strIterType x))->(∃o,h'.get? e=some o/\o.cls=.type "StopIteration")->E (.ref e) {s with heap:=h'}):
  wpAny (model prog w) A (Builtin.SmallTypes.nextOf (.ref it)) Q E s:=by
 obtain⟨o,ho,hc,hd⟩:=id hit
 have NI:=Heap.get?_update_self (h:=s.heap) (Obj.mapFields (λvs=>vs.setIfInBounds 0 Value.none)) ho (Obj.isFreed_of_fields (Obj.data_mapFields hd _))
 rcases f6 x with e|e<;>rw[e]at hit hc hE
 ·unfold Builtin.SmallTypes.nextOf
  refine wpAny_bind (wpAny_callSpecial?_slot (name:=Str.ofString "__next__") hit.typeIs F.slot_str_ascii_iterator_next
   (wpAny_call_entry F.slot_str_ascii_iterator_next hit.typeIs F.entry_str_ascii_iterator_next ?_ (F.args_str_ascii_iterator_next_1 _)))
  show wpAny _ _ (field (.ref it) 0>>=_) _ _ s
  refine wpAny_bind (wpAny_field ho hd (x:=.str x t) rfl ?_)
  show wpAny _ _ (field (.ref it) 1>>=_) _ _ s
  refine wpAny_bind (wpAny_field ho hd (x:=.int i 0) rfl ?_)
  simp only[Int.toNat_natCast,hx]
  refine wpAny_bind (wpAny_rule (wpAny_bind (wpAny_setField ho hd (by simp) (wpAny_bind (wpAny_letGo ?_)))))
  show wpAny _ _ (newExc (.type "StopIteration") []>>=_) _ _ _
  refine wpAny_bind (mO λo1 o2 hf hc2=>wpAny_raiseNew_none (show A.in1.handled=none from hh) ?_)
  exact hE _ _ (((Heap.SameBut.update ..).extBut.push _).push _) ⟨_,Heap.get?_push_of_some _ (Heap.get?_push_of_some _ NI),(Obj.cls_mapFields ..).trans hc⟩ ⟨_,Heap.get?_push_size _ hf,hc2⟩
 ·unfold Builtin.SmallTypes.nextOf
  refine wpAny_bind (wpAny_callSpecial?_slot (name:=Str.ofString "__next__") hit.typeIs F.slot_str_iterator_next
   (wpAny_call_entry F.slot_str_iterator_next hit.typeIs F.entry_str_iterator_next ?_ (F.args_str_iterator_next_1 _)))
  show wpAny _ _ (field (.ref it) 0>>=_) _ _ s
  refine wpAny_bind (wpAny_field ho hd (x:=.str x t) rfl ?_)
  show wpAny _ _ (field (.ref it) 1>>=_) _ _ s
  refine wpAny_bind (wpAny_field ho hd (x:=.int i 0) rfl ?_)
  simp only[Int.toNat_natCast,hx]
  refine wpAny_bind (wpAny_rule (wpAny_bind (wpAny_setField ho hd (by simp) (wpAny_bind (wpAny_letGo ?_)))))
  show wpAny _ _ (newExc (.type "StopIteration") []>>=_) _ _ _
  refine wpAny_bind (mO λo1 o2 hf hc2=>wpAny_raiseNew_none (show A.in1.handled=none from hh) ?_)
  exact hE _ _ (((Heap.SameBut.update ..).extBut.push _).push _) ⟨_,Heap.get?_push_of_some _ (Heap.get?_push_of_some _ NI),(Obj.cls_mapFields ..).trans hc⟩ ⟨_,Heap.get?_push_size _ hf,hc2⟩
theorem qT{e it:Addr}{x:Str}{t:Tok}{i:Nat}{j:Int}{old:Value}{Q:Option Value->Shared->Prop}(hh:A.handled=none)(he:IsEnum s.heap e it j old)(hst:s.heap.IsStrIter it (strIterType x) x t i)(hx:x.cps[i]?=none)
  (hQ:∀h',Heap.ExtBut it s.heap h'->(∃o,h'.get? it=some o/\o.cls=.type (strIterType x))->Q none {s with heap:=h'}):wpAny (model prog w) A (pyNext (.ref e)) Q E s:=by
 have hT:s.TypeIs (.ref e) "enumerate":=⟨_,he,rfl⟩
 unfold pyNext
 refine wpAny_bind (wpAny_attempt (wpAny_callSpecial?_slot (name:=Str.ofString "__next__") hT F.slot_enumerate_next
  (wpAny_call_entry F.slot_enumerate_next hT F.entry_enumerate_next ?_ (F.args_enumerate_next_1 _))))
 show wpAny _ _ (field (.ref e) 2>>=_) _ _ _
 refine wpAny_bind (wpAny_field he rfl (x:=.ref it) rfl ?_)
 refine wpAny_bind (Hj (show A.in1.handled=none from hh) hst hx λh' x he' J8 hx'=>?_)
 obtain⟨o,ho,hc⟩:=hx'
 refine wpAny_bind (wpAny_isInstance (T:="StopIteration") (b:=true) ⟨o,ho,hc⟩ isSubtype_stop ?_)
 exact wpAny_pure (hQ _ he' J8)
end
section
variable{Z:Fr}
def dK(x:Str)(t:Tok)(I:Addr)(i:Nat)(h:Heap):Prop:=(∃old,IsEnum h (I+1) I (i:Nat) old)/\h.IsStrIter I (strIterType x) x t i
theorem EI(hh:Z.Ar.handled=none)(x:Str)(t:Tok)(I:Addr):∃M,Wk Z.X Z.Ar (I+1) [I+1,I] [I,I+1] x.cps.size true (λi=>Made λvs=>∃t v,vs=[.int (i:Nat) t,v]/\∃c u,x.cps[i]?=some c/\v=.str ⟨#[c]⟩ u) (dK x t I) M:=by
 have ne:I+1≠I:=Nat.succ_ne_self I
 have nm:I+1∉[I]:=λm=>ne (fG m)
 unfold dK
 rcases f6 x with e|e<;>rw[e]
 ·exact⟨_,rX (Draws.strAscii (A:=Z.Ar.in1) hh I x t) ne nm eF (λi h st=>st.imp λo q=>⟨q.1,q.2.1⟩) (by decide)⟩
 ·exact⟨_,rX (Draws.strWide (A:=Z.Ar.in1) hh I x t) ne nm eF (λi h st=>st.imp λo q=>⟨q.1,q.2.1⟩) (by decide)⟩
end
structure SZ(sc:SC)where
 st:Stmt
 f:List Slot->List Slot
 b:∀{σ:List Slot},bY σ=true->bY (f σ)=true
 ok:∀{Z:Fr} {σ:List Slot} {ws:Nat->Option Value} {s:Shared} {Q:Flow->Shared->Prop} {E:Value->Shared->Prop},Ex Z sc σ ws s->(∀dH s',aJ Z.X Z.K s s'->Dy Z (f σ) dH s'->s'.heap.objs.size=s.heap.objs.size->Q .next s')->wpAny Z.X.M Z.Ar (exec st Z.env) Q E s
theorem sq{σ:List Slot}{i:Nat}{p:PV}(hp:mY p=true)(h:bY σ=true):bY (σ.set i (.val p))=true:=
 List.all_eq_true.mpr λx m=>(List.mem_or_eq_of_mem_set m).elim (λq=>List.all_eq_true.mp h x q) λq=>q▸hp
section
variable{sc:SC}
def SZ.int(t:Tg)(i:Int)(k:Nat)(p pos:Pos)(h:t.ok sc=true):SZ sc:=⟨.Assign [t.e] (.Constant (.int i) k p) pos,λσ=>σ.set t.i (.val (.int i)),sq rfl,
 λ{Z σ ws s Q E} V q=>wpAny_Assign_Name (wpAny_Constant_int (wX (V.step V.toBs.toks).toDy V.EO (t:=.val (.int i)) h (V.to _ _ h) ⟨_,rfl,Rep.mkInt⟩ (λ_ z=>nomatch z) λs' x D z=>q _ s' ((V.toBs.toks (K:=Z.K) (g:=s.gens.size)).trans x) D z)) rfl⟩
def SZ.bool(t:Tg)(i:Bool)(k:Nat)(p pos:Pos)(h:t.ok sc=true):SZ sc:=⟨.Assign [t.e] (.Constant (.bool i) k p) pos,λσ=>σ.set t.i (.val (.bool i)),sq rfl,
 λ{Z σ ws s Q E} V q=>wpAny_Assign_Name (wpAny_Constant_bool (wX V.toDy V.EO (t:=.val (.bool i)) h (V.to _ _ h) ⟨_,rfl,(rfl:Value.bool i=_)⟩ (λ_ z=>nomatch z) λs' x D z=>q _ s' x D z)) rfl⟩
end
def lT(bind:PV->List Slot->Option (List Slot))(f:List Slot->Option (List PV×List Slot))(xs:List PV):List Slot->Option (List PV×List Slot):=
 List.rec (motive:=λ_=>List Slot->Option (List PV×List Slot)) (λσ=>some ([],σ)) (λx _ r σ=>(bind x σ).bind λσ₁=>bif bY σ₁ then(f σ₁).bind λy=>(r y.2).map λz=>(y.1++z.1,z.2)else none) xs
theorem vX{bind:PV->List Slot->Option (List Slot)}{f:List Slot->Option (List PV×List Slot)}{x:PV}{xs:List PV}{σ:List Slot}{o:List PV×List Slot}(e:lT bind f (x::xs) σ=some o):
  ∃σ₁ y1 σ2 y2 σ3,bind x σ=some σ₁/\bY σ₁=true/\f σ₁=some (y1,σ2)/\lT bind f xs σ2=some (y2,σ3)/\o=(y1++y2,σ3):=
 aa e λσ₁ e1 e=>by
  cases hb:bY σ₁ with
  |false=>rw[hb]at e;exact no e
  |true=>
   rw[hb]at e
   exact aa e λy e2 e=>aE e λz e3 e4=>⟨σ₁,y.1,y.2,z.1,z.2,e1,hb,e2,e3,e4.symm⟩
section
variable{sc:SC}{Z:Fr}{A:Around}{fs:List Frame}{own:Addr->Prop}{C:Addr}{g:Nat}{xs:List PV}{I:Addr}{y:Str}{t:Tok}
noncomputable abbrev fP (Z:Fr) (A:Around) (tg:SP sc) (body:GL sc) (fs:List Frame) (own:Addr->Prop) (C:Addr) (g:Nat) (xs:List PV) (I:Addr) (J:Heap->Prop):Gx:=⟨Z,A,.forLoop tg.e (.ref (I+1)) body.sts [] Z.env,fs,own,J,C,g,xs⟩
theorem DR{tg:SP sc}{body:GL sc}(hI:∀a,a∈[I,I+1]->own a/\a≠C)(hN:Z.X.N<=I)(tp:tg.tp=true)(ts:tg.ts.all (Tg.ok sc)=true)
  (O:∀J,(∀h h',J h->(∀a o,own a->a≠C->h.get? a=some o->h'.get? a=some o)->J h')->uS (fP Z A tg body fs own C g xs I J) sc) (R:Z.Ar.handled=none):
  ∀(rem:List PV) (i:Nat) {σ σ':List Slot} {s₀ s:Shared} {ys pre rest:List PV},(bP 0 (signs y)).drop i=rem->i<=(bP 0 (signs y)).length->r6 (fP Z A tg body fs own C g xs I (dK y t I i)) σ s₀ s->lT tg.bind (body.ev Z.Φ) rem σ=some (ys,σ')->xs=pre++(ys++rest)->
   (∀fS s',r6 (fP Z A tg body fs own C g xs I λ_=>True) σ' fS s'->(fP Z A tg body fs own C g xs I λ_=>True).Seg rest.length fS (.pure (.again (.block [] Z.env))) s')->
   (fP Z A tg body fs own C g xs I λ_=>True).Seg (ys++rest).length s₀ (Z.X.M.den (.forLoop tg.e (.ref (I+1)) body.sts [] Z.env)) s:=by
 have jk:∀i,∀h h',dK y t I i h->(∀a o,own a->a≠C->h.get? a=some o->h'.get? a=some o)->dK y t I i h':=λi h h' q k=>
  have k:∀a o,a∈[I,I+1]->h.get? a=some o->h'.get? a=some o:=λa o m=>k a o (hI a m).1 (hI a m).2
  ⟨q.1.imp λold z=>k _ _ (by simp) z,q.2.imp λo z=>⟨k _ _ (by simp) z.1,z.2⟩⟩
 have OT:=O (λ_=>True) λ_ _ _ _=>trivial
 have har:Z.Ar=A.over (.forLoop tg.e (.ref (I+1)) body.sts [] Z.env) fs:=OT.ar
 have nC:∀a,a∈[I,I+1]->a≠C:=λa m=>(hI a m).2
 obtain⟨M,W⟩:=EI (Z:=Z) R y t I
 have len:(bP 0 (signs y)).length=y.cps.size:=(kM _ _).trans (lF y).symm
 have step:∀{i j:Nat} {σ:List Slot} {s₀ s:Shared} {h':Heap} {tk:Nat} {J:Heap->Prop},r6 (fP Z A tg body fs own C g xs I (dK y t I i)) σ s₀ s->Kept [I,I+1] s.heap h'->(∀a∈[I,I+1],∃o,h'.get? a=some o/\bR o)->J h'->r6 (fP Z A tg body fs own C g xs I J) σ s₀ {s with heap:=h',toks:=tk}:=by
  intro i j σ s₀ s h' tk J G k c jj
  obtain⟨ws,D⟩:=G.D
  have y₁:St Z.X (Z.X.VW (·∈[I,I+1])) g s {s with heap:=h',toks:=tk}:=mJ D.K k λb m=>⟨(G.mt b (hI b m).1).1,W.code _ _ G.jj b m⟩
  have mt:∀a,own a->mD Z.X.N h' a:=λa w=>by
   by_cases m:a∈[I,I+1]
   ·exact⟨(G.mt a w).1,c a m⟩
   ·exact⟨(G.mt a w).1,(G.mt a w).2.imp λo q=>⟨k a o m q.1,q.2⟩⟩
  have nx:St Z.X (Z.X.VW own) g s₀ {s with heap:=h',toks:=tk}:=G.nx.on y₁ (λa o k e=>⟨k.1,λm=>k.2 (hI a m).1⟩) (Nat.le_refl _)
  have kC:∀o,s.heap.get? C=some o->h'.get? C=some o:=λo=>k C o λm=>nC C m rfl
  exact⟨⟨ws,D.norm (s':={s with heap:=h',toks:=tk}) G.sc (λl m=>(OT.all l m).symm▸kC) (OT.loc.symm▸kC) (y₁.G D.g) (λa n e=>CL (x:=fP Z A tg body fs own C g xs I J) nx mt n e) (λa b=>.inl b.1.1) (λa u b=>b.2 (u▸OT.mine)) (λa u=>u▸mt _ OT.mine) OT.all⟩,G.sc,nx,mt,jj,G.gz⟩
 intro rem
 induction rem with
 |nil=>
  intro i σ σ' s₀ s ys pre rest hr hi G he hx hk
  obtain rfl:i=(bP 0 (signs y)).length:=Nat.le_antisymm hi (List.drop_eq_nil_iff.mp hr)
  obtain⟨rfl,rfl⟩:=Prod.mk.inj (aq (show some (([]:List PV),σ)=some (ys,σ')from he))
  refine lX (har▸?_)
  obtain⟨⟨old,h1⟩,h2⟩:=id G.jj
  refine qT R h1 h2 (by rw[len];exact Array.getElem?_size) λh' b1 b2=>hk s₀ _ (step (j:=0) (tk:=s.toks) G (λb o m e=>b1 b o (λz=>m (z▸eF)) e) (λa m=>?_) trivial)
  rcases eX m with q|m
  ·obtain⟨o,e,c⟩:=b2
   exact⟨o,q▸e,.inl λz=>by rcases f6 y with w|w<;>rw[w]at c<;>exact absurd (Value.type.inj (c.symm.trans z)) (by decide)⟩
  ·have m:=fG m
   exact⟨_,by rw[m];exact b1 _ _ (Nat.succ_ne_self I) h1,.inl λz=>absurd (Value.type.inj (show Value.type "enumerate"=Value.type "code" from z)) (by decide)⟩
 |cons p rem ih=>
  intro i σ σ' s₀ s ys pre rest hr hi G he hx hk
  have hlt:i<(bP 0 (signs y)).length:=by
   rcases Nat.lt_or_eq_of_le hi with q|q
   ·exact q
   ·rw[List.drop_eq_nil_of_le (Nat.le_of_eq q.symm)]at hr;exact nomatch hr
  rw[List.drop_eq_getElem_cons hlt]at hr
  obtain⟨hp,hr2⟩:=List.cons.inj hr
  have VE:(bP 0 (signs y))[i]?=some p:=hp▸List.getElem?_eq_getElem hlt
  obtain⟨σ₁,y1,σ2,y2,σ3,e1,hb,e2,e3,e4⟩:=vX he
  obtain⟨rfl,rfl⟩:=Prod.mk.inj e4
  rw[List.append_assoc]at hx⊢
  refine lX (har▸?_)
  refine W.item i s _ _ (len▸hlt) G.jj λv h' tk hv hm hk1=>?_
  refine W.go tg.e i v _ _ _ (λ_=>tg.ht tp) hm λh2 st2 hk2=>?_
  have kk:Kept [I,I+1] s.heap h2:=λb o m e=>hk2 b o m (hk1 b o m e)
  have G2:=step (j:=i+1) (tk:=tk) (J:=dK y t I (i+1)) G kk (W.code (i+1) h2 st2) st2
  obtain⟨rfl,vs,⟨u,w,rfl,pw⟩,gt⟩:=hv
  obtain⟨q,eq,rfl⟩:=pB _ 0 i p VE
  obtain⟨bB,D₂⟩:=G2.D
  obtain⟨ws,D⟩:=G.D
  have nI:s.heap.objs.size∉[I,I+1]:=λm=>ah (bL s.heap) ((G.mt _ (hI _ m).1).2.imp λ_ q=>q.1)
  have rv:((fP Z A tg body fs own C g xs I (dK y t I (i+1))).fr s₀).Rep h2 (.tup [.int ((0+i:Nat):Int),q]) (.ref s.heap.objs.size):=
   Rep.yt (CL (x:=fP Z A tg body fs own C g xs I (dK y t I (i+1))) G.nx G.mt (D.K.size _ D.g) (bL _)) (hk2 _ _ nI gt) (af.cons ⟨u,by rw[Nat.zero_add]⟩ (af.cons (oB eq pw) af.nil))
  refine tg.ok (Z:=(fP Z A tg body fs own C g xs I (dK y t I (i+1))).fr s₀) D₂ OT.EO (λa m=>OT.to a.i a.x (List.all_eq_true.mp ts a m)) rv e1 λPS s₃ x₃ fJ=>?_
  have Oi:=O _ (jk (i+1))
  have G3:=G2.go Oi x₃ fJ hb
  exact body.ok (x:=fP Z A tg body fs own C g xs I (dK y t I (i+1))) Oi rfl G3 e2 hx λfS s' G'=>seg_again rfl (ih (i+1) hr2 hlt G' e3 (hx.trans (List.append_assoc _ _ _).symm) hk)
end
structure GB(sc:SC)where
 pre:List (SZ sc)
 i:Nat
 x:Str
 p1:Pos
 p2:Pos
 p3:Pos
 pos:Pos
 tg:SP sc
 body:GL sc
 post:GL sc
 h:(isVar sc i x&&(aC sc "enumerate"&&(tg.tp&&tg.ts.all (Tg.ok sc))))=true
noncomputable def K1{sc:SC}:List (SZ sc)->List Stmt->List Stmt
 | [],r=>r
 |z::zs,r=>z.st::K1 zs r
noncomputable def Dw{sc:SC}:List (SZ sc)->List Slot->List Slot
 | [],σ=>σ
 |z::zs,σ=>Dw zs (z.f σ)
def cO(C I a:Addr):Prop:=a=C\/a∈[I,I+1]
section
variable{sc:SC}
def GB.sts(b:GB sc):List Stmt:=K1 b.pre (.For b.tg.e (.Call (.Name "enumerate" b.p1) [.Name b.x b.p2] [] b.p3) b.body.sts [] b.pos::b.post.sts)
def GB.ev(b:GB sc)(Φ:bO)(σ:List Slot):Option (List PV):=bif bY σ then(ee (Dw b.pre σ) b.i).bind λp=>p.wY.bind λy=>(lT b.tg.bind (b.body.ev Φ) (bP 0 (signs y)) (Dw b.pre σ)).bind λr=>(b.post.ev Φ r.2).map λq=>r.1++q.1 else none
theorem uq:∀(pre:List (SZ sc)) {σ:List Slot},bY σ=true->bY (Dw pre σ)=true:=by
 intro w
 induction w with
 |nil=>intro _ h;exact h
 |cons z zs ih=>intro _ h;exact ih (z.b h)
theorem G6{A:Around}{R:GenEnd}{Y:Protocol}{n:Nat}{s₀:Shared}{c:Code}{fs:List Frame}{K:Flow->Sem Fin}{H:Value->Sem Fin}{gd:Bool->Bool}{lv:List Value->List Value}{Z:Fr}(har:Z.Ar=A.over c fs){rest:List Stmt}:∀(pre:List (SZ sc)) {σ:List Slot} {ws:Nat->Option Value} {s:Shared},Ex Z sc σ ws s->
  (∀dH s',aJ Z.X Z.K s s'->Ex Z sc (Dw pre σ) dH s'->s'.heap.objs.size=s.heap.objs.size->Seg Z.X.M A R Y n s₀ c ((execs rest Z.env).wrap K H gd lv) fs s')->Seg Z.X.M A R Y n s₀ c ((execs (K1 pre rest) Z.env).wrap K H gd lv) fs s:=by
 intro w
 induction w with
 |nil=>intro σ ws s V h;exact h ws s .refl V rfl
 |cons z zs ih=>intro σ ws s V h;exact seg_execs_cons (pR (har▸z.ok V λeB s₁ x₁ D₁ e₁=>ih (V.val D₁) λbB s₂ x₂ aD e₂=>h bB s₂ (x₁.trans x₂) aD (e₂.trans e₁)))
noncomputable abbrev Fr.gen (Z:Fr) (Ar:Around) (B:Addr->Prop) (C:Addr):Fr:={Z with Ar:=Ar,B:=B,U:=λa=>a=C}
theorem wO{u d:Nat}(h:u+8*(d+2)+200<=9900):u+0+3+8*d+200<=9900:=by lia
theorem K7{u d:Nat}(h:u+8*(d+2)+200<=9900):u+(3+0)+0+8*d+200<=9900:=by lia
theorem rK{u d:Nat}(h:u+(d+2)<=1000):u+0+1+d<=1000/\u+1+0+d<=1000:=by lia
theorem GB.seg(b:GB sc){Z:Fr}{A:Around}{C I:Addr}{g:Nat}{σ:List Slot}{ws:Nat->Option Value}{s:Shared}{xs:List PV}(V:Ex (Z.gen (A.over (.func b.sts Z.env) []) (λa=>Z.X.N<=a/\s.heap.get? a=none) C) sc σ ws s)(nt:sc.top=false)(all:∀l∈Z.ls,l.addr=C)(loc:Z.env.locals=C)
  (hco:Z.env.scope.isCoroutine=false) (P:∀Ar,bD Ar Z.d->Pf Z.X Z.Φ Ar Z.d) (R:bD A (Z.d+2)) (hI:s.heap.objs.size=I) (hg:g<=s.gens.size) (e:b.ev Z.Φ σ=some xs):
  Seg Z.X.M A (vV Z.X (cO C I) g) (vW Z.X (cO C I) g xs) xs.length s (.func b.sts Z.env) (Z.X.M.den (.func b.sts Z.env)) [] s:=by
 obtain⟨hv,h⟩:=both b.h
 obtain⟨Vy,h⟩:=both h
 obtain⟨tp,ts⟩:=both h
 have hin:interactive Z.env=false:=by unfold interactive;rw[show Z.env.scope.kind=.function from V.EO.kind];rfl
 unfold GB.ev at e
 cases hb:bY σ with
 |false=>rw[hb]at e;exact no e
 |true=>
  rw[hb]at e
  refine aa e λp e1 e=>aa e λy e2 e=>aa e λr e3 e=>aE e λq e4 e5=>?_
  clear e
  subst e5
  obtain⟨ys,σ'⟩:=r
  refine seg_func (G6 (Z:=Z.gen (A.over (.func b.sts Z.env) []) (λa=>Z.X.N<=a/\s.heap.get? a=none) C) rfl b.pre V λeB s₁ x₁ aj z₁=>?_)
  refine seg_execs_cons (G5 (λ_=>rfl) ?_)
  have R1:bD (A.over (.func b.sts Z.env) []) Z.d:=⟨R.hh,(rK R.hd).1,wO R.hu⟩
  obtain⟨v,hw,rv⟩:=aj.ok b.i _ (oE e1)
  obtain⟨t,rfl⟩:=rZ.rd rv e2
  refine wpAny_Call_NameR (fm aj.toEv Vy (by decide+kernel) (v:=.type "enumerate") (by decide+kernel) (PySem.callWith_type (cg [SE.var b.i b.x b.p2 hv]) (args_call (as:=[SE.var b.i b.x b.p2 hv]) (wpAny_items_cons (CW aj.toEv hv hw (wpAny_items_nil ?_)) rfl))))
  refine call_enumerate_str λh' b1 b2 b3 b4=>wpAny_pyIter_enum b1 ?_
  rw[z₁,hI]at b1 b2⊢
  have hN:Z.X.N<=I:=hI▸z₁▸aj.K.size _ aj.g
  have EA:dK y t I 0 h':=⟨⟨_,b1⟩,b2⟩
  obtain⟨M,W⟩:=EI (Z:=Z.gen A.in1 (λ_=>False) C) R.hh y t I
  have x₂:∀{K:Addr->Prop} {g:Nat},St Z.X K g s₁ {s₁ with heap:=h'}:=aj.toBs.ext b4 (tk:=s₁.toks)
  have mt:∀a,cO C I a->mD Z.X.N h' a:=λa w=>w.elim (λw=>by
   obtain⟨n,o,e,c⟩:=aj.turn a w
   exact⟨n,o,b4 a o e,c⟩) λm=>⟨(eX m).elim (λq=>q▸hN) λq=>fG q▸Nat.le_succ_of_le hN,W.code 0 h' EA a m⟩
  have nx:St Z.X (Z.X.VW (cO C I)) g s {s₁ with heap:=h'}:=(St.weak x₁ (λa _ k _=>⟨k.1,λq=>k.2 (.inl q)⟩) hg:St Z.X (Z.X.VW (cO C I)) g s s₁).trans x₂
  have hC:∀a,a∈[I,I+1]->cO C I a/\a≠C:=λa m=>⟨.inr m,λq=>by
   obtain⟨n,o,e,c⟩:=aj.turn C rfl
   rw[<-q]at e
   refine ah (eK ?_) ⟨o,e⟩
   rw[z₁,hI]
   exact(eX m).elim (λq=>Nat.le_of_eq q.symm) λq=>Nat.le_of_lt (fG q▸Nat.lt_succ_self I)⟩
  have R1:bD (A.over (.func b.sts Z.env) []) Z.d:=⟨R.hh,(rK R.hd).1,wO R.hu⟩
  have VB:=hin
  have OP:uS ⟨Z.gen (A.over (.func b.sts Z.env) []) (λ_=>False) C,A,.func b.sts Z.env,[],cO C I,λ_=>True,C,g,ys++q.1⟩ sc:=⟨P _ R1,V.EO,V.nm,nt,V.al,V.to,rfl,all,loc,.inl rfl,λ_ _ _ _=>trivial,rfl,rfl,hco,hin⟩
  have loop:∀fs,splitAtGen fs=none->fs.any Frame.guarded=false->bD (A.over (.forLoop b.tg.e (.ref (I+1)) b.body.sts [] Z.env) fs) Z.d->
    (∀fS s',r6 (fP (Z.gen (A.over (.forLoop b.tg.e (.ref (I+1)) b.body.sts [] Z.env) fs) (λ_=>False) C) A b.tg b.body fs (cO C I) C g (ys++q.1) I λ_=>True) σ' fS s'->Seg Z.X.M A (vV Z.X (cO C I) g) (vW Z.X (cO C I) g (ys++q.1)) q.1.length fS (.forLoop b.tg.e (.ref (I+1)) b.body.sts [] Z.env) (.pure (.again (.block [] Z.env))) fs s')->
    Seg Z.X.M A (vV Z.X (cO C I) g) (vW Z.X (cO C I) g (ys++q.1)) (ys++q.1).length s (.forLoop b.tg.e (.ref (I+1)) b.body.sts [] Z.env) (Z.X.M.den (.forLoop b.tg.e (.ref (I+1)) b.body.sts [] Z.env)) fs {s₁ with heap:=h'}:=by
   intro fs f1 f2 Rl hk
   refine DR (Z:=Z.gen (A.over (.forLoop b.tg.e (.ref (I+1)) b.body.sts [] Z.env) fs) (λ_=>False) C) hC hN tp ts (λJ hJ=>⟨P _ Rl,V.EO,V.nm,nt,V.al,V.to,rfl,all,loc,.inl rfl,hJ,f1,f2,hco,hin⟩) Rl.hh _ 0 (y:=y) (t:=t) (pre:=[]) List.drop_zero (Nat.zero_le _)
    ⟨⟨eB,Dy.norm (Z:=Z.gen (A.over (.forLoop b.tg.e (.ref (I+1)) b.body.sts [] Z.env) fs) (λa=>Z.X.N<=a/\s.heap.get? a=none) C) {aj.toDy with R:=Rl} (uq b.pre hb) (λl _ o e=>b4 _ o e) (λo e=>b4 _ o e) (x₂.G (K:=λ_=>True) (g:=0) aj.g) (λa n e=>CL (x:=fP Z A b.tg b.body fs (cO C I) C g (ys++q.1) I (dK y t I 0)) nx mt n e) (λa b=>.inl b.1.1) (λa u b=>b.2 (.inl u)) (λa u=>mt a (.inl u)) all⟩,uq b.pre hb,nx,mt,EA,Nat.le_trans hg x₁.size⟩
    e3 rfl hk
  intro pp
  refine loop _ ?_ ?_ ?_ λfS s' G'=>?_
  ·rfl
  ·rfl
  ·exact⟨R.hh,(rK R.hd).2,K7 R.hu⟩
  refine seg_again rfl ?_
  show Seg _ _ _ _ _ _ _ (leafOf (.ok .next)) _ _
  refine seg_leaf (.ok .next) ?_
  have hlen:q.1.length=(q.1++([]:List PV)).length:=by rw[List.append_nil]
  rw[hlen]
  obtain⟨zs,Wo⟩:=q
  refine b.post.ok (x:=⟨Z.gen (A.over (.func b.sts Z.env) []) (λ_=>False) C,A,.func b.sts Z.env,[],cO C I,λ_=>True,C,g,ys++zs⟩) (pre:=ys) OP rfl ⟨G'.D.imp λws D=>{D with R:=R1},G'.sc,G'.nx,G'.mt,trivial,G'.gz⟩ e4 (by rw[List.append_nil]) λs₁' s'' Uj=>?_
  exact seg_end (.ok (.ret .none)) ⟨rfl,rfl,Uj.nx⟩
end
theorem lP{s:Shared}{g:Nat}{x:GenState}(h:AllBare s.gens)(hx:x.bare=true):AllBare (s.setGen g x).gens:=by
 intro y hy
 have hy:y∈s.gens.setIfInBounds g x:=hy
 obtain⟨i,hi,rfl⟩:=Array.mem_iff_getElem.mp hy
 have hi':i<s.gens.size:=by rw[Array.size_setIfInBounds]at hi;exact hi
 rw[Array.getElem_setIfInBounds hi']
 split
 ·exact hx
 ·exact h _ (Array.getElem_mem _)
theorem ki{s:Shared}{g i:Nat}{x z:GenState}(h:i≠g)(e:s.gens[i]?=some z):(s.setGen g x).gens[i]?=some z:=by
 show(s.gens.setIfInBounds g x)[i]?=some z
 rw[Array.getElem?_setIfInBounds_ne (Ne.symm h)];exact e
theorem iK{s:Shared}{g:Nat}{x:GenState}:(s.setGen g x).gens.size=s.gens.size:=Array.size_setIfInBounds
theorem St.woken{X:Cx}{K:Addr->Prop}{g g₀:Nat}{s s₁:Shared}{gs':GenState}{h':Heap}(x:St X K (g+1) (s.setGen g .running) s₁)(hg:g₀<=g)(hb:gs'.bare=true)(G:X.G s₁.heap->X.G h')(hk:Ext s₁.heap h'):St X K g₀ s {s₁.setGen g gs' with heap:=h'}:=
 have lt:∀i,i<g₀->i<g:=λi h=>Nat.lt_of_lt_of_le h hg
 ⟨λa o n e=>hk a o (x.off a o n e),λq=>G (x.G q),λi z hi e=>ki (Nat.ne_of_lt (lt i hi)) (x.gens i z (Nat.lt_succ_of_lt (lt i hi)) (ki (Nat.ne_of_lt (lt i hi)) e)),λq=>lP (x.bare (lP q rfl)) hb,x.os⟩
theorem tO{h h':Heap}{G g:Nat}(q:h.IsGen G g)(k:∀o,h.get? G=some o->h'.get? G=some o):h'.IsGen G g:=
 by obtain⟨o,nm,qn,ho,r⟩:=q;exact⟨o,nm,qn,k o ho,r⟩
theorem pI{h:Heap}{G g N:Nat}(hN:N<=G)(q:h.IsGen G g):mD N h G:=
 by obtain⟨o,nm,qn,ho,hc,_⟩:=q;exact⟨hN,o,ho,.inl (by rw[hc];exactλz=>absurd (Value.type.inj z) (by decide))⟩
section
variable{X:Cx}
noncomputable def o5(X:Cx)(A:Around)(C G g:Nat)(xs:List PV)(c:Code)(h₀:Heap)(W:Addr->Prop)(i:Nat)(s:Shared):Prop:=
 s.heap.IsGen G g/\(∀a,W a->mD X.N s.heap a)/\W C/\W G/\
  ((i=0/\W=(λa=>a=C\/a=G)/\s.gens[g]?=some (.fresh c)/\(∀o,h₀.get? C=some o->s.heap.get? C=some o))\/
  (∃I gs,W=(λa=>cO C I a\/a=G)/\¬cO C I G/\s.gens[g]?=some gs/\∀s'':Shared,X.G s''.heap->(∀a o,cO C I a->s.heap.get? a=some o->s''.heap.get? a=some o)->g+1<=s''.gens.size->
    gs.Goes X.M A (vV X (cO C I) (g+1)) (vW X (cO C I) (g+1) xs) (xs.length-i) (.send .none) (s''.setGen g .running)))
def Wakes(X:Cx)(A:Around)(C g:Nat)(xs:List PV)(c:Code)(h₀:Heap):Prop:=∀(I:Addr) (s'':Shared),I=s''.heap.objs.size->X.G s''.heap->(∀o,h₀.get? C=some o->s''.heap.get? C=some o)->g+1<=s''.gens.size->
 (GenState.fresh c).Goes X.M A (vV X (cO C I) (g+1)) (vW X (cO C I) (g+1) xs) xs.length (.send .none) (s''.setGen g .running)
theorem nO{s:Shared}{g:Nat}{x:GenState}(e:s.gens[g]?=some x):g+1<=s.gens.size:=(Array.getElem?_eq_some_iff.mp e).1
theorem o5.wake{A:Around}{C G g:Nat}{xs:List PV}{c:Code}{h₀:Heap}{W:Addr->Prop}{i:Nat}{s:Shared}(st:o5 X A C G g xs c h₀ W i s)(gg:X.G s.heap)(Qc:C≠G)(hf:Wakes X A C g xs c h₀):
  ∃I gs,s.gens[g]?=some gs/\¬cO C I G/\(∀a,W a->cO C I a\/a=G)/\(∀a,cO C I a->W a\/s.heap.get? a=none)/\gs.Goes X.M A (vV X (cO C I) (g+1)) (vW X (cO C I) (g+1) xs) (xs.length-i) (.send .none) (s.setGen g .running):=by
 obtain⟨h1,h2,Ru,Rv,h3|h3⟩:=st
 ·obtain⟨rfl,rfl,e3,e4⟩:=h3
  refine⟨s.heap.objs.size,_,e3,λq=>q.elim (λq=>Qc q.symm) λq=>?_,λa q=>q.imp (λq=>.inl q) id,λa q=>q.imp (λq=>.inl q) λq=>eK ?_,hf _ s rfl gg e4 (nO e3)⟩
  ·obtain⟨o,_,_,e,_⟩:=h1
   exact ah (eK ((eX q).elim (λq=>Nat.le_of_eq q.symm) λq=>Nat.le_of_lt (fG q▸Nat.lt_succ_self _))) ⟨o,e⟩
  ·exact(eX q).elim (λq=>Nat.le_of_eq q.symm) λq=>Nat.le_of_lt (fG q▸Nat.lt_succ_self _)
 ·obtain⟨I,gs,rfl,e0,e3,e4⟩:=h3
  exact⟨I,gs,e3,e0,λa q=>q,λa q=>.inl (.inl q),e4 s gg (λ_ _ _ e=>e) (nO e3)⟩
theorem o5.keep{A:Around}{C G g:Nat}{xs:List PV}{c:Code}{h₀:Heap}{W K:Addr->Prop}{i:Nat}{s s':Shared}(st:o5 X A C G g xs c h₀ W i s)(x:aJ X K s s')(hu:∀a,W a->K a):o5 X A C G g xs c h₀ W i s':=by
 obtain⟨h1,h2,Ru,Rv,h3⟩:=st
 have kW:∀a o,W a->s.heap.get? a=some o->s'.heap.get? a=some o:=λa o q e=>x.off a o (hu a q) e
 refine⟨tO h1 λo e=>kW _ o Rv e,λa q=>⟨(h2 a q).1,(h2 a q).2.imp λo z=>⟨kW a o q z.1,z.2⟩⟩,Ru,Rv,?_⟩
 rcases h3 with⟨e1,e2,e3,e4⟩|⟨I,gs,e1,e0,e2,e3⟩
 ·exact .inl ⟨e1,e2,x.gens _ _ (nO e3) e3,λo e=>kW _ o Ru (e4 o e)⟩
 ·subst e1
  exact .inr ⟨I,gs,rfl,e0,x.gens _ _ (nO e2) e2,λs'' JY k l=>e3 s'' JY (λa o q e=>k a o q (kW a o (.inl q) e)) l⟩
theorem lZ{n i:Nat}(h:i<n):n-1-(n-i-1)=i/\n-i=n-(i+1)+1:=
 ⟨by rw[Nat.sub_right_comm n i 1];exact Nat.sub_sub_self (Nat.le_sub_one_of_lt h),(Nat.sub_add_cancel (Nat.sub_pos_of_lt h)).symm⟩
end
section
variable{Z:Fr}{K:Addr->Prop}{tp:Bool}{d C G g:Nat}{xs:List PV}{c:Code}{s s₁:Shared}
theorem B9(V:Bs Z s)(R:bD Z.Ar (d+1))(hC:Z.X.N<=C)(hG:Z.X.N<=G)(Qc:C≠G)(Vm:s.heap.get? C=none)(Vo:s.heap.get? G=none)(hg:s.gens.size<=g)(h1:s₁.heap.IsGen G g)(h2:mD Z.X.N s₁.heap C)(h3:s₁.gens[g]?=some (.fresh c))(hf:Wakes Z.X Z.Ar.in1 C g xs c s₁.heap):
  Iter Z K tp (.ref G) xs (λa=>a=C\/a=G) (o5 Z.X Z.Ar.in1 C G g xs c s₁.heap) s s₁:=by
 refine⟨λa q=>q.elim (λq=>q▸Vm) λq=>q▸Vo,λW i s st=>st.2.1,⟨h1,λa q=>q.elim (λq=>q▸h2) λq=>q▸pI hG h1,.inl rfl,.inr rfl,.inl ⟨rfl,rfl,h3,λ_ e=>e⟩⟩,
  λW i s s' K' st x hu _=>st.keep x hu,λW i p target hi htp B s' Q E hB hB2 st gg hQ=>?_,λW s' Q E st gg hQ=>?_,λW s' Q E st q=>wpAny_pyIter_gen st.1 q⟩
 ·obtain⟨I,gs,e1,RB,e2,e3,e4⟩:=st.wake gg Qc hf
  have hlt:i<xs.length:=(jb hi).1
  refine ua (P:=λn s₀ s₁=>n=0/\St Z.X (Z.X.VW (cO C I)) (g+1) s₀ s₁) R.hh (V.K.nolimit _ gg) R.depth st.1 e1 e4 (λv s₂ gs' hb hv=>?_) λs₂ hp=>absurd hp.1 (Nat.ne_of_gt (Nat.sub_pos_of_lt hlt))
  obtain⟨p',q1,q2,q3,q4,q5,q6⟩:=hv
  rw[(lZ hlt).1,hi]at q1
  obtain rfl:=aq q1
  have gk:∀o,s'.heap.get? G=some o->s₂.heap.get? G=some o:=λo e=>q3.off G o ⟨.inl hG,RB⟩ e
  have g₂:s₂.heap.IsGen G g:=tO st.1 gk
  have RE:St Z.X (Z.X.VW (cO C I)) s.gens.size s' {s₂.setGen g gs' with heap:=s₂.heap}:=q3.woken hg hb id λ_ _ e=>e
  have RG:s₂.gens[g]?=some .running:=q3.gens g _ (Nat.lt_succ_self _) (setGen_self e1)
  have mW:∀a,cO C I a\/a=G->mD Z.X.N s₂.heap a:=λa q=>q.elim (q4 a) λq=>q▸pI hG g₂
  refine hQ (λa=>cO C I a\/a=G) v _ e2 (λa q=>q.elim (e3 a) λq=>.inl (q▸st.2.2.2.1)) mW
   (RE.weak (λa o k e=>⟨k.1,λz=>(e3 a z).elim k.2 λz=>ah z ⟨o,e⟩⟩) (Nat.le_refl _)) (Internal.Rep.move q2 λa o b e=>⟨⟨hB2 a b.1.1 b.1.2,λw=>w.elim b.2 λq=>ah (q▸b.1.2) ((st.2.1 G st.2.2.2.1).2.imp λ_ q=>q.1)⟩,e⟩) λQ' E' hq=>?_
  obtain⟨o,_,_,ho,hc,_⟩:=id g₂
  refine tF (s:={s₂.setGen g gs' with heap:=s₂.heap}) (T:="generator") ho hc (by decide) (hq _ .refl ⟨g₂,mW,.inl (.inl rfl),.inr rfl,.inr ⟨I,gs',rfl,RB,setGen_self RG,λs'' JY k l=>?_⟩⟩)
  have:=q6 (s''.setGen g .running) JY k (by rw[iK];exact l)
  rw[(lZ hlt).2]at this
  exact this
 ·obtain⟨I,gs,e1,RB,e2,e3,e4⟩:=st.wake gg Qc hf
  rw[Nat.sub_self]at e4
  refine ua (P:=λn s₀ s₁=>n=0/\St Z.X (Z.X.VW (cO C I)) (g+1) s₀ s₁) R.hh (V.K.nolimit _ gg) R.depth st.1 e1 e4 (λv s₂ gs' hb hv=>?_) λs₂ hp h' hk=>?_
  ·obtain⟨p',q1,q2,q3,q4,q5,q6⟩:=hv
   have lt:g+1<=s₂.gens.size:=q3.gz (by rw[iK];exact nO e1)
   exact(q6 s₂ q5 (λ_ _ _ e=>e) lt).elim
  ·have RE:St Z.X (Z.X.VW (cO C I)) s.gens.size s' {s₂.setGen g .finished with heap:=h'}:=hp.2.woken hg rfl (λq=>V.K.Gk _ _ (λ_=>False) q (λ_ f=>f.elim) λa o _ e=>hk a o e) hk
   exact hQ _ (RE.weak (λa o k e=>⟨k.1,λz=>(e3 a z).elim k.2 λz=>ah z ⟨o,e⟩⟩) (Nat.le_refl _))
end
structure xo(fd:FuncData)(D:dY)(stmts:List Stmt):Prop where
 names:fd.scope.names=D.names
 kind:fd.scope.kind=.function
 co:fd.scope.isCoroutine=false
 gen:fd.scope.isGenerator=true
 body:fd.body=.stmts stmts
 Im:fd.closure=[]
 glob:fd.globals=mainGlobals
 blt:fd.builtins=builtinsNs
 nodup:(D.params++D.locals).Nodup
 loc:∀x∈D.params++D.locals,D.names.lookup x=some .local
 nt:(D.params==(["script"]:List Str))=false
 bind:∀vs:List Value,vs.length=D.params.length->bindArgs fd ⟨vs,[]⟩=pure (D.params.zip vs)
theorem zc{gens:Array GenState}{x:GenState}(h:AllBare gens)(hx:x.bare=true):AllBare (gens.push x):=λy hy=>(Array.mem_push.mp hy).elim (h y) λq=>q▸hx
section
variable{nm:oQ}{Z:Fr}{s:Shared}{ps xs:List PV}{vs:List Value}{a:Addr}{fd:FuncData}{D:dY}{d:Nat}
def tE(D:dY)(b:GB (D.sc nm))(Φ:bO)(ps:List PV):Option (List PV):=bif Nat.beq ps.length D.params.length then b.ev Φ (D.slots ps)else none
theorem J0{b:GB (D.sc nm)}(V:Bs Z s)(A:FnAt Z.X a fd)(GO:xo fd D b.sts)(hd:Z.d=d+3)(hnm:Z.X.nm=nm)(P:∀Ar,bD Ar d->Pf Z.X Z.Φ Ar d)(rl:Z.af s.heap ps vs)(e:tE D b Z.Φ ps=some xs)(K:Addr->Prop)(tp:Bool):mT Z K s tp xs (call (.ref a) vs):=by
 intro Q E h
 unfold tE at e
 cases hl:Nat.beq ps.length D.params.length with
 |false=>rw[hl]at e;exact no e
 |true=>
  rw[hl]at e
  have hlen:=Nat.eq_of_beq_eq_true hl
  obtain⟨o,ho,hod⟩:=A.obj _ V.g
  have R:bD Z.Ar (d+3):=hd▸V.R
  refine wpAny_call (codeAny_call_generator R.depth ho hod GO.co GO.gen GO.body (A.code _ V.g) ?_)
  rw[GO.bind vs (by rw[rl.len];exact hlen),GO.Im]
  refine wpAny_pure (iH ?_)
  have fo:=jQ s.heap fd.scope.names (.type "frame") (D.params++D.locals)
  rw[GO.names]at fo⊢
  revert fo
  generalize pushCells (s.heap.push {cls:=.type "frame",data:=.dict #[]}) D.names=H
  generalize cellsFrom (s.heap.objs.size+1) D.names []=cs
  have new:∀a,s.heap.objs.size<=a->s.heap.get? a=none/\Z.X.N<=a:=λa l=>⟨eK l,Nat.le_trans (V.K.size _ V.g) l⟩
  revert new
  generalize s.heap.objs.size=C
  intro new fo
  obtain⟨N,hi,F,_,Kx⟩:=fo
  have hi:∀a,aA C cs a->s.heap.get? a=none/\Z.X.N<=a:=λa u=>new a (hi a u)
  generalize he:newEnv fd.scope C fd.globals cs (fd.qualname++".<locals>.") (some a) fd.code none fd.builtins=env
  have hC:env.locals=C:=by rw[<-he];rfl
  have hloc:∀x∈D.params++D.locals,aT D.names cs C x=Loc.loc C x:=λx hx=>by
   unfold aT
   rw[GO.loc x hx];rfl
  have EO:bq env (D.sc nm) ((D.params++D.locals).map (aT D.names cs C)):=by
   refine⟨by rw[<-he];exact GO.kind,by rw[<-he];exact GO.names,by rw[<-he];exact GO.glob,by rw[<-he];exact GO.blt,List.length_map _,λi x l e1 e2 e3=>?_,λi x l e1 e2 e3=>?_⟩
   ·rw[List.getElem?_map,show(D.params++D.locals)[i]?=some x from e1]at e2
    rw[<-aq e2,hC]
    exact hloc x (List.mem_of_getElem? e1)
   ·rw[show D.names.lookup x=some .local from GO.loc x (List.mem_of_getElem? e1)]at e3
    exact e3.elim (λq=>nomatch q) λq=>nomatch q
  have x₁:aJ Z.X Z.X.V s {s with heap:=H}:=V.ext (tk:=s.toks) Kx
  have R1:bD Z.Ar.in1 (d+2):=R.in1
  obtain⟨ws,D₁⟩:=lS (env:=env) (Ar:=Z.Ar.in1) (d:=d) V (R1.less (Nat.le_add_right _ _)) x₁ N hi F hC GO.nodup
  have ux:(Z.first Z.Ar.in1 d env D.names cs C (D.params++D.locals)).af H ps vs:=Internal.af.move (λb o q e=>⟨⟨q,λu=>ah (hi b u).1 ⟨o,e⟩⟩,Kx b o e⟩) rl
  have NK:∀(j:Nat) (x:Str),(D.params++D.locals)[j]?=some x->kX (D.sc nm) j x=true:=λj x hx=>by
   show((D.params++D.locals)[j]?==some x&&(D.names.lookup x==some .local||_))=true
   rw[hx,beq_self_eq_true,GO.loc x (List.mem_of_getElem? hx)];rfl
  refine fL (Z:=Z.first Z.Ar.in1 d env D.names cs C (D.params++D.locals)) EO D.params vs ps 0 _ ws _ _ D₁ hlen.symm ux (λj x e=>?_) λbB s₂ x₂ D₂=>?_
  ·have hx:(D.params++D.locals)[j]?=some x:=by
    rw[List.getElem?_append_left (jb e).1];exact e
   exact⟨by rw[Nat.zero_add];exact NK j x hx,by rw[Nat.zero_add];exact(jb hx).1⟩
  ·have y₂:aJ Z.X Z.X.V s s₂:=x₁.on x₂ (λb o k e=>⟨k,λu=>ah (hi b u).1 ⟨o,e⟩⟩) (Nat.le_refl _)
   have es:=gU ps [] D.locals.length
   rw[List.nil_append,List.nil_append]at es
   rw[show(D.params++D.locals).length=ps.length+D.locals.length by rw[ay,hlen]]at D₂
   rw[show([]:List Slot).length=0 from rfl]at es
   rw[es]at D₂
   refine⟨V.K.nolimit _ D₂.g,?_⟩
   refine wpAny_pyIter_gen (g:=s₂.gens.size) ⟨_,_,_,Heap.get?_push_size _ rfl,rfl,rfl,rfl⟩ ?_
   have hk:Ext s₂.heap (s₂.heap.push {cls:=.type "generator",data:=.fields #[Value.int (↑s₂.gens.size) 0,Value.str fd.name s₂.toks,Value.str fd.qualname (s₂.toks+1)]}):=Ext.push _ _
   have eY:aJ Z.X Z.X.V s {s₂ with gens:=s₂.gens.push (.fresh (.func b.sts env)),toks:=s₂.toks+1+1,heap:=s₂.heap.push {cls:=.type "generator",data:=.fields #[Value.int (↑s₂.gens.size) 0,Value.str fd.name s₂.toks,Value.str fd.qualname (s₂.toks+1)]}}:=
    y₂.on (g':=s₂.gens.size) ⟨λa o _ e=>hk a o e,λg=>V.K.Gk _ _ (λ_=>False) g (λ_ f=>f.elim) λa o _ e=>hk a o e,λi z l e=>by
     show(s₂.gens.push _)[i]?=some z
     rw[Array.getElem?_push_lt l,<-Array.getElem?_eq_getElem];exact e,λhb=>zc hb rfl,rfl⟩ (λ_ _ k _=>k) y₂.size
   have mC:∃o,s₂.heap.get? C=some o/\bR o:=by
    obtain⟨n,m,hm⟩:=D₂.eV
    obtain⟨o,e,c,_⟩:=fR hm
    exact⟨o,(show(Z.first Z.Ar.in1 d env D.names cs C (D.params++D.locals)).env.locals=C from hC)▸e,c⟩
   have hN:=(hi C (.inl rfl)).2
   have hsz:C<s₂.heap.objs.size:=mC.elim λo q=>Heap.lt_size q.1
   have all:∀l∈(D.params++D.locals).map (aT D.names cs C),l.addr=C:=λl m=>by
    obtain⟨x,hx,rfl⟩:=List.mem_map.mp m
    rw[hloc x hx];rfl
   refine h (.ref s₂.heap.objs.size) _ _ _ eY (B9 (c:=.func b.sts env) (C:=C) (d:=d+2) V R hN (Nat.le_trans hN (Nat.le_of_lt hsz)) (Nat.ne_of_lt hsz) (hi C (.inl rfl)).1 (y₂.live (.inl (Nat.le_trans hN (Nat.le_of_lt hsz))) (bL _)) y₂.size ⟨_,_,_,Heap.get?_push_size _ rfl,rfl,rfl,rfl⟩ ⟨hN,mC.imp λo q=>⟨hk _ _ q.1,q.2⟩⟩ (by simp) λI s'' hI JY k1 lg=>⟨rfl,?_⟩)
   have kC:∀o,s₂.heap.get? C=some o->s''.heap.get? C=some o:=λo e=>k1 o (hk _ _ e)
   have TY:mD Z.X.N s''.heap C:=⟨hN,mC.imp λo q=>⟨kC o q.1,q.2⟩⟩
   have Rf:bD (Z.Ar.in1.over (.func b.sts env) []) d:=⟨R1.hh,(rK R1.hd).1,wO R1.hu⟩
   unfold GB.ev at e
   cases hb:bY (D.slots ps)with
   |false=>rw[hb]at e;exact no e
   |true=>
    have e':b.ev Z.Φ (D.slots ps)=some xs:=by unfold GB.ev;exact e
    refine b.seg (Z:=Z.first Z.Ar.in1 d env D.names cs C (D.params++D.locals)) (σ:=D.slots ps) (ws:=bB) (s:=s''.setGen s₂.gens.size .running) ⟨⟨⟨?_,P _ Rf,EO,hnm,λh=>nomatch (GO.nt.symm.trans h)⟩,Nat.le_of_eq (List.length_map _)⟩,λi x h=>(jb (eq_of_beq (both h).1:(D.params++D.locals)[i]?=some x)).1⟩ GO.nt all hC (by rw[show(Z.first Z.Ar.in1 d env D.names cs C (D.params++D.locals)).env=env from rfl,<-he];exact GO.co) P R1 hI.symm (by rw[iK];exact lg) e'
    exact Dy.norm (Z:=Z.first (Z.Ar.in1.over (.func b.sts env) []) d env D.names cs C (D.params++D.locals)) {D₂ with R:=Rf} hb (λl m o e=>by rw[all l m]at e⊢;exact kC o e) (λo e=>by rw[show(Z.first (Z.Ar.in1.over (.func b.sts env) []) d env D.names cs C (D.params++D.locals)).env.locals=C from hC]at e⊢;exact kC o e) JY (λa n e=>⟨n,e⟩) (λa b=>.inl b.1) (λa u b=>ah b.2 (u▸TY.2.imp λ_ q=>q.1)) (λa u=>u▸TY) all
end
end Mine.Internal
end
section
open PySem PySem.W PyProof.Rows
namespace Mine.Internal
section
variable{sc:SC}
theorem Iter.of{Z:Fr}{K:Addr->Prop}{tp:Bool}{it:Value}{xs:List PV}{W:Addr->Prop}{S:(Addr->Prop)->Nat->Shared->Prop}{s s₁:Shared}(I:Iter (Fr.of Z.X Z.Φ Z.Ar Z.d Z.B) K tp it xs W S s s₁):Iter Z K tp it xs W S s s₁:=⟨I.new,I.lz,I.start,I.keep,I.item,I.done,I.self⟩
def SI.gen(f:Nat)(x:Str)(as:List (SE sc))(p1 p:Pos)(hx:sc.nm.gens[f]?=some x)(hg:aC sc x=true):SI sc:=⟨.Call (.Name x p1) (exprs as) [] p,false,λΦ σ=>(ig Φ σ as).bind (Φ.gen f),.call,
 λ{Z σ ws s xs} V e K tp hK _ Q E h=>aa e λps e1 e=>wpAny_Call_NameR (global V hg (V.K.gens f x (V.nm▸hx)) (V.K.Il f x (V.nm▸hx) _ p [] _ _ E _ (cg as) (eH V e1 λvs s₁ x₁ aj rl=>⟨aj.g,(aj.P.gen f vs ps xs s₁ _ e aj.toBs.of rl K tp hK) Q E λit W S s₂ y I=>h.after x₁ it W S s₂ y I.of⟩) V.g))⟩
end
noncomputable def seen(names:List (Str×NameKind))(x:Str):Str:=bif names.lookup x==some .free then x else("":Str)
abbrev dw(sc:SC)(scope:Scope)(vars:List Str):SC:={sc with N:=scope.names,Γ:=vars++sc.Γ.map (seen scope.names),top:=false}
structure mS(fd:FuncData)(params locals:List Str)(body:List Stmt)(scope:Scope)(env:Env):Prop where
 rO:fd.scope=scope
 kind:scope.kind=.function
 co:scope.isCoroutine=false
 gen:scope.isGenerator=false
 body:fd.body=.stmts body
 glob:fd.globals=mainGlobals
 blt:fd.builtins=builtinsNs
 Im:∀x,(x,NameKind.free)∈scope.names->fd.closure.lookup x=env.cells.lookup x
 nodup:(params++locals).Nodup
 loc:∀x∈params++locals,scope.names.lookup x=some .local
 wC:∀x k,(x,k)∈scope.names->k≠NameKind.cell
 blank:scope.names.lookup ("":Str)=none
 bind:∀vs:List Value,vs.length=params.length->bindArgs fd ⟨vs,[]⟩=pure (params.zip vs)
theorem gm:∀(names:List (Str×NameKind)) (n:Nat) (acc:List (Str×Addr)),(∀x k,(x,k)∈names->k≠NameKind.cell)->cellsFrom n names acc=acc
 | [],n,acc,h=>rfl
 |(x,k)::r,n,acc,h=>by
  unfold cellsFrom
  cases hk:k==NameKind.cell with
  |true=>exact absurd (eq_of_beq hk) (h x k eF)
  |false=>exact gm r n acc λy j hm=>h y j (f5 _ hm)
section
variable{sc:SC}{Z:Fr}{σ:List Slot}{ws:Nat->Option Value}{s s':Shared}{C:Addr}{vars:List Str}{env:Env}{d:Nat}{Ar:Around}{ps:List PV}{vs:List Value}
noncomputable abbrev Fr.clos (Z:Fr) (Ar:Around) (d:Nat) (env:Env) (C:Addr) (vars:List Str):Fr:=
 {X:=Z.X,Φ:=Z.Φ,Ar:=Ar,d:=d,env:=env,ls:=vars.map (Loc.loc C)++Z.ls,B:=λa=>Z.B a/\a≠C,U:=λa=>Z.U a\/a=C,wr:=vars.length+Z.wr,ow:=vars.length+Z.ls.length,fx:=Z.fx}
theorem Ft(V:Ey Z sc σ ws s)(R:bD Ar d)(x:aJ Z.X Z.X.V s s')(hC:s.heap.get? C=none/\Z.X.N<=C)(hn:∃m,s'.heap.Ns C m)(he:env.locals=C)(hv:vars.Nodup):∃dH,Dy (Z.clos Ar d env C vars) (dF vars.length σ) dH s':=by
 have D₁:=V.toDy.step x
 obtain⟨m,hm⟩:=hn
 obtain⟨oc,ec,nc,nl⟩:=fR hm
 have mv:∀a o,Z.B a->s.heap.get? a=some o->(Z.B a/\a≠C)/\s'.heap.get? a=some o:=λa o b e=>⟨⟨b,λq=>ah (q▸hC.1) ⟨o,e⟩⟩,x.off a o (V.sub a b) e⟩
 have loc:∀(i:Nat) (l:Loc),(vars.map (Loc.loc C)++Z.ls)[i]?=some l->(i<vars.length/\∃y,vars[i]?=some y/\l=Loc.loc C y)\/(¬i<vars.length/\Z.ls[i-vars.length]?=some l):=λi l e=>by
  by_cases hi:i<vars.length
  ·rw[List.getElem?_append_left (by rw[List.length_map];exact hi),List.getElem?_map]at e
   exact aE e λy e q=>.inl ⟨hi,y,e,q.symm⟩
  ·rw[List.getElem?_append_right (by rw[List.length_map];exact Nat.not_lt.mp hi),List.length_map]at e
   exact .inr ⟨hi,e⟩
 refine⟨gW vars m ws,{K:=V.K,R:=R,g:=D₁.g,fresh:=λa n e=>⟨D₁.fresh a n e,λq=>ah (q▸e) ⟨oc,ec⟩⟩,sub:=λa b=>V.sub a b.1,eU:=λa u b=>u.elim (λu=>V.eU a u b.1) b.2,turn:=λa u=>u.elim (D₁.turn a) λq=>(by rw[q];exact⟨hC.2,oc,ec,nc⟩),len:=?_,pl:=λi l e=>?_,hi:=λl m=>?_,ok:=λi t e=>?_,mine:=λi l hi e=>?_,dI:=λi xs a hi e q=>?_,apart:=?_,eV:=(by rw[show(Z.clos Ar d env C vars).env.locals=C from he];exact⟨hC.2,m,hm⟩),once:=λi j xs ys e1 e2 e3=>?_}⟩
 ·show(vars.map (Loc.loc C)++Z.ls).length=(dF vars.length σ).length
  unfold dF
  rw[ay,ay,List.length_map,List.length_replicate,V.len]
 ·unfold gW
  rcases loc i l e with⟨hi,y,ey,rfl⟩|⟨hi,e⟩
  ·rw[if_pos hi,ey];exact⟨m,hm,rfl⟩
  ·rw[if_neg hi];exact D₁.pl _ l e
 ·rcases dU e with rfl|⟨hk,e⟩
  ·trivial
  ·unfold gW
   rw[if_neg (Nat.not_lt.mpr hk)]
   have q:=V.ok _ t e
   cases t with
   |unset=>trivial
   |val p=>exact q.imp λv q=>⟨q.1,Internal.Rep.move q.2 mv⟩
   |own xs=>obtain⟨v,vs,e,l,r⟩:=q;exact⟨v,vs,e,l.move λa o n e=>⟨n,x.off a o (.inl n) e⟩,Internal.af.move mv r⟩
   |is v=>exact q
 ·rcases List.mem_append.mp m with m|m
  ·obtain⟨y,_,rfl⟩:=List.mem_map.mp m
   exact hC.2
  ·exact V.hi l m
 ·rcases loc i l e with⟨_,y,_,rfl⟩|⟨h,e⟩
  ·exact .inr rfl
  ·exact .inl (V.mine _ l (Nat.sub_lt_left_of_lt_add (Nat.not_lt.mp h) hi) e)
 ·rcases dU e with z|⟨h1,e⟩
  ·exact nomatch z
  ·unfold gW at q
   rw[if_neg (Nat.not_lt.mpr h1)]at q
   exact .inl (V.dI _ xs a (Nat.lt_of_lt_of_le (by rw[V.len];exact(jb e).1) V.al) e q)
 ·refine List.nodup_append.mpr ⟨List.Pairwise.map _ (λ_ _ n e=>n (by injection e)) hv,V.apart,λl m l' m' e=>?_⟩
  obtain⟨y,_,rfl⟩:=List.mem_map.mp m
  exact(V.wD hC.1).1 l' m' (e▸rfl)
 ·rcases dU e1 with q|⟨h1,e1⟩
  ·exact nomatch q
  ·rcases dU e2 with q|⟨h2,e2⟩
   ·exact nomatch q
   ·unfold gW at e3
    rw[if_neg (Nat.not_lt.mpr h1),if_neg (Nat.not_lt.mpr h2)]at e3
    have q:=V.once _ _ xs ys e1 e2 e3
    rw[<-Nat.sub_add_cancel h1,q,Nat.sub_add_cancel h2]
theorem Bq{fd:FuncData}{params locals:List Str}{stmts:List Stmt}{scope:Scope}{F:Addr}(EO:bq Z.env sc Z.ls)(K:mS fd params locals stmts scope Z.env)(hfree:∀x,(x,NameKind.free)∈scope.names->sc.N.lookup x=some .cell\/sc.N.lookup x=some .free):
  bq (newEnv scope C fd.globals fd.closure (fd.qualname++".<locals>.") (some F) fd.code none fd.builtins) (dw sc scope (params++locals)) ((params++locals).map (Loc.loc C)++Z.ls):=by
 have split:∀(i:Nat) (x:Str) (l:Loc),((params++locals)++sc.Γ.map (seen scope.names))[i]?=some x->((params++locals).map (Loc.loc C)++Z.ls)[i]?=some l->(x∈params++locals/\l=Loc.loc C x)\/(x=""\/(scope.names.lookup x=some NameKind.free/\∃j:Nat,sc.Γ[j]?=some x/\Z.ls[j]?=some l)):=λi x l e1 e2=>by
  by_cases hi:i<(params++locals).length
  ·rw[List.getElem?_append_left hi]at e1
   rw[List.getElem?_append_left (by rw[List.length_map];exact hi),List.getElem?_map,e1]at e2
   exact .inl ⟨List.mem_of_getElem? e1,(aq e2).symm⟩
  ·have hi:=Nat.not_lt.mp hi
   rw[List.getElem?_append_right hi,List.getElem?_map]at e1
   rw[List.getElem?_append_right (by rw[List.length_map];exact hi),List.length_map]at e2
   refine aE e1 λy h1 h2=>.inr ?_
   unfold seen at h2
   cases h:scope.names.lookup y==some NameKind.free with
   |false=>rw[h]at h2;exact .inl h2.symm
   |true=>
    rw[h]at h2
    have h2:y=x:=h2
    exact .inr ⟨h2▸eq_of_beq h,_,h2▸h1,e2⟩
 have blank:∀{k},scope.names.lookup ("":Str)=some k->False:=λq=>by rw[K.blank]at q;exact nomatch q
 refine⟨K.kind,rfl,K.glob,K.blt,?_,λi x l e1 e2 e3=>?_,λi x l e1 e2 e3=>?_⟩
 ·show _=((params++locals)++sc.Γ.map _).length
  rw[ay (as:=(params++locals).map (Loc.loc C)),ay (as:=params++locals),List.length_map,List.length_map,EO.len]
 ·have e3:scope.names.lookup x=some .local:=e3
  rcases split i x l e1 e2 with⟨_,rfl⟩|rfl|⟨h,_⟩
  ·rfl
  ·exact(blank e3).elim
  ·rw[h]at e3;exact nomatch e3
 ·have e3:scope.names.lookup x=some .cell\/scope.names.lookup x=some .free:=e3
  rcases split i x l e1 e2 with⟨h,_⟩|rfl|⟨h,j,h1,h2⟩
  ·rw[K.loc x h]at e3;exact e3.elim (λq=>nomatch q) λq=>nomatch q
  ·exact(e3.elim blank blank).elim
  ·obtain⟨c,h3,h4⟩:=EO.L3 j x l h1 h2 (hfree x (mem_of_lookup h))
   exact⟨c,(K.Im x (mem_of_lookup h)).trans h3,h4⟩
theorem uB:∀(ps:List PV) (k:Nat) (σ τ:List Slot),k+ps.length<=σ.length->setFrom k ps (σ++τ)=setFrom k ps σ++τ:=by
 intro w
 induction w with
 |nil=>intro k σ τ h;exact rfl
 |cons p ps ih=>
  intro k σ τ h
  have h:k+1+ps.length<=σ.length:=by rw[Nat.add_right_comm];exact h
  unfold setFrom
  rw[List.set_append_left _ _ (Nat.lt_of_lt_of_le (Nat.lt_of_lt_of_le (Nat.lt_succ_self k) (Nat.le_add_right _ _)) h)]
  exact ih (k+1) _ τ (by rw[List.length_set];exact h)
theorem o8{fd:FuncData}{params locals:List Str}{stmts:List Stmt}{scope:Scope}{F:Addr}{o:Obj}(V:Ey Z sc σ ws s)(hd:Z.d=d+1)(hF:s.heap.get? F=some o)(ho:o.data=.func fd)(hc:s.heap.CodeRec fd.code fd.qualname)(K:mS fd params locals stmts scope Z.env)(hfree:∀x,(x,NameKind.free)∈scope.names->sc.N.lookup x=some .cell\/sc.N.lookup x=some .free)
  (rl:Z.af s.heap ps vs) (hlen:ps.length=params.length) {Q:Value->Shared->Prop} {E:Value->Shared->Prop}
  (run:∀env C bB s₂,env.locals=C->bq env (dw sc scope (params++locals)) ((params++locals).map (Loc.loc C)++Z.ls)->aJ Z.X Z.K s s₂->s.heap.get? C=none/\Z.X.N<=C->Dy (Z.clos (Z.Ar.deeper env) d env C (params++locals)) (ps.map Slot.val++List.replicate locals.length .unset++σ) bB s₂->
   ∀E,wpAny Z.X.M (Z.Ar.deeper env) (execs stmts env) (λf s₃=>Flow.casesOn (motive:=λ_=>Prop) f (Q .none s₃) False False λv=>Q v s₃) E s₂):wpAny Z.X.M Z.Ar (call (.ref F) vs) Q E s:=by
 have R:bD Z.Ar (d+1):=hd▸V.R
 refine wpAny_call (codeAny_call_function R.depth hF ho (by rw[K.rO];exact K.co) (by rw[K.rO];exact K.gen) K.body hc ?_)
 rw[K.bind vs (by rw[rl.len];exact hlen),K.rO]
 refine wpAny_pure (iH ?_)
 obtain⟨N,hi,F',_,Kx⟩:=jQ s.heap scope.names (.type "frame") (params++locals)
 have hns:=F'.ns
 clear F' N hi
 have EO:=λC=>Bq (C:=C) (F:=F) V.EO K hfree
 have new:∀a,s.heap.objs.size<=a->s.heap.get? a=none/\Z.X.N<=a:=λa l=>⟨eK l,Nat.le_trans (V.K.size _ V.g) l⟩
 rw[gm _ _ fd.closure K.wC]
 revert hns Kx new
 generalize pushCells (s.heap.push {cls:=.type "frame",data:=.dict #[]}) scope.names=H
 generalize s.heap.objs.size=C
 intro Kx hns new
 have hC:=new C (Nat.le_refl _)
 have EO:=EO C
 generalize he:newEnv scope C fd.globals fd.closure (fd.qualname++".<locals>.") (some F) fd.code none fd.builtins=env at *
 have hL:env.locals=C:=by rw[<-he];rfl
 have x₁:aJ Z.X Z.X.V s {s with heap:=H}:=V.toBs.ext (tk:=s.toks) Kx
 obtain⟨eB,D₁⟩:=Ft (env:=env) V (R.in1) x₁ hC hns hL K.nodup
 have ux:(Z.clos Z.Ar.in1 d env C (params++locals)).af H ps vs:=Internal.af.move (λb o q e=>⟨⟨q,λu=>ah (u▸hC.1) ⟨o,e⟩⟩,Kx b o e⟩) rl
 refine fL (Z:=Z.clos Z.Ar.in1 d env C (params++locals)) EO params vs ps 0 _ eB _ _ D₁ hlen.symm ux (λj x e=>?_) λbB s₂ x₂ D₂=>?_
 ·have hx:(params++locals)[j]?=some x:=by
   rw[List.getElem?_append_left (jb e).1];exact e
  refine⟨?_,by rw[Nat.zero_add];exact Nat.lt_of_lt_of_le (jb hx).1 (Nat.le_add_right _ _)⟩
  show(((params++locals)++sc.Γ.map (seen scope.names))[0+j]?==some x&&(scope.names.lookup x==some .local||_))=true
  rw[Nat.zero_add,List.getElem?_append_left (jb hx).1,hx,beq_self_eq_true,K.loc x (List.mem_of_getElem? hx)];rfl
 ·have y₂:aJ Z.X Z.K s s₂:=x₁.toK.on x₂ (λb o k e=>⟨k.1,λu=>u.elim k.2 λq=>ah (q▸hC.1) ⟨o,e⟩⟩) x₁.size
  refine⟨V.K.nolimit _ D₂.g,codeAny_func ?_⟩
  have es:setFrom 0 ps (dF (params++locals).length σ)=ps.map Slot.val++List.replicate locals.length .unset++σ:=by
   unfold dF
   rw[uB _ _ _ _ (by rw[List.length_replicate,ay,hlen,Nat.zero_add];exact Nat.le_add_right _ _),show(params++locals).length=ps.length+locals.length by rw[ay,hlen]]
   have h:=gU ps [] locals.length
   rw[List.nil_append,List.nil_append]at h
   exact congrArg (·++σ) h
  rw[es]at D₂
  refine wpAny_mono (run env C bB s₂ hL EO y₂ hC {D₂ with R:=R.deeper} _) (λf s₃ q=>?_) λ_ _ e=>e
  cases f with
  |next=>exact q
  |brk=>exact q.elim
  |cont=>exact q.elim
  |ret v=>exact q
end
section
variable{sc:SC}{Z:Fr}{σ σ' τ:List Slot}{ws dH:Nat->Option Value}{s s₂ s₃ s':Shared}{C:Addr}{vars:List Str}{env:Env}{d:Nat}{Ar:Around}{B U B' U':Addr->Prop}
noncomputable abbrev Fr.re (Z:Fr) (Ar:Around) (d:Nat) (B U:Addr->Prop):Fr:={Z with Ar:=Ar,d:=d,B:=B,U:=U}
theorem IW(D:Dy ((Z.clos Ar d env C vars).bu B U) σ ws s)(hL:∃x,Loc.loc Z.env.locals x∈Z.ls):Z.X.N<=Z.env.locals/\∃m,s.heap.Ns Z.env.locals m:=by
 obtain⟨x,hx⟩:=hL
 have hx':Loc.loc Z.env.locals x∈vars.map (Loc.loc C)++Z.ls:=List.mem_append_right _ hx
 obtain⟨i,e⟩:=List.mem_iff_getElem?.mp hx'
 obtain⟨m,h,_⟩:=D.pl _ _ e
 exact⟨D.hi _ hx',m,h⟩
theorem Dy.outer(D:Dy ((Z.clos Ar d env C vars).bu B U) (τ++σ) ws s)(EW:τ.length=vars.length)(hn:Z.X.N<=Z.env.locals/\∃m,s.heap.Ns Z.env.locals m)(hl:∀l∈Z.ls,l.addr≠C)(he:env.locals=C):Dy (Z.re Ar d B λa=>U a/\a≠C) σ (λi=>ws (vars.length+i)) s:=by
 have len:(vars.map (Loc.loc C)).length=vars.length:=List.length_map _
 have i1:∀{i:Nat} {l:Loc},Z.ls[i]?=some l->(vars.map (Loc.loc C)++Z.ls)[vars.length+i]?=some l:=λq=>by
  rw[List.getElem?_append_right (by rw[len];exact Nat.le_add_right _ _),len,Nat.add_sub_cancel_left];exact q
 have i2:∀{i:Nat} {t:Slot},σ[i]?=some t->(τ++σ)[vars.length+i]?=some t:=λq=>by
  rw[List.getElem?_append_right (by rw[EW];exact Nat.le_add_right _ _),EW,Nat.add_sub_cancel_left];exact q
 obtain⟨m,hm⟩:=D.eV.2
 have hm:s.heap.Ns C m:=(show((Z.clos Ar d env C vars).bu B U).env.locals=C from he)▸hm
 obtain⟨oc,ec,nc,nl⟩:=fR hm
 refine{K:=D.K,R:=D.R,g:=D.g,fresh:=D.fresh,sub:=D.sub,eU:=λa u=>D.eU a u.1,turn:=λa u=>D.turn a u.1,len:=?_,pl:=λi l e=>D.pl _ l (i1 e),hi:=λl m=>D.hi l (List.mem_append_right _ m),ok:=λi t e=>D.ok _ t (i2 e),mine:=λi l hi e=>⟨D.mine _ l (Nat.add_lt_add_left hi _) (i1 e),hl l (List.mem_of_getElem? e)⟩,dI:=λi xs a hi e q=>⟨D.dI _ xs a (Nat.add_lt_add_left ?_ _) (i2 e) q,λz=>?_⟩,apart:=(List.nodup_append.mp D.apart).2.1,eV:=hn,once:=λi j xs ys e1 e2 e3=>Nat.add_left_cancel (D.once _ _ xs ys (i2 e1) (i2 e2) e3)}
 ·have:=D.len
  rw[show((Z.clos Ar d env C vars).bu B U).ls=vars.map (Loc.loc C)++Z.ls from rfl,ay,ay,len,EW]at this
  exact Nat.add_left_cancel this
 ·have:=D.len
  rw[show((Z.clos Ar d env C vars).bu B U).ls=vars.map (Loc.loc C)++Z.ls from rfl,ay,ay,len,EW]at this
  rw[Nat.add_left_cancel this]
  exact(jb e).1
 ·obtain⟨v,vs,h1,⟨a',n,rfl,_,h3⟩,_⟩:=D.ok _ _ (i2 e)
  rw[h1]at q
  injection q with q
  injection q with q
  rw[q,z,ec]at h3
  exact nl _ _ (aq h3)
theorem Dy.join(D:Dy ((Z.clos Ar d env C vars).bu B U) (τ++σ) ws s)(EW:τ.length=vars.length)(no:xr τ)(he:env.locals=C)(hal:Z.ls.length<=Z.ow)(hU:U C)(g:aI (Z.re Ar d B λa=>U a/\a≠C) s s' B' U')(D':Dy (Z.re Ar d B' U') σ' dH s'):
  Dy ((Z.clos Ar d env C vars).bu B' λa=>U' a\/a=C) (τ++σ') (λi=>if i<vars.length then ws i else dH (i-vars.length)) s':=by
 have len:(vars.map (Loc.loc C)).length=vars.length:=List.length_map _
 have kC:∀o,s.heap.get? C=some o->s'.heap.get? C=some o:=λo=>g.x.off C o ⟨.inl (D.turn C hU).1,λu=>u.2 rfl⟩
 have hC:=D.turn C hU
 have nB:¬B' C:=λb=>(g.hB C b).elim (D.eU C hU) λq=>q.elim (λu=>u.2 rfl) λn=>ah n.2 (hC.2.imp λ_ q=>q.1)
 have l1:∀{i:Nat} {l:Loc},i<vars.length->(vars.map (Loc.loc C)++Z.ls)[i]?=some l->∃y,l=Loc.loc C y:=λhi e=>by
  rw[List.getElem?_append_left (by rw[len];exact hi),List.getElem?_map]at e
  exact aE e λy _ q=>⟨y,q.symm⟩
 have l2:∀{i:Nat} {l:Loc},¬i<vars.length->(vars.map (Loc.loc C)++Z.ls)[i]?=some l->Z.ls[i-vars.length]?=some l:=λhi e=>by
  rw[List.getElem?_append_right (by rw[len];exact Nat.not_lt.mp hi),len]at e;exact e
 have t1:∀{ρ:List Slot} {i:Nat} {t:Slot},i<vars.length->(τ++ρ)[i]?=some t->τ[i]?=some t:=λhi e=>by
  rw[List.getElem?_append_left (by rw[EW];exact hi)]at e;exact e
 have t2:∀{i:Nat} {t:Slot},¬i<vars.length->(τ++σ')[i]?=some t->σ'[i-vars.length]?=some t:=λhi e=>by
  rw[List.getElem?_append_right (by rw[EW];exact Nat.not_lt.mp hi),EW]at e;exact e
 refine{K:=D.K,R:=D.R,g:=D'.g,fresh:=D'.fresh,sub:=D'.sub,eU:=λa u=>u.elim (D'.eU a) λq b=>nB (q▸b),turn:=λa u=>u.elim (D'.turn a) λq=>(by rw[q];exact⟨hC.1,hC.2.imp λo q=>⟨kC o q.1,q.2⟩⟩),len:=?_,pl:=λi l e=>?_,hi:=D.hi,ok:=λi t e=>?_,mine:=λi l hi e=>?_,dI:=λi xs a hi e q=>?_,apart:=D.apart,eV:=?_,once:=λi j xs ys e1 e2 e3=>?_}
 ·show(vars.map (Loc.loc C)++Z.ls).length=(τ++σ').length
  rw[ay,ay,len,EW]
  exact congrArg (vars.length+·) D'.len
 ·by_cases hi:i<vars.length
  ·obtain⟨y,rfl⟩:=l1 hi e
   rw[if_pos hi]
   exact(D.pl i _ e).keep kC
  ·rw[if_neg hi];exact D'.pl _ l (l2 hi e)
 ·by_cases hi:i<vars.length
  ·rw[if_pos hi]
   have q:=D.ok i t (by rw[List.getElem?_append_left (by rw[EW];exact hi)];exact t1 hi e)
   have mv:∀a o,B a->s.heap.get? a=some o->B' a/\s'.heap.get? a=some o:=λa o b e=>⟨g.kB a o b e,g.x.off a o ⟨D.sub a b,λu=>D.eU a u.1 b⟩ e⟩
   cases t with
   |unset=>trivial
   |val p=>exact q.imp λv q=>⟨q.1,Internal.Rep.move q.2 mv⟩
   |own xs=>exact absurd (t1 hi e) (no i xs)
   |is v=>exact q
  ·rw[if_neg hi];exact D'.ok _ t (t2 hi e)
 ·by_cases h:i<vars.length
  ·obtain⟨y,rfl⟩:=l1 h e
   exact .inr rfl
  ·exact .inl (D'.mine _ l (Nat.sub_lt_left_of_lt_add (Nat.not_lt.mp h) hi) (l2 h e))
 ·by_cases h:i<vars.length
  ·exact absurd (t1 h e) (no i xs)
  ·rw[if_neg h]at q
   have e:=t2 h e
   exact .inl (D'.dI _ xs a (Nat.lt_of_lt_of_le (D'.len▸(jb e).1) hal) e q)
 ·obtain⟨m,hm⟩:=D.eV.2
  exact⟨D.eV.1,m,hm.at' λo e=>by
   rw[show((Z.clos Ar d env C vars).bu B U).env.locals=C from he]at e⊢
   exact kC o e⟩
 ·by_cases h1:i<vars.length
  ·exact absurd (t1 h1 e1) (no i xs)
  ·by_cases h2:j<vars.length
   ·exact absurd (t1 h2 e2) (no j ys)
   ·rw[if_neg h1,if_neg h2]at e3
    have q:=D'.once _ _ xs ys (t2 h1 e1) (t2 h2 e2) e3
    rw[<-Nat.sub_add_cancel (Nat.not_lt.mp h1),q,Nat.sub_add_cancel (Nat.not_lt.mp h2)]
end
structure aN(X:Cx)(h:Heap)(F:Addr)(fd:FuncData):Prop where
 obj:∃o,h.get? F=some o/\o.data=.func fd
 hi:X.N<=F
 code:∃c oc vs t,fd.code=.ref c/\h.get? c=some oc/\oc.cls=.type "code"/\oc.data=.fields vs/\vs[1]?=some (.str fd.qualname t)/\X.N<=c
theorem aN.xK{X:Cx}{h:Heap}{F:Addr}{fd:FuncData}(st:aN X h F fd):h.CodeRec fd.code fd.qualname:=by
 obtain⟨c,oc,vs,t,h1,h2,h3,h4,h5,h6⟩:=st.code
 exact⟨c,oc,vs,t,h1,h2,h4,h5⟩
theorem aN.off{X:Cx}{K:Addr->Prop}{g:Nat}{s s':Shared}{F:Addr}{fd:FuncData}(st:aN X s.heap F fd)(x:St X K g s s')(h:K F)(hc:∀a o,X.N<=a->s.heap.get? a=some o->¬bR o->K a):aN X s'.heap F fd:=by
 obtain⟨c,oc,vs,t,h1,h2,h3,h4,h5,h6⟩:=st.code
 exact⟨st.obj.imp λo q=>⟨x.off F o h q.1,q.2⟩,st.hi,c,oc,vs,t,h1,x.off c oc (hc c oc h6 h2 λn=>n.elim (λn=>n h3) λn=>n vs h4) h2,h3,h4,h5,h6⟩
theorem aN.stp{X:Cx}{s s':Shared}{F:Addr}{fd:FuncData}(st:aN X s.heap F fd)(x:aJ X X.V s s'):aN X s'.heap F fd:=st.off x (.inl st.hi) λa o n _ _=>.inl n
theorem aN.dy{Z:Fr}{σ:List Slot}{ws:Nat->Option Value}{s s':Shared}{F:Addr}{fd:FuncData}(st:aN Z.X s.heap F fd)(D:Dy Z σ ws s)(hU:¬Z.U F)(x:aJ Z.X Z.K s s'):aN Z.X s'.heap F fd:=
 st.off x ⟨.inl st.hi,hU⟩ λa o n e c=>⟨.inl n,λu=>(D.turn a u).2.elim λo' q=>c (aq (q.1.symm.trans e)▸q.2)⟩
noncomputable def cK(σ:List Slot)(i k:Nat):Bool:=Option.casesOn (motive:=λ_=>Bool) σ[i]? false λt=>Slot.casesOn (motive:=λ_=>Bool) t false (λ_=>false) (λ_=>false) λj=>Nat.beq j k
theorem nT{σ:List Slot}{i k:Nat}(h:cK σ i k=true):σ[i]?=some (.is k):=by
 unfold cK at h
 cases e:σ[i]? with
 |none=>rw[e]at h;exact nomatch h
 |some t=>
  rw[e]at h
  cases t with
  |is j=>exact congrArg (λx=>some (Slot.is x)) (Nat.eq_of_beq_eq_true h)
  |_=>exact nomatch h
section
variable{sc:SC}{Z:Fr}{σ σ' τ:List Slot}{ws dH:Nat->Option Value}{s s₂ s₃ s':Shared}{C:Addr}{vars:List Str}{env:Env}{d:Nat}{Ar:Around}{B U B' U':Addr->Prop}{F:Addr}{fd:FuncData}{ps:List PV}{Q:Value->Shared->Prop}{E:Value->Shared->Prop}
theorem iR{i:Nat}{x:Str}{p1 p:Pos}{as:List (SE sc)}(V:Ev Z sc σ ws s)(hm:isVar sc i x=true)(hs:cK σ i 0=true)(hx:Z.fx 0=.ref F)(st:aN Z.X s.heap F fd)(e:ig Z.Φ σ as=some ps)
  (k:∀vs s₁,aJ Z.X Z.X.V s s₁->Ev Z sc σ ws s₁->aN Z.X s₁.heap F fd->Z.af s₁.heap ps vs->wpAny Z.X.M Z.Ar (call (.ref F) vs) Q E s₁):wpAny Z.X.M Z.Ar (eval (.Call (.Name x p1) (exprs as) [] p) Z.env) Q E s:=by
 have hw:ws i=some (.ref F):=hx▸V.ok i _ (nT hs)
 obtain⟨o,ho,hd⟩:=st.obj
 exact wpAny_Call_NameR (CW V hm hw (Calls.callWith_function (o:=o) (fd:=fd) (args_call (eH V e λvs s₁ x₁ aj rl=>⟨⟨x₁.off F o (.inl st.hi) ho,hd⟩,k vs s₁ x₁ aj (st.stp x₁) rl⟩))))
theorem vC(V:Dy Z σ ws s)(y:aJ Z.X Z.K s s₂)(hC:s.heap.get? C=none/\Z.X.N<=C)(D₂:Dy (Z.clos Ar d env C vars) σ' dH s₂)(g:aI (Z.clos Ar d env C vars) s₂ s₃ B U):aI Z s s₃ B λa=>U a/\a≠C:=
 ⟨y.on g.x (λa o k e=>⟨k.1,λu=>u.elim k.2 λq=>ah (q▸hC.1) ⟨o,e⟩⟩) y.size,λa u=>(g.hU a u.1).elim (λq=>q.elim .inl λq=>absurd q u.2) λn=>xq.back n y,
  λa b=>(g.hB a b).elim (λq=>.inl q.1) λq=>.inr (q.elim (λq=>q.elim .inl λq=>.inr (q▸⟨hC.2,hC.1⟩)) λn=>xq.back n y),λa o b e=>g.kB a o ⟨b,λq=>ah (q▸hC.1) ⟨o,e⟩⟩ (y.off a o ⟨V.sub a b,λu=>V.eU a u b⟩ e),λa u=>g.al a (.inl u)⟩
theorem Fv{cV:Scope}{vars:List Str}(hb:cV.names.lookup ("":Str)=none){i:Nat}{x:Str}(h:kX (dw sc cV vars) i x=true):i<vars.length:=by
 obtain⟨h1,h2⟩:=both h
 have h1:(vars++sc.Γ.map (seen cV.names))[i]?=some x:=eq_of_beq h1
 have h2:(cV.names.lookup x==some .local||cV.names.lookup x==some .cell)=true:=h2
 by_cases hi:i<vars.length
 ·exact hi
 ·rw[List.getElem?_append_right (Nat.not_lt.mp hi),List.getElem?_map]at h1
  refine aE h1 λy _ e=>?_
  unfold seen at e
  cases hf:cV.names.lookup y==some NameKind.free with
  |true=>
   rw[hf]at e
   have e:y=x:=e
   rw[<-e,eq_of_beq hf]at h2
   exact nomatch h2
  |false=>
   rw[hf]at e
   have e:("":Str)=x:=e
   rw[<-e,hb]at h2
   exact nomatch h2
theorem qM{cV:Scope}(hb:cV.names.lookup ("":Str)=none)(hP:∀Ar d,bD Ar d->Pf Z.X Z.Φ Ar d)(hnm:Z.X.nm=sc.nm)(EO:bq env (dw sc cV vars) (vars.map (Loc.loc C)++Z.ls))(D:Dy ((Z.clos Ar d env C vars).bu B U) σ ws s):Ex ((Z.clos Ar d env C vars).bu B U) (dw sc cV vars) σ ws s:=
 ⟨⟨⟨D,hP _ _ D.R,EO,hnm,nofun⟩,Nat.le_of_eq (by show(vars.map (Loc.loc C)++Z.ls).length=vars.length+Z.ls.length;rw[ay,List.length_map])⟩,λi x h=>Nat.lt_of_lt_of_le (Fv hb h) (Nat.le_add_right _ _)⟩
end
theorem jP{env:Env}:∀(pre rest:List Stmt),execs (pre++rest) env=(execs pre env>>=λf=>match f with| .next=>execs rest env|f=>pure f):=by
 intro w
 induction w with
 |nil=>intro rest;exact rfl
 |cons st pre ih=>
  intro rest
  rw[List.cons_append,execs_cons,execs_cons,bind_assoc]
  congr 1
  funext f
  cases f with
  |next=>exact ih rest
  |_=>rfl
abbrev vv{sc:SC}(x:Str)(p1 p pos:Pos)(as:List (SE sc)):Stmt:=.Expr (.Call (.Name x p1) (exprs as) [] p) pos
structure uR(sc:SC)where
 t:SB sc
 base:SS sc
 rp:Pos
 ip:Pos
 rest:SL sc
 a1:List (SE sc)
 a2:List (SE sc)
 i1:Nat
 i2:Nat
 y1:Str
 y2:Str
 q1:Pos
 q2:Pos
 q3:Pos
 q4:Pos
 q5:Pos
 q6:Pos
 h:(isVar sc i1 y1&&isVar sc i2 y2)=true
def nextOf(o:Option Out):Option (List Slot):=o.bind λo=>Out.casesOn (motive:=λ_=>Option (List Slot)) o some (λ_=>none) λ_=>none
theorem eZ{o:Option Out}{σ:List Slot}(e:nextOf o=some σ):o=some (.next σ):=aa e λo e1 e2=>by
 cases o with
 |next _=>rw[e1,aq e2]
 |brk _=>exact no e2
 |ret _=>exact no e2
section
variable{sc:SC}
def uR.sts(b:uR sc):List Stmt:=.If b.t.e [b.base.st,.Return none b.rp] [] b.ip::(b.rest.sts++[vv b.y1 b.q1 b.q2 b.q3 b.a1,vv b.y2 b.q4 b.q5 b.q6 b.a2])
def Io(b:uR sc)(np nl:Nat)(Φ:bO)(f:Nat):List PV->List Slot->Option (List Slot):=
 Nat.rec (motive:=λ_=>List PV->List Slot->Option (List Slot)) (λ_ _=>none) (λ_ r ps σ=>bif Nat.beq ps.length np then(λσ₀=>(b.t.ev Φ σ₀).bind λk=>bif k then(nextOf (b.base.ex Φ σ₀)).map (List.drop (np+nl))else
  (nextOf (b.rest.ex Φ σ₀)).bind λσ₁=>bif noOwn (σ₁.take (np+nl))&&cK σ₁ b.i1 0 then(ig Φ σ₁ b.a1).bind λp=>(r p (σ₁.drop (np+nl))).bind λσ₂=>bif cK (σ₁.take (np+nl)++σ₂) b.i2 0 then(ig Φ (σ₁.take (np+nl)++σ₂) b.a2).bind λq=>r q σ₂ else none else none)
  (ps.map Slot.val++List.replicate nl .unset++σ)else none) f
section
variable{Z:Fr}{F:Addr}{fd:FuncData}{cV:Scope}{par loc:List Str}
theorem nY{Ar:Around}{d:Nat}{env:Env}{C:Addr}{vars:List Str}{σ:List Slot}{ws:Nat->Option Value}{s s':Shared}{B U B' U':Addr->Prop}(D:Dy ((Z.clos Ar d env C vars).bu B U) σ ws s)(hU:U C)(g:aI (Z.re Ar d B λa=>U a/\a≠C) s s' B' U')(ex:∃o,s'.heap.get? C=some o):
  aI ((Z.clos Ar d env C vars).bu B U) s s' B' λa=>U' a\/a=C:=
 ⟨g.x.weak λa k=>⟨k.1,λu=>k.2 u.1⟩,λa u=>u.elim (λu=>(g.hU a u).imp (λq=>q.1) id) λq=>.inl (by rw[q];exact hU),λa b=>(g.hB a b).imp id λq=>q.imp (λq=>q.1) id,g.kB,λa u=>by
  by_cases q:a=C
  ·exact q▸ex
  ·exact g.al a ⟨u,q⟩⟩
theorem JE(b:uR (dw sc cV (par++loc)))(K:mS fd par loc b.sts cV Z.env)(hfree:∀x,(x,NameKind.free)∈cV.names->sc.N.lookup x=some .cell\/sc.N.lookup x=some .free)(EO:bq Z.env sc Z.ls)(hnm:Z.X.nm=sc.nm)(nt:sc.top=false)(hP:∀Ar d,bD Ar d->Pf Z.X Z.Φ Ar d)
  (hL:∃x,Loc.loc Z.env.locals x∈Z.ls) (hal:Z.ls.length<=Z.ow) (hx:Z.fx 0=.ref F) (hpos:0<(par++loc).length):∀(f:Nat) {Ar:Around} {B U:Addr->Prop} {σ σ':List Slot} {ws:Nat->Option Value} {s:Shared} {ps:List PV} {vs:List Value} {Q:Value->Shared->Prop} {E:Value->Shared->Prop},
  Dy (Z.re Ar f B U) σ ws s->aN Z.X s.heap F fd->¬U F->Internal.af s.heap B ps vs->Io b par.length loc.length Z.Φ f ps σ=some σ'->(∀s' B' U' dH,aI (Z.re Ar f B U) s s' B' U'->Dy (Z.re Ar f B' U') σ' dH s'->Q .none s')->wpAny Z.X.M Ar (call (.ref F) vs) Q E s:=by
 intro f
 induction f with
 |zero=>intro _ _ _ _ _ _ _ _ _ _ _ _ _ _ _ e;exact no e
 |succ f ih=>
  intro Ar B U σ σ' ws s ps vs Q E D st hU rl e h
  obtain⟨hv1,hv2⟩:=both b.h
  have e:(bif Nat.beq ps.length par.length then _ else _)=some σ':=e
  cases hl:Nat.beq ps.length par.length with
  |false=>rw[hl]at e;exact no e
  |true=>
   rw[hl]at e
   obtain⟨o,ho,hod⟩:=st.obj
   refine o8 (Z:=Z.re Ar (f+1) B U) ⟨⟨D,hP _ _ D.R,EO,hnm,λh=>nomatch (nt.symm.trans h)⟩,hal⟩ rfl ho hod st.xK K hfree rl (Nat.eq_of_beq_eq_true hl) λenv C bB s₂ he Mg y hC D₂ E'=>?_
   have aD:Ex ((Z.clos (Ar.deeper env) f env C (par++loc)).bu (λa=>B a/\a≠C) λa=>U a\/a=C) (dw sc cV (par++loc)) _ bB s₂:=qM K.blank hP hnm Mg D₂
   have hls:=(D.wD hC.1).1
   have nv:(par++loc).length=par.length+loc.length:=ay
   have Nx:F≠C:=λq=>ah (q▸hC.1) ⟨o,ho⟩
   have oG:aN Z.X s₂.heap F fd:=st.dy (Z:=Z.re Ar (f+1) B U) D hU y
   have parts:∀{σ₃:List Slot} {w:Nat->Option Value} {s₃:Shared} {ir ia:Addr->Prop},Dy ((Z.clos (Ar.deeper env) f env C (par++loc)).bu ir ia) σ₃ w s₃->(σ₃.take (par.length+loc.length)).length=(par++loc).length/\ia C:=λ{σ₃ w s₃ ir ia} fJ=>by
    have l:=fJ.len
    rw[show((Z.clos (Ar.deeper env) f env C (par++loc)).bu ir ia).ls=(par++loc).map (Loc.loc C)++Z.ls from rfl,ay,List.length_map]at l
    refine⟨by rw[List.length_take,nv];exact Nat.min_eq_left (by rw[<-l,nv];exact Nat.le_add_right _ _),?_⟩
    exact fJ.mine 0 (Loc.loc C ((par++loc)[0])) (Nat.lt_of_lt_of_le hpos (Nat.le_add_right _ _)) (by
     show((par++loc).map (Loc.loc C)++Z.ls)[0]?=_
     rw[List.getElem?_append_left (by rw[List.length_map];exact hpos),List.getElem?_map,List.getElem?_eq_getElem hpos];rfl)
   have out:∀{σ₃:List Slot} {w:Nat->Option Value} {s₃:Shared} {ir ia:Addr->Prop},Dy ((Z.clos (Ar.deeper env) f env C (par++loc)).bu ir ia) σ₃ w s₃->Dy (Z.re (Ar.deeper env) f ir λa=>ia a/\a≠C) (σ₃.drop (par.length+loc.length)) (λi=>w ((par++loc).length+i)) s₃:=λ{σ₃ w s₃ ir ia} fJ=>
    Dy.outer (τ:=σ₃.take (par.length+loc.length)) (by rw[List.take_append_drop];exact fJ) (parts fJ).1 (IW fJ hL) hls he
   have fin:∀{σ₃:List Slot} {w:Nat->Option Value} {s₃:Shared} {ir ia:Addr->Prop},aI ((Z.clos (Ar.deeper env) f env C (par++loc)).bu (λa=>B a/\a≠C) λa=>U a\/a=C) s₂ s₃ ir ia->Dy ((Z.clos (Ar.deeper env) f env C (par++loc)).bu ir ia) σ₃ w s₃->σ₃.drop (par.length+loc.length)=σ'->Q .none s₃:=λ{σ₃ w s₃ ir ia} g fJ q=>
    h s₃ ir _ _ (vC (Z:=Z.re Ar (f+1) B U) D y hC D₂ g) {(q▸out fJ:Dy (Z.re (Ar.deeper env) f ir λa=>ia a/\a≠C) σ' _ s₃)with R:=D.R}
   refine aa e λk e1 e=>wpAny_execs_cons (wpAny_If (b.t.go aD.toEv e1 λs₃ x₃ fW=>?_))
   have qg:=aD.step x₃
   have tK:aI ((Z.clos (Ar.deeper env) f env C (par++loc)).bu (λa=>B a/\a≠C) λa=>U a\/a=C) s₂ s₃ _ _:=aI.of x₃.toK qg.toDy
   cases k with
   |true=>
    refine aE e λσ₁ e2 e3=>?_
    refine wpAny_execs_cons ((b.base.ok qg (eZ e2)) _ _ λfl s₄ mR oR Cm en=>?_)
    obtain⟨rfl,HM,dZ⟩:=en
    exact wpAny_execs_cons (wpAny_Return_none (fin (tK.trans aD.toDy Cm) dZ.toDy e3))
   |false=>
    refine aa e λσ₁ e2 e=>wpAny_execs_nil ?_
    rw[jP]
    refine wpAny_bind ((b.rest.ok qg (eZ e2)) _ _ λfl s₄ mR oR Cm en=>?_)
    obtain⟨rfl,HM,dZ⟩:=en
    have uT:=tK.trans aD.toDy Cm
    cases hb:noOwn (σ₁.take (par.length+loc.length))&&cK σ₁ b.i1 0 with
    |false=>rw[hb]at e;exact no e
    |true=>
     rw[hb]at e
     obtain⟨n1,t1⟩:=both hb
     refine aa e λp e3 e=>aa e λσ₂ e4 e=>?_
     cases t2:cK (σ₁.take (par.length+loc.length)++σ₂) b.i2 0 with
     |false=>rw[t2]at e;exact no e
     |true=>
      rw[t2]at e
      refine aa e λq e5 e6=>?_
      have hin:interactive env=false:=by unfold interactive;rw[Mg.kind];rfl
      have N7:∀{s₃:Shared} {ir ia:Addr->Prop},aI ((Z.clos (Ar.deeper env) f env C (par++loc)).bu (λa=>B a/\a≠C) λa=>U a\/a=C) s₂ s₃ ir ia->¬ia F:=λg u=>(g.hU F u).elim (λu=>u.elim hU Nx) λn=>ah n.2 (oG.obj.imp λ_ q=>q.1)
      have lY:aN Z.X s₄.heap F fd:=oG.dy (Z:=(Z.clos (Ar.deeper env) f env C (par++loc)).bu (λa=>B a/\a≠C) λa=>U a\/a=C) aD.toDy (λu=>u.elim hU Nx) uT.x
      refine wpAny_execs_cons ?_
      rw[exec_Expr env _ _ hin (by rfl)]
      refine wpAny_bind (wpAny_standAt (wpAny_bind (iR (Z:=(Z.clos (Ar.deeper env) f env C (par++loc)).bu mR oR) dZ.toEv hv1 t1 hx lY e3 λO4 s₅ uM mX Eg DA=>?_)))
      refine ih (out mX.toDy) Eg (λu=>N7 uT u.1) DA e4 λs₆ Qm QA Wh Gb Qs=>wpAny_dropValue ?_
      have p5:=parts mX.toDy
      have J:=Dy.join (τ:=σ₁.take (par.length+loc.length)) (by rw[List.take_append_drop];exact mX.toDy) p5.1 (j4 n1) he hal p5.2 Gb Qs
      have Jl:=uT.trans aD.toDy ((aI.of uM.toK mX.toDy).trans dZ.toDy (nY mX.toDy p5.2 Gb (J.live C (.inr rfl))))
      have Mt:=qM K.blank hP hnm Mg J
      refine wpAny_execs_cons ?_
      rw[exec_Expr env _ _ hin (by rfl)]
      refine wpAny_bind (wpAny_standAt (wpAny_bind (iR (Z:=(Z.clos (Ar.deeper env) f env C (par++loc)).bu Qm λa=>QA a\/a=C) Mt.toEv hv2 t2 hx (oG.dy (Z:=(Z.clos (Ar.deeper env) f env C (par++loc)).bu (λa=>B a/\a≠C) λa=>U a\/a=C) aD.toDy (λu=>u.elim hU Nx) Jl.x) e5 λUc s₇ LV se Oz Oj=>?_)))
      have Qy:=Dy.outer (τ:=σ₁.take (par.length+loc.length)) se.toDy p5.1 (IW se.toDy hL) hls he
      refine ih Qy Oz (λu=>N7 Jl u.1) Oj e6 λs₈ Ui Uk Wi Gd Qt=>wpAny_dropValue ?_
      have Mm:=Dy.join (τ:=σ₁.take (par.length+loc.length)) se.toDy p5.1 (j4 n1) he hal (.inr rfl) Gd Qt
      have Qu:=Jl.trans aD.toDy ((aI.of LV.toK se.toDy).trans Mt.toDy (nY se.toDy (.inr rfl) Gd (Mm.live C (.inr rfl))))
      exact wpAny_execs_nil (fin Qu Mm (List.drop_left' (p5.1.trans nv)))
end
end
theorem Dy.VS{Z:Fr}{Ar:Around}{d:Nat}{B U:Addr->Prop}{σ:List Slot}{ws:Nat->Option Value}{s:Shared}(D:Dy (Z.re Ar d B U) σ ws s)(hw:Z.wr=0)(no:xr σ):Dy (Z.re Ar d B λ_=>False) σ ws s:=
 {K:=D.K,R:=D.R,g:=D.g,fresh:=D.fresh,sub:=D.sub,eU:=λ_ u=>u.elim,turn:=λ_ u=>u.elim,len:=D.len,pl:=D.pl,hi:=D.hi,ok:=D.ok,mine:=λi l h=>absurd (show i<0 from hw▸h) (Nat.not_lt_zero i),dI:=λi xs a _ e=>absurd e (no i xs),apart:=D.apart,eV:=D.eV,once:=D.once}
structure oN(sc:SC)where
 t:SB sc
 base:SE sc
 rp:Pos
 ip:Pos
 rest:SL sc
 a1:List (SE sc)
 a2:List (SE sc)
 sh:SE sc
 i1:Nat
 i2:Nat
 y1:Str
 y2:Str
 q1:Pos
 q2:Pos
 q3:Pos
 q4:Pos
 q5:Pos
 q6:Pos
 q7:Pos
 h:(isVar sc i1 y1&&isVar sc i2 y2)=true
section
variable{sc:SC}
def oN.last(b:oN sc):Expr:=.BinOp (.BinOp (.Call (.Name b.y1 b.q1) (exprs b.a1) [] b.q2) .LShift b.sh.e b.q3) .Add (.Call (.Name b.y2 b.q4) (exprs b.a2) [] b.q5) b.q6
def oN.sts(b:oN sc):List Stmt:=.If b.t.e [.Return (some b.base.e) b.rp] [] b.ip::(b.rest.sts++[.Return (some b.last) b.q7])
def o6(o:Option PV):Option PV:=o.bind λp=>bif mY p then some p else none
theorem fj{o:Option PV}{p:PV}(e:o6 o=some p):o=some p/\mY p=true:=aa e λq e1 e2=>by
 cases h:mY q with
 |false=>rw[h]at e2;exact no e2
 |true=>rw[h]at e2;exact aq e2▸⟨e1,h⟩
def Bp(b:oN sc)(np nl:Nat)(Φ:bO)(f:Nat):List PV->List Slot->Option PV:=
 Nat.rec (motive:=λ_=>List PV->List Slot->Option PV) (λ_ _=>none) (λ_ r ps σ=>bif Nat.beq ps.length np then(λσ₀=>(b.t.ev Φ σ₀).bind λk=>bif k then o6 (b.base.ev Φ σ₀)else
  (nextOf (b.rest.ex Φ σ₀)).bind λσ₁=>bif noOwn (σ₁.drop (np+nl))&&(cK σ₁ b.i1 0&&cK σ₁ b.i2 0)then(ig Φ σ₁ b.a1).bind λp=>(o6 (r p (σ₁.drop (np+nl)))).bind λv=>(b.sh.ev Φ σ₁).bind λu=>(ym.f v u).bind λw=>(ig Φ σ₁ b.a2).bind λq=>(o6 (r q (σ₁.drop (np+nl)))).bind λz=>o6 (aX.f w z)else none)
  (ps.map Slot.val++List.replicate nl .unset++σ)else none) f
section
variable{Z:Fr}{F:Addr}{fd:FuncData}{cV:Scope}{par loc:List Str}
theorem Fq(b:oN (dw sc cV (par++loc)))(K:mS fd par loc b.sts cV Z.env)(hfree:∀x,(x,NameKind.free)∈cV.names->sc.N.lookup x=some .cell\/sc.N.lookup x=some .free)(EO:bq Z.env sc Z.ls)(hnm:Z.X.nm=sc.nm)(nt:sc.top=false)(hP:∀Ar d,bD Ar d->Pf Z.X Z.Φ Ar d)
  (hal:Z.ls.length<=Z.ow) (hw:Z.wr=0) (hx:Z.fx 0=.ref F):∀(f:Nat) {Ar:Around} {B:Addr->Prop} {σ:List Slot} {ws:Nat->Option Value} {s:Shared} {ps:List PV} {r:PV} {vs:List Value} {Q:Value->Shared->Prop} {E:Value->Shared->Prop},
  Dy (Z.re Ar f B λ_=>False) σ ws s->aN Z.X s.heap F fd->Internal.af s.heap B ps vs->Bp b par.length loc.length Z.Φ f ps σ=some r->mY r=true->(∀v s',aJ Z.X Z.X.V s s'->(∀h B,Internal.Rep h B r v)->Q v s')->wpAny Z.X.M Ar (call (.ref F) vs) Q E s:=by
 intro f
 induction f with
 |zero=>intro _ _ _ _ _ _ _ _ _ _ _ _ _ e;exact no e
 |succ f ih=>
  intro Ar B σ ws s ps r vs Q E D st rl e hr h
  obtain⟨hv1,hv2⟩:=both b.h
  have e:(bif Nat.beq ps.length par.length then _ else _)=some r:=e
  cases hl:Nat.beq ps.length par.length with
  |false=>rw[hl]at e;exact no e
  |true=>
   rw[hl]at e
   obtain⟨o,ho,hod⟩:=st.obj
   refine o8 (Z:=Z.re Ar (f+1) B λ_=>False) ⟨⟨D,hP _ _ D.R,EO,hnm,λh=>nomatch (nt.symm.trans h)⟩,hal⟩ rfl ho hod st.xK K hfree rl (Nat.eq_of_beq_eq_true hl) λenv C bB s₂ he Mg y hC D₂ E'=>?_
   have aD:Ex ((Z.clos (Ar.deeper env) f env C (par++loc)).bu (λa=>B a/\a≠C) λa=>False\/a=C) (dw sc cV (par++loc)) _ bB s₂:=qM K.blank hP hnm Mg D₂
   have hls:=(D.wD hC.1).1
   have nv:(par++loc).length=par.length+loc.length:=ay
   have Nx:F≠C:=λq=>ah (q▸hC.1) ⟨o,ho⟩
   have y':aJ Z.X Z.X.V s s₂:=y.weak λa v=>⟨v,λu=>u⟩
   have fin:∀{v:Value} {s₃:Shared} {ir ia:Addr->Prop},aI ((Z.clos (Ar.deeper env) f env C (par++loc)).bu (λa=>B a/\a≠C) λa=>False\/a=C) s₂ s₃ ir ia->(∀h B,Internal.Rep h B r v)->Q v s₃:=λg q=>
    h _ _ (y'.on g.x (λa o v e=>⟨v,λu=>u.elim id λq=>ah (q▸hC.1) ⟨o,e⟩⟩) y'.size) q
   refine aa e λk e1 e=>wpAny_execs_cons (wpAny_If (b.t.go aD.toEv e1 λs₃ x₃ fW=>?_))
   have qg:=aD.step x₃
   have tK:aI ((Z.clos (Ar.deeper env) f env C (par++loc)).bu (λa=>B a/\a≠C) λa=>False\/a=C) s₂ s₃ _ _:=aI.of x₃.toK qg.toDy
   cases k with
   |true=>
    obtain⟨e2,_⟩:=fj e
    exact wpAny_execs_cons (wpAny_Return_some (b.base.go (Z:=(Z.clos (Ar.deeper env) f env C (par++loc)).bu (λa=>B a/\a≠C) λa=>False\/a=C) fW e2 λv s₄ lI dZ Ld=>fin (tK.trans aD.toDy (aI.of lI.toK dZ.toDy)) λh B=>jF hr Ld))
   |false=>
    refine aa e λσ₁ e2 e=>wpAny_execs_nil ?_
    rw[jP]
    refine wpAny_bind ((b.rest.ok qg (eZ e2)) _ _ λfl s₄ mR oR Cm en=>?_)
    obtain⟨rfl,HM,dZ⟩:=en
    have uT:=tK.trans aD.toDy Cm
    cases hb:noOwn (σ₁.drop (par.length+loc.length))&&(cK σ₁ b.i1 0&&cK σ₁ b.i2 0)with
    |false=>rw[hb]at e;exact no e
    |true=>
     rw[hb]at e
     obtain⟨n1,t⟩:=both hb
     obtain⟨t1,t2⟩:=both t
     refine aa e λp e3 e=>aa e λv e4 e=>aa e λu e5 e=>aa e λw e6 e=>aa e λq e7 e=>aa e λz e8 e9=>?_
     have hns:∀{s₅:Shared},aJ Z.X Z.X.V s₄ s₅->Z.X.N<=Z.env.locals/\∃m,s₅.heap.Ns Z.env.locals m:=λx=>⟨D.eV.1,D.eV.2.imp λm q=>q.at' λo e=>x.off _ o (.inl D.eV.1) (uT.x.off _ o ⟨.inl D.eV.1,λu=>u.elim id λq=>ah hC.1 ⟨o,q▸e⟩⟩ (y'.off _ o (.inl D.eV.1) e))⟩
     have out:∀{s₅:Shared},aJ Z.X Z.X.V s₄ s₅->Ev ((Z.clos (Ar.deeper env) f env C (par++loc)).bu mR oR) (dw sc cV (par++loc)) σ₁ HM s₅->Dy (Z.re (Ar.deeper env) f mR λ_=>False) (σ₁.drop (par.length+loc.length)) (λi=>HM ((par++loc).length+i)) s₅:=λuM mX=>by
      have l:=mX.len
      rw[show((Z.clos (Ar.deeper env) f env C (par++loc)).bu mR oR).ls=(par++loc).map (Loc.loc C)++Z.ls from rfl,ay,List.length_map]at l
      exact Dy.VS (Dy.outer (τ:=σ₁.take (par.length+loc.length)) (by rw[List.take_append_drop];exact mX.toDy) (by rw[List.length_take,nv];exact Nat.min_eq_left (by rw[<-l,nv];exact Nat.le_add_right _ _)) (hns uM) hls he) hw (j4 n1)
     have oG:aN Z.X s₂.heap F fd:=st.dy (Z:=Z.re Ar (f+1) B λ_=>False) D id y
     have lY:aN Z.X s₄.heap F fd:=oG.dy (Z:=(Z.clos (Ar.deeper env) f env C (par++loc)).bu (λa=>B a/\a≠C) λa=>False\/a=C) aD.toDy (λu=>u.elim id Nx) uT.x
     unfold oN.last
     refine wpAny_execs_cons (wpAny_Return_some (wpAny_BinOp (wpAny_BinOp (iR (Z:=(Z.clos (Ar.deeper env) f env C (par++loc)).bu mR oR) dZ.toEv hv1 t1 hx lY e3 λO4 s₅ uM mX Eg DA=>?_))))
     refine ih (out uM mX) Eg DA (fj e4).1 (fj e4).2 λv₁ s₆ P4 rv₁=>?_
     refine b.sh.go (Z:=(Z.clos (Ar.deeper env) f env C (par++loc)).bu mR oR) (mX.step P4) e5 λv₂ s₇ LV se Sb=>?_
     refine(ym.ok se.toBs (rv₁ _ _) Sb e6) _ _ λv₃ s₈ HR Sd=>?_
     have LX:aJ Z.X Z.X.V s₄ s₈:=uM.trans (P4.trans (LV.trans HR))
     refine iR (Z:=(Z.clos (Ar.deeper env) f env C (par++loc)).bu mR oR) (se.step HR) hv2 t2 hx (lY.stp LX) e7 λUd Wd LW yZ OA Om=>?_
     refine ih (out (LX.trans LW) yZ) OA Om (fj e8).1 (fj e8).2 λWe s₁ x₁ Oo=>?_
     have aj:=yZ.step x₁
     refine(aX.ok aj.toBs ((Fr.Rep.stp Sd yZ.sub LW).stp yZ.sub x₁) (Oo _ _) (fj e9).1) _ _ λWf s₀ x₀ r₀=>?_
     exact fin (uT.trans aD.toDy (aI.of (Z:=(Z.clos (Ar.deeper env) f env C (par++loc)).bu mR oR) (aJ.toK (Z:=(Z.clos (Ar.deeper env) f env C (par++loc)).bu mR oR) (LX.trans (LW.trans (x₁.trans x₀)))) (aj.step x₀).toDy)) λh B=>jF hr r₀
end
end
section
variable{Z:Fr}{s:Shared}{a:Addr}{xs:List PV}{vs:List Value}{n:Nat}{c:Int}{u:Tok}
theorem GH(ha:s.heap.get? a=some (aU vs n))(ra:Z.af s.heap xs vs)(h1:few c=true)(h2:fits (xs.length*c.toNat)=true){Q:Value->Shared->Prop}{E:Value->Shared->Prop}(h:Q (.ref s.heap.objs.size) {s with heap:=s.heap.push (aU (List.replicate c.toNat vs).flatten 0),toks:=s.toks}):
  wpAny Z.X.M Z.Ar (binaryOp .Mult (.ref a) (.int c u)) Q E s:=
 wpAny_binaryOp_repeat_ref (T:="list") (U:="int") (by decide) ⟨_,ha,rfl⟩ (λs'=>typeIs_int s' c u) noFill_list_mul F.fills_int_mul F.slot_int_rmul repeat_list F.slot_int_index.lookup
  (call_meets F.slot_int_rmul (typeIs_int s c u) F.entry_int_rmul (F.args_int_rmul_2 _ _) (int___rmul___int_list c u a vs.toArray n)
   ⟨ha,rfl,⟨_,ha,rfl⟩,call_meets F.slot_list_mul ⟨_,ha,rfl⟩ F.entry_list_mul (F.args_list_mul_2 _ _)
    (AutoListH.list___mul___list_int_3 a vs.toArray n c u (fitsIdx (qV h1).1 (BV h1)) (by rw[ra.size];exact Nat.not_lt.mpr (Nat.le_trans (aQ h2) (by decide)))
     (by rw[ra.size];exact uc (aQ h2)))
    ⟨ha,uw vs c.toNat▸h⟩⟩)
end
section
variable{sc:SC}
def SO.rep(x:SE sc)(i:SE sc)(p:Pos):SO sc:=⟨.BinOp x.e .Mult i.e p,λΦ σ=>(x.ev Φ σ).bind λq=>q.gw.bind λxs=>(i.ev Φ σ).bind λj=>j.int?.bind λc=>bif few c&&fits (xs.length*c.toNat)then some (List.replicate c.toNat xs).flatten else none,
 λ{Z σ ws s ys} V e Q E h=>aa e λq e1 e=>aa e λxs e2 e=>aa e λj e3 e=>aa e λc e4 e=>by
  cases hc:few c&&fits (xs.length*c.toNat)with
  |false=>rw[hc]at e;exact no e
  |true=>
   rw[hc]at e
   obtain rfl:=aq e
   refine wpAny_BinOp (x.go V e1 λv s₁ x₁ aj r₁=>i.go aj e3 λw s₂ x₂ aD r₂=>?_)
   obtain⟨t,rfl⟩:=cQ.rd r₂ e4
   refine(r₁.stp aj.sub x₂).lst e2 (M:=λv=>wpAny Z.X.M Z.Ar (binaryOp .Mult v (.int c t)) Q E s₂) λa n vs _ g rl=>GH g rl (both hc).1 (both hc).2 ?_
   have z:s.heap.get? s₂.heap.objs.size=none:=(x₁.trans x₂).live (.inl (aD.K.size _ aD.g)) (bL _)
   exact h _ _ 0 _ ((x₁.trans x₂).trans aD.toBs.push) z (aD.K.size _ aD.g) (Heap.get?_push_size _ rfl) (Internal.af.move (λb o k e=>⟨⟨k,λz=>ah (z▸bL _) ⟨o,e⟩⟩,Heap.get?_push_of_some _ e⟩) (Internal.af.rep rl c.toNat))⟩
end
noncomputable def mU(X:Cx)(code:Value)(name:Str)(params:Arguments)(body:List Stmt)(scope:Scope)(pos:Pos)(qual:Str):Prop:=
 ∀(Ar:Around) (env:Env) (clos:List (Str×Addr)) (s:Shared) (Q:Value->Shared->Prop) (E:Value->Shared->Prop),X.G s.heap->env.globals=mainGlobals->env.code=code->closureFor scope env=pure clos->
  (∀F fd s',aJ X X.V s s'->s.heap.get? F=none->aN X s'.heap F fd->(∃doc pm cd ctv,fd=fnX name qual params body scope clos .none .none doc pm none cd ctv)->Q (.ref F) s')->
  wpAny X.M Ar (makeFunction name qual params (.stmts body) scope env [] [] [] pos pos.line) Q E s
def i8(σ:List Slot):Bool:=σ.all λt=>Slot.casesOn (motive:=λ_=>Bool) t true (λ_=>true) (λ_=>true) λ_=>false
theorem Dy.fixed{Z:Fr}{σ:List Slot}{ws:Nat->Option Value}{s:Shared}(D:Dy Z σ ws s)(h:i8 σ=true)(fx:Nat->Value):Dy {Z with fx:=fx} σ ws s:=
 {K:=D.K,R:=D.R,g:=D.g,fresh:=D.fresh,sub:=D.sub,eU:=D.eU,turn:=D.turn,len:=D.len,pl:=D.pl,hi:=D.hi,mine:=D.mine,dI:=D.dI,apart:=D.apart,eV:=D.eV,once:=D.once
  ok:=λi t e=>by
   have q:=D.ok i t e
   have c:=List.all_eq_true.mp h t (List.mem_of_getElem? e)
   cases t with
   |unset=>trivial
   |val p=>exact q
   |own xs=>exact q
   |is k=>exact nomatch c}
section
variable{sc:SC}{Z:Fr}{σ:List Slot}{ws:Nat->Option Value}{s:Shared}{Q:Flow->Shared->Prop}{E:Value->Shared->Prop}
theorem tZ{t:Tg}{ip:Arguments}{ib:List Stmt}{cV:Scope}{ipos:Pos}{qual:Str}{code:Value}(V:Ex Z sc σ ws s)(ht:i8 σ=true)(h:t.ok sc=true)(hs:i0 sc cV=true)(hd:ip.defaults=[])(hk:ip.kw_defaults=[])(ha:annTrees ip none Z.env=[])
  (hq:qualnameIn Z.env t.x t.x=qual) (hc:Z.env.code=code) (mk:mU Z.X code t.x ip ib cV ipos qual)
  (k:∀F fd dH s',aJ Z.X Z.K s s'->aN Z.X s'.heap F fd->¬Z.U F->(∃doc pm cd ctv,fd=fnX t.x qual ip ib cV (handed cV.names Z.env) .none .none doc pm none cd ctv)->Ex {Z with fx:=λ_=>.ref F} sc (σ.set t.i (.is 0)) dH s'->Q .next s'):
  wpAny Z.X.M Z.Ar (exec (.FunctionDef t.x ip ib [] none [] cV none t.x ipos) Z.env) Q E s:=by
 refine nestDef_K hd hk ha ?_
 rw[hq]
 refine mk Z.Ar Z.env _ s _ _ V.g V.EO.glob hc (ny V.EO (fD hs)) λF fd s₁ x₁ hF st hfd=>?_
 have D₁:=(V.toDy.step x₁).fixed ht λ_=>.ref F
 refine store (Z:={Z with fx:=λ_=>.ref F}) D₁ V.EO (t:=.is 0) h (V.to _ _ h) rfl (λ_ z=>nomatch z) λs₂ x₂ D₂=>?_
 have nU:=V.N8 hF
 exact k F fd _ s₂ (x₁.toK.trans x₂) (st.dy (V.toDy.step x₁) nU x₂) nU hfd ⟨⟨⟨D₂,V.P,V.EO,V.nm,V.fr⟩,V.al⟩,V.to⟩
end
section
variable{sc:SC}
structure qd(sc:SC)(ib:List Stmt)where
 t:Tg
 ip:Arguments
 cV:Scope
 ipos:Pos
def qd.st{ib:List Stmt}(n:qd sc ib):Stmt:=.FunctionDef n.t.x n.ip ib [] none [] n.cV none n.t.x n.ipos
structure gJ{ib:List Stmt}(n:qd sc ib)(par loc:List Str):Prop where
 nt:sc.top=false
 tok:n.t.ok sc=true
 cell:sc.N.lookup n.t.x=some .cell
 Ow:i0 sc n.cV=true
 dflt:n.ip.defaults=[]
 kwd:n.ip.kw_defaults=[]
 ann:∀env,annTrees n.ip none env=[]
 co:n.cV.isCoroutine=false
 gen:n.cV.isGenerator=false
 nodup:(par++loc).Nodup
 locs:∀x∈par++loc,n.cV.names.lookup x=some .local
 wC:∀x k,(x,k)∈n.cV.names->k≠NameKind.cell
 blank:n.cV.names.lookup ("":Str)=none
 pos:0<(par++loc).length
 bind:∀qual clos doc pm cd ctv (vs:List Value),vs.length=par.length->bindArgs (fnX n.t.x qual n.ip ib n.cV clos .none .none doc pm none cd ctv) ⟨vs,[]⟩=pure (par.zip vs)
theorem gJ.clos{ib:List Stmt}{n:qd sc ib}{par loc:List Str}(N:gJ n par loc){env:Env}{ls:List Loc}(EO:bq env sc ls){qual:Str}{doc pm cd ctv:Value}:mS (fnX n.t.x qual n.ip ib n.cV (handed n.cV.names env) .none .none doc pm none cd ctv) par loc ib n.cV env:=
 have S:=fD N.Ow
 ⟨rfl,S.kind,N.co,N.gen,rfl,rfl,rfl,λx m=>ji EO S m,N.nodup,N.locs,N.wC,N.blank,N.bind _ _ _ _ _ _⟩
end
structure jA(sc:SC)(par loc:List Str)where
 first:SS sc
 cV:Scope
 b:uR (dw sc cV (par++loc))
 t:Tg
 ip:Arguments
 ipos:Pos
 uJ:SB sc
 i:Nat
 y:Str
 as:List (SE sc)
 p1:Pos
 p2:Pos
 p3:Pos
 p4:Pos
 last:SL sc
 h:isVar sc i y=true
section
variable{sc:SC}{par loc:List Str}
def jA.nest(x:jA sc par loc):qd sc x.b.sts:=⟨x.t,x.ip,x.cV,x.ipos⟩
def jA.sts(x:jA sc par loc):List Stmt:=x.first.st::x.nest.st::.If x.uJ.e [vv x.y x.p1 x.p2 x.p3 x.as] [] x.p4::x.last.sts
def jA.ex(x:jA sc par loc)(f:Nat)(Φ:bO)(σ:List Slot):Option Out:=(nextOf (x.first.ex Φ σ)).bind λσ₁=>bif i8 σ₁ then(λσ₂=>(x.uJ.ev Φ σ₂).bind λk=>(bif k then bif cK σ₂ x.i 0 then(ig Φ σ₂ x.as).bind λp=>Io x.b par.length loc.length Φ f p σ₂ else none else some σ₂).bind (x.last.ex Φ)) (σ₁.set x.t.i (.is 0))else none
inductive qb(Z:Fr)(sc:SC)(s:Shared)(o:Out)(fl:Flow)(s':Shared):Prop
 |mk (B U:Addr->Prop) (fx:Nat->Value) (g:aI Z s s' B U) (e:Ends ({Z with fx:=fx}.bu B U) sc o fl s'):qb Z sc s o fl s'
theorem jA.run(x:jA sc par loc){f:Nat}(N:gJ x.nest par loc){Z:Fr}{σ:List Slot}{ws:Nat->Option Value}{s:Shared}{o:Out}{code:Value}{qual:Str}(V:Ex Z sc σ ws s)(hP:∀Ar d,bD Ar d->Pf Z.X Z.Φ Ar d)(hf:f<=Z.d)(hL:∃y,Loc.loc Z.env.locals y∈Z.ls)(hq:qualnameIn Z.env x.t.x x.t.x=qual)(hc:Z.env.code=code)
  (mk:mU Z.X code x.t.x x.ip x.b.sts x.cV x.ipos qual) (e:x.ex f Z.Φ σ=some o) {E:Value->Shared->Prop}:
  wpAny Z.X.M Z.Ar (execs x.sts Z.env) (qb Z sc s o) E s:=by
 refine aa e λσ₁ e1 e=>?_
 cases ht:i8 σ₁ with
 |false=>rw[ht]at e;exact no e
 |true=>
  rw[ht]at e
  refine aa e λk e2 e=>aa e λσ₃ e3 e4=>?_
  refine wpAny_execs_cons ((x.first.ok V (eZ e1)) _ _ λfl s₁ fH ja g₁ en=>?_)
  obtain⟨rfl,w₁,aj⟩:=en
  refine wpAny_execs_cons (tZ (Z:=Z.bu fH ja) (t:=x.t) aj ht N.tok N.Ow N.dflt N.kwd (N.ann _) hq hc mk λF fd w₂ s₂ x₂ st nU hfd aD=>?_)
  obtain⟨doc,pm,cd,ctv,rfl⟩:=hfd
  have g₂:=g₁.trans V.toDy ((⟨x₂,λa u=>.inl u,λa b=>.inl b,λa o b _=>b,aD.toDy.live⟩:aI (Z.bu fH ja) s₁ s₂ fH ja))
  refine wpAny_execs_cons (wpAny_If (x.uJ.go (Z:={Z with fx:=λ_=>.ref F}.bu fH ja) aD.toEv e2 λs₃ x₃ fW=>?_))
  have qg:=aD.step x₃
  have tK:aI Z s s₃ fH ja:=g₂.trans V.toDy ((⟨x₃.weak λa k=>k.1,λa u=>.inl u,λa b=>.inl b,λa o b _=>b,qg.toDy.live⟩:aI (Z.bu fH ja) s₂ s₃ fH ja))
  have fin:∀{s₄:Shared} {B U:Addr->Prop} {w:Nat->Option Value},aI Z s s₄ B U->Ex ({Z with fx:=λ_=>.ref F}.bu B U) sc σ₃ w s₄->wpAny Z.X.M Z.Ar (execs x.last.sts Z.env) (qb Z sc s o) E s₄:=λg dZ=>
   (x.last.ok dZ e4) _ _ λfl s₅ Ma Ms nP en=>⟨Ma,Ms,_,g.trans V.toDy ⟨nP.x,nP.hU,nP.hB,nP.kB,nP.al⟩,en⟩
  cases k with
  |false=>
   obtain rfl:=aq e3
   exact wpAny_execs_nil (fin tK qg)
  |true=>
   have e3:(bif cK (σ₁.set x.t.i (.is 0)) x.i 0 then _ else _)=some σ₃:=e3
   cases ti:cK (σ₁.set x.t.i (.is 0)) x.i 0 with
   |false=>rw[ti]at e3;exact no e3
   |true=>
    rw[ti]at e3
    refine aa e3 λp e5 e6=>?_
    have hin:interactive Z.env=false:=by unfold interactive;rw[show Z.env.scope.kind=.function from V.EO.kind];rfl
    refine wpAny_execs_cons ?_
    rw[exec_Expr Z.env _ _ hin (by rfl)]
    refine wpAny_bind (wpAny_standAt (wpAny_bind (iR (Z:={Z with fx:=λ_=>.ref F}.bu fH ja) fW x.h ti rfl (st.stp x₃) e5 λvs s₄ lI dZ lY rl=>?_)))
    have S:=fD N.Ow
    refine JE (Z:={Z with fx:=λ_=>.ref F}.bu fH ja) x.b (N.clos V.EO) (λy m=>(S.free y m).2) V.EO V.nm N.nt hP hL V.al rfl N.pos f (B:=fH) (U:=ja) {dZ.toDy with R:=V.R.less hf} lY nU rl e6 λs₅ Ma Ms Wg nP Qq=>?_
    refine wpAny_dropValue (wpAny_execs_nil (fin ?_ ⟨⟨⟨{Qq with R:=V.R},V.P,V.EO,V.nm,V.fr⟩,V.al⟩,V.to⟩))
    exact(tK.trans V.toDy (⟨lI.weak λa k=>k.1,λa u=>.inl u,λa b=>.inl b,λa o b _=>b,dZ.toDy.live⟩:aI (Z.bu fH ja) s₃ s₄ fH ja)).trans V.toDy ⟨nP.x,nP.hU,nP.hB,nP.kB,nP.al⟩
end
section
variable{nm:oQ}{Z:Fr}{s:Shared}{ps:List PV}{vs:List Value}{r:PV}{a:Addr}{fd:FuncData}{D:dY}{d f:Nat}{par loc:List Str}
def nF(D:dY)(x:jA (D.sc nm) par loc)(f:Nat)(Φ:bO)(ps:List PV):Option PV:=bif Nat.beq ps.length D.params.length then(x.ex f Φ (D.slots ps)).bind λo=>Out.casesOn (motive:=λ_=>Option PV) o (λ_=>some .none) (λ_=>none) some else none
theorem FH{x:jA (D.sc nm) par loc}(N:gJ x.nest par loc)(V:Bs Z s)(A:FnAt Z.X a fd)(DO:dJ fd D x.sts)(hd:Z.d=d+1)(hf:f<=d)(hnm:Z.X.nm=nm)(P:∀Ar d,bD Ar d->Pf Z.X Z.Φ Ar d)(hl:∃y∈D.params++D.locals,D.names.lookup y=some .local)
  (mk:mU Z.X fd.code x.t.x x.ip x.b.sts x.cV x.ipos (fd.qualname++".<locals>."++x.t.x)) (rl:Z.af s.heap ps vs) (e:nF D x f Z.Φ ps=some r):aY Z s r (call (.ref a) vs):=by
 unfold nF at e
 cases hl':Nat.beq ps.length D.params.length with
 |false=>rw[hl']at e;exact no e
 |true=>
  rw[hl']at e
  refine aa e λo e1 e2=>qQ (nm:=nm) V A DO hd rl (Nat.eq_of_beq_eq_true hl') λenv cs C ws s₂ he _ _ hi EO y D₂ E=>?_
  have hC:env.locals=C:=by rw[he];rfl
  refine wpAny_mono (x.run (f:=f) N (gq EO hnm D₂ (P _ _ D₂.R) λh=>nomatch (N.nt.symm.trans h)) P hf (hl.imp λy q=>?_) (qual:=fd.qualname++".<locals>."++x.t.x) (code:=fd.code) ?_ (by show env.code=_;rw[he];rfl) mk e1) (λfl s₃ q=>?_) λ_ _ e=>e
  ·refine List.mem_map.mpr ⟨y,q.1,?_⟩
   unfold aT
   rw[q.2]
   show Loc.loc C y=Loc.loc env.locals y
   rw[hC]
  ·show qualnameIn env x.t.x x.t.x=_
   unfold qualnameIn
   have:env.kindOf x.t.x=some .cell:=by
    show env.scope.names.lookup x.t.x=_
    rw[EO.names];exact N.cell
   rw[this,he]
   rfl
  ·obtain⟨B,U,fx,g,en⟩:=q
   refine⟨B,U,g,?_⟩
   cases o with
   |next σ=>exact .inl ⟨en.1,(aq e2).symm⟩
   |brk σ=>exact no e2
   |ret p=>
    obtain⟨v,hv,rv⟩:=en
    exact .inr ⟨v,hv,aq e2▸rv⟩
end
structure jq(sc:SC)(par loc:List Str)where
 cV:Scope
 b:oN (dw sc cV (par++loc))
 t:Tg
 ip:Arguments
 ipos:Pos
 uJ:SB sc
 els:SE sc
 i:Nat
 y:Str
 as:List (SE sc)
 p1:Pos
 p2:Pos
 p3:Pos
 p4:Pos
 h:isVar sc i y=true
section
variable{sc:SC}{par loc:List Str}
def jq.nest(x:jq sc par loc):qd sc x.b.sts:=⟨x.t,x.ip,x.cV,x.ipos⟩
def jq.sts(x:jq sc par loc):List Stmt:=[x.nest.st,.Return (some (.IfExp x.uJ.e (.Call (.Name x.y x.p1) (exprs x.as) [] x.p2) x.els.e x.p3)) x.p4]
def jq.val(x:jq sc par loc)(f:Nat)(Φ:bO)(σ:List Slot):Option PV:=bif i8 σ then(λσ₂=>(x.uJ.ev Φ σ₂).bind λk=>o6 (bif k then bif cK σ₂ x.i 0&&noOwn σ₂ then(ig Φ σ₂ x.as).bind λp=>Bp x.b par.length loc.length Φ f p σ₂ else none else x.els.ev Φ σ₂)) (σ.set x.t.i (.is 0))else none
theorem jq.run(x:jq sc par loc){f:Nat}(N:gJ x.nest par loc){Z:Fr}{σ:List Slot}{ws:Nat->Option Value}{s:Shared}{r:PV}{code:Value}{qual:Str}(V:Ex Z sc σ ws s)(hP:∀Ar d,bD Ar d->Pf Z.X Z.Φ Ar d)(hf:f<=Z.d)(hq:qualnameIn Z.env x.t.x x.t.x=qual)(hc:Z.env.code=code)
  (mk:mU Z.X code x.t.x x.ip x.b.sts x.cV x.ipos qual) (e:x.val f Z.Φ σ=some r) {E:Value->Shared->Prop}:
  wpAny Z.X.M Z.Ar (execs x.sts Z.env) (λfl s'=>aI Z s s' Z.B Z.U/\∃v,fl=.ret v/\∀h B,Internal.Rep h B r v) E s:=by
 unfold jq.val at e
 cases ht:i8 σ with
 |false=>rw[ht]at e;exact no e
 |true=>
  rw[ht]at e
  refine aa e λk e2 e=>?_
  obtain⟨e3,hr⟩:=fj e
  refine wpAny_execs_cons (tZ (t:=x.t) V ht N.tok N.Ow N.dflt N.kwd (N.ann _) hq hc mk λF fd w₂ s₂ x₂ st nU hfd aD=>?_)
  obtain⟨doc,pm,cd,ctv,rfl⟩:=hfd
  have g₂:aI Z s s₂ Z.B Z.U:=⟨x₂,λa u=>.inl u,λa b=>.inl b,λa o b _=>b,aD.toDy.live⟩
  have fin:∀{s₃:Shared} {v:Value},aJ Z.X Z.X.V s₂ s₃->(∀h B,Internal.Rep h B r v)->aI Z s s₃ Z.B Z.U/\∃v',Flow.ret v=.ret v'/\∀h B,Internal.Rep h B r v':=λy q=>
   ⟨g₂.trans V.toDy ⟨y.weak λa k=>k.1,λa u=>.inl u,λa b=>.inl b,λa o b _=>b,(aD.step y).toDy.live⟩,_,rfl,q⟩
  refine wpAny_execs_cons (wpAny_Return_some (wpAny_IfExp (x.uJ.go (Z:={Z with fx:=λ_=>.ref F}) aD.toEv e2 λs₃ x₃ fW=>?_)))
  cases k with
  |false=>exact x.els.go (Z:={Z with fx:=λ_=>.ref F}) fW e3 λv s₄ lI dZ Ld=>fin (x₃.trans lI) λh B=>jF hr Ld
  |true=>
   have e3:(bif cK (σ.set x.t.i (.is 0)) x.i 0&&noOwn (σ.set x.t.i (.is 0))then _ else _)=some r:=e3
   cases ti:cK (σ.set x.t.i (.is 0)) x.i 0&&noOwn (σ.set x.t.i (.is 0))with
   |false=>rw[ti]at e3;exact no e3
   |true=>
    rw[ti]at e3
    obtain⟨t1,no⟩:=both ti
    refine aa e3 λp e5 e6=>?_
    have S:=fD N.Ow
    refine iR (Z:={Z with fx:=λ_=>.ref F}) fW x.h t1 rfl (st.stp x₃) e5 λvs s₄ lI dZ lY rl=>?_
    have Qp:Dy ({Z with fx:=λ_=>.ref F,wr:=0}.re Z.Ar f Z.B λ_=>False) (σ.set x.t.i (.is 0)) w₂ s₄:=
     {K:=dZ.K,R:=V.R.less hf,g:=dZ.g,fresh:=dZ.fresh,sub:=dZ.sub,eU:=λ_ u=>u.elim,turn:=λ_ u=>u.elim,len:=dZ.len,pl:=dZ.pl,hi:=dZ.hi,ok:=dZ.ok,mine:=λi l h=>absurd h (Nat.not_lt_zero i),dI:=λi xs a _ e=>absurd e (j4 no i xs),apart:=dZ.apart,eV:=dZ.eV,once:=dZ.once}
    refine Fq (Z:={Z with fx:=λ_=>.ref F,wr:=0}) x.b (N.clos V.EO) (λy m=>(S.free y m).2) V.EO V.nm N.nt hP V.al rfl rfl f Qp lY rl e6 hr λv s₅ uM rv=>?_
    exact fin (x₃.trans (lI.trans uM)) rv
end
section
variable{nm:oQ}{Z:Fr}{s:Shared}{ps:List PV}{vs:List Value}{r:PV}{a:Addr}{fd:FuncData}{D:dY}{d f:Nat}{par loc:List Str}
def nE(D:dY)(x:jq (D.sc nm) par loc)(f:Nat)(Φ:bO)(ps:List PV):Option PV:=bif Nat.beq ps.length D.params.length then x.val f Φ (D.slots ps)else none
theorem FG{x:jq (D.sc nm) par loc}(N:gJ x.nest par loc)(V:Bs Z s)(A:FnAt Z.X a fd)(DO:dJ fd D x.sts)(hd:Z.d=d+1)(hf:f<=d)(hnm:Z.X.nm=nm)(P:∀Ar d,bD Ar d->Pf Z.X Z.Φ Ar d)
  (mk:mU Z.X fd.code x.t.x x.ip x.b.sts x.cV x.ipos (fd.qualname++".<locals>."++x.t.x)) (rl:Z.af s.heap ps vs) (e:nE D x f Z.Φ ps=some r):aY Z s r (call (.ref a) vs):=by
 unfold nE at e
 cases hl':Nat.beq ps.length D.params.length with
 |false=>rw[hl']at e;exact no e
 |true=>
  rw[hl']at e
  refine qQ (nm:=nm) V A DO hd rl (Nat.eq_of_beq_eq_true hl') λenv cs C ws s₂ he _ _ hi EO y D₂ E=>?_
  have hC:env.locals=C:=by rw[he];rfl
  refine wpAny_mono (x.run (f:=f) N (gq EO hnm D₂ (P _ _ D₂.R) λh=>nomatch (N.nt.symm.trans h)) P hf (qual:=fd.qualname++".<locals>."++x.t.x) (code:=fd.code) ?_ (by show env.code=_;rw[he];rfl) mk e) (λfl s₃ q=>?_) λ_ _ e=>e
  ·show qualnameIn env x.t.x x.t.x=_
   unfold qualnameIn
   have:env.kindOf x.t.x=some .cell:=by
    show env.scope.names.lookup x.t.x=_
    rw[EO.names];exact N.cell
   rw[this,he]
   rfl
  ·obtain⟨g,v,hv,rv⟩:=q
   exact⟨_,_,g,.inr ⟨v,hv,rv _ _⟩⟩
end
end Mine.Internal
end
section
open PySem PySem.W PyProof.Rows PySem.Calls Builtin Builtin.ObjectAttr
namespace Mine.Internal
section
variable{prog:Program}{w:World}{A:Around}{s:Shared}{K:Frag}{C x dx:Addr}{R:Result->Shared->Prop}
theorem yI{name:Str}{es:List DictEntry}{n:Nat}{hsh:Int}{key v:Value}(h1:∀e∈es,e.key.isStr name=false):Obj.putName name hsh key v (dictOf es n)=dictOf (es++[⟨hsh,key,v⟩]) (n+1):=by
 rw[Obj.putName_eq]
 show(match es.toArray.findIdx? (·.key.isStr name)with
  |some i=>(⟨_,_,.dict (es.toArray.modify i λe=>{e with val:=v}) n,_⟩:Obj)
  |none=>⟨_,_,.dict (es.toArray.push ⟨hsh,key,v⟩) (n+1),_⟩)=_
 have:es.toArray.findIdx? (·.key.isStr name)=none:=by
  rw[Array.findIdx?_eq_none_iff]
  intro e he
  exact h1 e (by simpa using he)
 rw[this]
 simp
theorem Hf{name:Str}{v:Value}{es:List DictEntry}{n:Nat}{Q:Unit->Shared->Prop}{E:Value->Shared->Prop}(X:K.In s.heap)(hx:s.heap.get? x=some (instObj C dx))(hd:s.heap.get? dx=some (dictOf es n))(hs:findIn K (.ref C) "__setattr__"=some (some (.builtin "object.__setattr__")))
  (hp:plainOver K C=true) (ht:takerIn K C name=some none) (hh:(clsIn K C).any (·.hasDict)=true) (h1:∀e∈es,e.key.isStr name=false) (h2:∀e∈es,e.refKey=false) (hz:es.length<=900)
  (h:∀h' tk hsh,h'.get? dx=some (dictOf (es++[⟨hsh,.str name tk,v⟩]) (n+1))->Heap.SameBut dx s.heap h'->Q () {s with heap:=h',toks:=s.toks+1+1}):wpAny (model prog w) A (setAttr (.ref x) name v) Q E s:=by
 have I:InstAt s.heap x (instObj C dx) C (some (dictOf es n)):=⟨hx,rfl,rfl,hd⟩
 refine set_plain X I hs (osa_open (s:={s with toks:=s.toks+1}) X I hp ht λb=>?_)
 obtain⟨cd,hc,hd'⟩:=any_some hh
 refine wpAny_bind (wpAny_pure (wpAny_bind (wpAny_bind (wpAny_loadPart hx (wpAny_bind (looks_clsIn X hc _ _ _ _ (λ_ _ e=>e) ?_))))))
 rw[hd']
 refine wpAny_pure (a:=some dx) (wpAny_bind (wpAny_pure (wpAny_bind ?_)))
 unfold nsSet
 refine wpAny_bind (wpAny_bind (wpAny_askSetting (wpAny_pure (wpAny_bind (wpAny_mkText (wpAny_bind (wpAny_loadPart hd ?_)))))))
 dsimp only
 have c:(!es.toArray.any (·.key.isStr name)&&es.toArray.any (·.refKey))=false:=by
  have:es.toArray.any (·.refKey)=false:=by
   rw[<-Array.any_toList,List.any_eq_false]
   intro e he
   rw[h2 e he];decide
  rw[this,Bool.and_false]
 rw[aRefKeyMayBeTheName_at,c]
 have hu:=Heap.get?_update_self (h:=s.heap) (Obj.putName name (PyData.keyHash w.params name) (.str name (s.toks+1)) v) hd (by rw[yI h1];rfl)
 rw[yI h1]at hu
 refine wpAny_updatePart hd ?_
 refine wpAny_bind (wpAny_lookBehind hu (pastItsLine_dict (by rw[List.size_toArray,ay,sizeLine_eq];simp;lia)) ?_)
 exact wpAny_pure (h _ _ _ hu (Heap.SameBut.update ..))
end
structure ER(K:Frag)(C fI:Addr):Prop where
 makes:makesIn K C=true
 ini:findIn K (.ref C) "__init__"=some (some (.ref fI))
 RM:typeIn K (.ref fI)=some (.type "function")
 sa:findIn K (.ref C) "__setattr__"=some (some (.builtin "object.__setattr__"))
 po:plainOver K C=true
 no:∀x∈fieldNames,findIn K (.ref C) x=some none
 hd:(clsIn K C).any (·.hasDict)=true
 ga:findIn K (.ref C) "__getattribute__"=some (some (.builtin "object.__getattribute__"))
 gk:findIn K (.ref C) "__getattr__"=some none
 rd:readsIn K C (.type "type")=true
 cS:∃t,findCls K (.ref C) (.type "type") "S"=some (.val (.str " " t))
 cT:∃t,findCls K (.ref C) (.type "type") "T"=some (.val (.str "\t" t))
theorem lookIn_dict{es:List DictEntry}{n:Nat}{x:Str}{v:Value}(h:nsFind es.toArray x=some v):lookIn x (dictOf es n)=some (some v):=by
 unfold nsFind findBy at h
 unfold lookIn
 dsimp only
 rw[<-Array.find?_toList]at h
 obtain⟨e,h1,h2⟩:=Option.map_eq_some_iff.mp h
 rw[h1];show some (some e.val)=_;rw[h2]
theorem vR{K:Frag}{C fI:Addr}(W:ER K C fI){es:List DictEntry}{n:Nat}{x:Str}{v:Value}(hx:x∈fieldNames)(h:nsFind es.toArray x=some v):findObj K C (some (dictOf es n)) x=some (.value v):=by
 obtain⟨cd,hc,hd⟩:=any_some W.hd
 refine(congrArg (Option.bind · _) hc).trans ((congrArg (Option.bind · _) (W.no x hx)).trans ?_)
 refine(congrArg (Option.bind · _) (show PySem.W.ownOf cd (some (dictOf es n)) x=some (some v)from ?_)).trans rfl
 unfold PySem.W.ownOf
 rw[if_pos hd]
 exact lookIn_dict h
theorem w9{K:Frag}{C fI:Addr}(W:ER K C fI){x:Str}(hx:x∈fieldNames):takerIn K C x=some none:=by
 unfold takerIn;rw[W.no x hx];rfl
theorem sj{X:Cx}{Ar:Around}{K:Frag}{C fI I dx:Addr}{s:Shared}{x:Str}{v:Value}{es:List DictEntry}{n:Nat}{expr:Bool}{Q:Value->Shared->Prop}{E:Value->Shared->Prop}(W:ER K C fI)(XK:K.In s.heap)(hI:s.heap.get? I=some (instObj C dx))(hd:s.heap.get? dx=some (dictOf es n))(hx:x∈fieldNames)(hf:nsFind es.toArray x=some v)(hh:handedIn v=true)
  (h:Q v {s with toks:=s.toks+1}):wpAny X.M Ar (getAttr (.ref I) x expr) Q E s:=
 get_value (ox:=instObj C dx) (od:=some (dictOf es n)) XK ⟨hI,rfl,rfl,hd⟩ W.ga (vR W hx hf) hh h
end Mine.Internal
end
section
open PySem PySem.W PyProof.Rows
namespace Mine.Internal
noncomputable def iw:List Str->List DictEntry->Prop
 | [],es=>es=[]
 |x::xs,es=>∃e r tk,es=e::r/\e.key=.str x tk/\iw xs r
theorem iw.app{nm:Str}{tk:Tok}{e:DictEntry}(h:e.key=.str nm tk):∀{xs:List Str} {es:List DictEntry},iw xs es->iw (xs++[nm]) (es++[e]):=by
 intro w
 induction w with
 |nil=>intro _ q;obtain rfl:=q;exact⟨e,[],tk,rfl,h,rfl⟩
 |cons x xs ih=>rintro _ ⟨e',r,tk',q,h',k⟩;obtain rfl:=q;exact⟨e',r++[e],tk',rfl,h',ih k⟩
theorem iw.RN{nm:Str}:∀{xs:List Str} {es:List DictEntry},iw xs es->xs.all (λx=>!(x==nm))=true->∀e∈es,e.key.isStr nm=false:=by
 intro w
 induction w with
 |nil=>intro _ q _ e m;obtain rfl:=q;exact nomatch m
 |cons x xs ih=>
  rintro _ ⟨e',r,tk,q,h,k⟩ hn e m
  obtain rfl:=q
  rcases eX m with rfl|m
  ·rw[h]
   exact not_eq (both (show(!(x==nm)&&xs.all λx=>!(x==nm))=true from hn)).1
  ·exact ih k (both hn).2 e m
theorem iw.plain:∀{xs:List Str} {es:List DictEntry},iw xs es->∀e∈es,e.refKey=false:=by
 intro w
 induction w with
 |nil=>intro _ q e m;obtain rfl:=q;exact nomatch m
 |cons x xs ih=>
  rintro _ ⟨e',r,tk,q,h,k⟩ e m
  obtain rfl:=q
  rcases eX m with rfl|m
  ·unfold DictEntry.refKey;rw[h]
  ·exact ih k e m
theorem iw.len:∀{xs:List Str} {es:List DictEntry},iw xs es->es.length=xs.length
 | [],_,q=>by obtain rfl:=q;rfl
 |x::xs,_,⟨e',r,tk,q,h,k⟩=>by obtain rfl:=q;exact congrArg (·+1) k.len
theorem iw.none{y:Str}:∀{xs:List Str} {es:List DictEntry},iw xs es->y∉xs->es.find? (·.key.isStr y)=none:=by
 intro w
 induction w with
 |nil=>intro _ q _;obtain rfl:=q;rfl
 |cons x xs ih=>
  rintro _ ⟨e',r,tk,q,h,k⟩ hn
  obtain rfl:=q
  rw[List.find?_cons_of_neg,ih k λm=>hn (f5 _ m)]
  rw[h]
  show¬(x==y)=true
  exactλz=>hn (eq_of_beq z▸eF)
theorem iw.first{x:Str}{xs:List Str}{es:List DictEntry}(k:iw (x::xs) es):∃e r,es=e::r/\nsFind es.toArray x=some e.val:=by
 obtain⟨e,r,tk,rfl,h,_⟩:=k
 refine⟨e,r,rfl,?_⟩
 unfold nsFind findBy
 rw[List.find?_toArray,List.find?_cons_of_pos]
 ·rfl
 ·rw[h];exact beq_self_eq_true x
theorem uf{e:DictEntry}{r:List DictEntry}{x y:Str}{tk:Tok}(h:e.key=.str x tk)(n:(x==y)=false):nsFind (e::r).toArray y=nsFind r.toArray y:=by
 unfold nsFind findBy
 rw[List.find?_toArray,List.find?_cons_of_neg,List.find?_toArray]
 rw[h]
 show¬(x==y)=true
 rw[n];decide
theorem iw.all:∀{xs:List Str} {es:List DictEntry},iw xs es->xs.Nodup->xs.map (nsFind es.toArray)=(es.map (·.val)).map some:=by
 intro w
 induction w with
 |nil=>intro _ q _;obtain rfl:=q;rfl
 |cons x xs ih=>
  intro _ k hn
  obtain⟨e',r',q',f⟩:=k.first
  obtain⟨e,r,tk,rfl,h,k⟩:=k
  obtain rfl:=(List.cons.inj q').1
  rw[List.map_cons,f,List.map_cons,List.map_cons,<-ih k (List.nodup_cons.mp hn).2]
  refine congrArg _ (List.map_congr_left λy m=>uf h ?_)
  exact beq_eq_false_iff_ne.mpr λq=>(List.nodup_cons.mp hn).1 (q▸m)
structure Inst(Z:Fr)(C I dx:Addr)(s:Shared)(xs:List Str)(ps:List PV):Prop where
 nI:Z.X.N<=I
 nd:Z.X.N<=dx
 bI:¬Z.B I
 bd:¬Z.B dx
 uI:¬Z.U I
 ud:¬Z.U dx
 ll:∀l∈Z.ls,l.addr≠dx
 le:Z.env.locals≠dx
 obj:s.heap.get? I=some (instObj C dx)
 es:∃es n,s.heap.get? dx=some (dictOf es n)/\iw xs es/\Z.af s.heap ps (es.map (·.val))
section
variable{sc:SC}{Z:Fr}{σ:List Slot}{ws:Nat->Option Value}{s s':Shared}{C I dx fI:Addr}{xs:List Str}{ps:List PV}{B U:Addr->Prop}{K:Frag}
theorem Inst.ne(i:Inst Z C I dx s xs ps):I≠dx:=λq=>by
 obtain⟨es,n,h,_⟩:=i.es
 rw[<-q,i.obj]at h
 exact nomatch h
theorem Inst.grow(i:Inst Z C I dx s xs ps)(D:Dy Z σ ws s)(g:aI Z s s' B U):Inst (Z.bu B U) C I dx s' xs ps:=by
 obtain⟨es,n,h,k,r⟩:=i.es
 have no:∀{a o},s.heap.get? a=some o->¬Z.B a->¬Z.U a->¬B a/\¬U a:=λe b u=>⟨λq=>(g.hB _ q).elim b λq=>q.elim u λq=>ah q.2 ⟨_,e⟩,λq=>(g.hU _ q).elim u λq=>ah q.2 ⟨_,e⟩⟩
 exact⟨i.nI,i.nd,(no i.obj i.bI i.uI).1,(no h i.bd i.ud).1,(no i.obj i.bI i.uI).2,(no h i.bd i.ud).2,i.ll,i.le,g.x.off _ _ ⟨.inl i.nI,i.uI⟩ i.obj,
  es,n,g.x.off _ _ ⟨.inl i.nd,i.ud⟩ h,k,Internal.af.move (λa o b e=>⟨g.kB a o b e,g.x.off a o ⟨D.sub a b,λu=>D.eU a u b⟩ e⟩) r⟩
structure AS(sc:SC)where
 v:SE sc
 nm:Str
 self:Str
 p0:Pos
 p1:Pos
 pos:Pos
 hv:isVar sc 0 self=true
noncomputable def AS.st(a:AS sc):Stmt:=.Assign [.Attribute (.Name a.self a.p0) a.nm a.p1] a.v.e a.pos
def AS.ev(a:AS sc)(Φ:bO)(σ:List Slot):Option PV:=bif cK σ 0 0 then a.v.ev Φ σ else none
theorem AS.ok(a:AS sc){p:PV}(V:Ex Z sc σ ws s)(i:Inst Z C I dx s xs ps)(W:ER K C fI)(hK:∀h,Z.X.G h->K.In h)(hfx:Z.fx 0=.ref I)(hnm:a.nm∈fieldNames)(hn:xs.all (λx=>!(x==a.nm))=true)(hz:xs.length<=900)(e:a.ev Z.Φ σ=some p)
  {Q:Flow->Shared->Prop} {E:Value->Shared->Prop} (h:∀s',aJ Z.X (λb=>Z.K b/\b≠dx) s s'->Ex Z sc σ ws s'->Inst Z C I dx s' (xs++[a.nm]) (ps++[p])->Q .next s'):wpAny Z.X.M Z.Ar (exec a.st Z.env) Q E s:=by
 unfold AS.ev at e
 cases ht:cK σ 0 0 with
 |false=>rw[ht]at e;exact no e
 |true=>
  rw[ht]at e
  refine wpAny_Assign_stores (a.v.go V.toEv e λv s₁ x₁ aj r₁=>?_) (by cases a.v.e<;>rfl) (by cases a.v.e<;>rfl)
  have aj:=V.step x₁
  have g₀:aI Z s s₁ Z.B Z.U:=.of x₁.toK aj.toDy
  have i₁:Inst Z C I dx s₁ xs ps:=i.grow V.toDy g₀
  show wpAny Z.X.M Z.Ar (assign (.Attribute (.Name a.self a.p0) a.nm a.p1) Z.env v) _ _ s₁
  rw[arm_assign_Attribute]
  have hw:ws 0=some (.ref I):=hfx▸aj.ok 0 _ (nT ht)
  refine wpAny_bind (wpAny_holding (CW aj.toEv a.hv hw ?_))
  refine wpAny_bind (wpAny_standAt ?_)
  obtain⟨es,n,hd,k,rl⟩:=i₁.es
  refine wpAny_bind (wpAny_holding (Hf (hK _ aj.g) i₁.obj hd W.sa W.po (w9 W hnm) W.hd (k.RN hn) k.plain (by rw[k.len];exact hz) λh' tk hsh q1 q2=>?_))
  refine wpAny_release ?_
  have kp:∀b o,b≠dx->s₁.heap.get? b=some o->h'.get? b=some o:=λb o n e=>q2.extBut b o n e
  have G:Z.X.G s₁.heap->Z.X.G h':=λg=>V.K.Gk _ _ (λb=>b=dx) g (λb q=>q▸⟨i.nd,_,hd,.inl (by simp)⟩) kp
  have D₂:Dy Z σ ws {s₁ with heap:=h',toks:=s₁.toks+1+1}:=aj.toDy.to (s':={s₁ with heap:=h',toks:=s₁.toks+1+1}) (Y:=λb=>b=dx) ⟨i.ll,i.le,λj ys b e1 e2 q=>?_⟩ (G aj.g) (λb n e=>aj.fresh b n ?_) aj.sub aj.eU (λb u=>⟨(aj.turn b u).1,(aj.turn b u).2.imp λo q=>⟨kp b o (λz=>i.ud (z▸u)) q.1,q.2⟩⟩)
   (λb o q e=>⟨q,kp b o (λz=>i.bd (z▸q)) e⟩) (λb o _ n e=>kp b o n e) λb u=>u
  ·exact h _ ((x₁.weak λb k=>k.1.1).on (K':=λb=>b≠dx) ⟨kp,G,λ_ _ _ e=>e,id,rfl⟩ (λb o k e=>k.2) x₁.size) (aj.val D₂) ⟨i.nI,i.nd,i.bI,i.bd,i.uI,i.ud,i.ll,i.le,kp _ _ i₁.ne i₁.obj,_,_,q1,k.app rfl,by
    rw[List.map_append]
    exact af.append (af.cons (Internal.Rep.move r₁ λb o q e=>⟨q,kp b o (λz=>i.bd (z▸q)) e⟩) af.nil) (Internal.af.move (λb o q e=>⟨q,kp b o (λz=>i.bd (z▸q)) e⟩) rl)⟩
  ·obtain⟨v',us,h1,⟨b',m,rfl,h2,h3⟩,_⟩:=aj.ok j _ e1
   rw[h1]at e2
   injection e2 with e2
   injection e2 with e2
   rw[e2,q,hd]at h3
   exact nomatch (show Data.dict es.toArray n=.seq us.toArray m from congrArg Obj.data (aq h3))
  ·cases z:s₁.heap.get? b with
   |none=>rfl
   |some o=>
    by_cases c:b=dx
    ·rw[c]at e;exact ah e ⟨_,q1⟩
    ·exact ah e ⟨o,kp b o c z⟩
end
structure Mk(Z:Fr)(dx:Addr)(s s':Shared)(B U:Addr->Prop):Prop where
 x:aJ Z.X (λa=>Z.K a/\a≠dx) s s'
 hU:∀a,U a->Z.U a\/xq Z s a
 hB:∀a,B a->Z.B a\/(Z.U a\/xq Z s a)
section
variable{sc:SC}{Z:Fr}{σ σ':List Slot}{ws:Nat->Option Value}{s s' s'':Shared}{C I dx fI:Addr}{xs:List Str}{ps:List PV}{B U B' U':Addr->Prop}{K:Frag}
theorem Mk.back(m:Mk Z dx s s' B U)(h:∃o,s'.heap.get? dx=some o){a:Addr}(n:xq Z s' a):Z.U a\/xq Z s a:=by
 by_cases u:Z.U a
 ·exact .inl u
 ·exact .inr ⟨n.1,m.x.live ⟨⟨.inl n.1,u⟩,λq=>ah n.2 (q▸h)⟩ n.2⟩
theorem Mk.grow(m:Mk Z dx s s' B U)(D:∀a,Z.U a->∃o,s.heap.get? a=some o)(h:∃o,s'.heap.get? dx=some o)(g:aI (Z.bu B U) s' s'' B' U'):Mk Z dx s s'' B' U':=
 ⟨m.x.on g.x (λa o k e=>⟨k.1.1,λu=>(m.hU a u).elim k.1.2 λn=>ah n.2 ⟨o,e⟩⟩) m.x.size,λa u=>(g.hU a u).elim (m.hU a) λn=>m.back h n,
  λa b=>(g.hB a b).elim (m.hB a) λq=>.inr (q.elim (m.hU a) λn=>m.back h n)⟩
theorem Mk.turn(m:Mk Z dx s s' B U)(y:aJ Z.X (λb=>(Z.bu B U).K b/\b≠dx) s' s''):Mk Z dx s s'' B U:=
 ⟨m.x.on y (λa o k e=>⟨⟨k.1.1,λu=>(m.hU a u).elim k.1.2 λn=>ah n.2 ⟨o,e⟩⟩,k.2⟩) m.x.size,m.hU,m.hB⟩
theorem Mk.refl:Mk Z dx s s Z.B Z.U:=⟨.refl,λ_ u=>.inl u,λ_ b=>.inl b⟩
structure Ws(Z:Fr)(sc:SC)(C I dx:Addr)(s₀:Shared)(xs:List Str)(ps:List PV)(σ:List Slot)(B U:Addr->Prop)(ws:Nat->Option Value)(s:Shared):Prop where
 m:Mk Z dx s₀ s B U
 V:Ex (Z.bu B U) sc σ ws s
 i:Inst (Z.bu B U) C I dx s xs ps
theorem Inst.Iu(i:Inst Z C I dx s xs ps):∃o,s.heap.get? dx=some o:=i.es.elim λ_ q=>q.elim λ_ q=>⟨_,q.1⟩
theorem Ws.go(w:Ws Z sc C I dx s' xs ps σ B U ws s)(D:∀a,Z.U a->∃o,s'.heap.get? a=some o){t:SS sc}(e:nextOf (t.ex Z.Φ σ)=some σ'){Q:Flow->Shared->Prop}{E:Value->Shared->Prop}(h:∀B U ws s,Ws Z sc C I dx s' xs ps σ' B U ws s->Q .next s):wpAny Z.X.M Z.Ar (exec t.st Z.env) Q E s:=
 t.ok w.V (eZ e) Q E λf s₁ fH ja g en=>by
  obtain⟨rfl,eB,aj⟩:=en
  exact h fH ja eB s₁ ⟨w.m.grow D w.i.Iu g,aj,w.i.grow w.V.toDy g⟩
theorem Ws.set(w:Ws Z sc C I dx s' xs ps σ B U ws s)(a:AS sc)(W:ER K C fI)(hK:∀h,Z.X.G h->K.In h)(hfx:Z.fx 0=.ref I){nm:Str}(h1:a.nm=nm)(hnm:nm∈fieldNames)(hn:xs.all (λx=>!(x==nm))=true)(hz:xs.length<=900){p:PV}(e:a.ev Z.Φ σ=some p)
  {Q:Flow->Shared->Prop} {E:Value->Shared->Prop} (h:∀ws s,Ws Z sc C I dx s' (xs++[nm]) (ps++[p]) σ B U ws s->Q .next s):wpAny Z.X.M Z.Ar (exec a.st Z.env) Q E s:=by
 subst h1
 exact a.ok w.V w.i W hK hfx hnm hn hz e λs₁ x aj i₁=>h ws s₁ ⟨w.m.turn x,aj,i₁⟩
structure Ao(sc:SC)where
 a0:AS sc
 m1:SS sc
 m2:SS sc
 m3:SS sc
 tg:SP sc
 self:Str
 p0:Pos
 p1:Pos
 body:SL sc
 pos:Pos
 a1:AS sc
 a2:AS sc
 a3:AS sc
 a4:AS sc
 hv:isVar sc 0 self=true
 ht:tg.ts.all (Tg.ok sc)=true
def Ao.sts(x:Ao sc):List Stmt:=[x.a0.st,x.m1.st,x.m2.st,x.m3.st,.For x.tg.e (.Attribute (.Name x.self x.p0) "raw" x.p1) x.body.sts [] x.pos,x.a1.st,x.a2.st,x.a3.st,x.a4.st]
def Ao.ex(x:Ao sc)(Φ:bO)(σ:List Slot):Option (List PV):=(x.a0.ev Φ σ).bind λq0=>q0.wY.bind λy=>(nextOf (x.m1.ex Φ σ)).bind λσ₁=>(nextOf (x.m2.ex Φ σ₁)).bind λσ₂=>(nextOf (x.m3.ex Φ σ₂)).bind λσ₃=>
 bif cK σ₃ 0 0 then(nextOf (loopGo x.tg.bind (x.body.ex Φ) (signs y) σ₃)).bind λσ₄=>(x.a1.ev Φ σ₄).bind λq1=>(x.a2.ev Φ σ₄).bind λq2=>(x.a3.ev Φ σ₄).bind λq3=>(x.a4.ev Φ σ₄).map λq4=>[q0,q1,q2,q3,q4]else none
inductive AF(Z:Fr)(C I dx:Addr)(ps:List PV)(s:Shared)(f:Flow)(s':Shared):Prop
 |mk (n:f=.next) (B U:Addr->Prop) (m:Mk Z dx s s' B U) (i:Inst (Z.bu B U) C I dx s' fieldNames ps):AF Z C I dx ps s f s'
theorem Ao.run(x:Ao sc)(hn:[x.a0.nm,x.a1.nm,x.a2.nm,x.a3.nm,x.a4.nm]=fieldNames)(V:Ex Z sc σ ws s)(i:Inst Z C I dx s [] [])(W:ER K C fI)(hK:∀h,Z.X.G h->K.In h)(hfx:Z.fx 0=.ref I)(e:x.ex Z.Φ σ=some ps){E:Value->Shared->Prop}:
  wpAny Z.X.M Z.Ar (execs x.sts Z.env) (AF Z C I dx ps s) E s:=by
 refine aa e λq0 e0 e=>aa e λy ey e=>aa e λσ₁ f1 e=>aa e λσ₂ f2 e=>aa e λσ₃ f3 e=>?_
 cases ht:cK σ₃ 0 0 with
 |false=>rw[ht]at e;exact no e
 |true=>
  rw[ht]at e
  refine aa e λσ₄ f4 e=>aa e λq1 e1 e=>aa e λq2 e2 e=>aa e λq3 e3 e=>aE e λq4 e4 e5=>?_
  subst e5
  refine fz λhP hK=>?_
  obtain⟨n0,hn⟩:=List.cons.inj hn
  obtain⟨n1,hn⟩:=List.cons.inj hn
  obtain⟨n2,hn⟩:=List.cons.inj hn
  obtain⟨n3,hn⟩:=List.cons.inj hn
  obtain⟨n4,_⟩:=List.cons.inj hn
  refine hK ?_
  clear hK hP
  have D:=V.toDy.live
  refine wpAny_execs_cons (Ws.set (B:=Z.B) (U:=Z.U) ⟨.refl,V,i⟩ x.a0 W hK hfx n0 (by decide) rfl (by decide) e0 λws s w=>?_)
  refine wpAny_execs_cons (w.go D f1 λB U ws s w=>?_)
  refine wpAny_execs_cons (w.go D f2 λB U ws s w=>?_)
  refine wpAny_execs_cons (w.go D f3 λB U ws s w=>?_)
  refine wpAny_execs_cons (B4 (Z:=Z.bu B U) (xs:=signs y) w.V x.ht (λ_=>rfl) (λQ E h=>?_) (eZ f4) _ _ λf s₁ fH ja g en=>?_)
  ·show wpAny Z.X.M Z.Ar (eval (.Attribute (.Name x.self x.p0) "raw" x.p1) Z.env) _ E s
   rw[arm_eval_Attribute,uX (λ_ _ _=>rfl)]
   have hw:ws 0=some (.ref I):=hfx▸w.V.ok 0 _ (nT ht)
   refine fz λhP hK=>?_
   obtain⟨es,n,hd,k,rl⟩:=w.i.es
   refine hK ?_
   clear hK hP
   obtain⟨ea,r,rfl,hf⟩:=k.first
   refine fz λhP hK=>?_
   obtain⟨v,_,hv,rv,_⟩:=rl
   refine hK ?_
   clear hK hP
   obtain rfl:ea.val=v:=(List.cons.inj hv).1
   obtain⟨t,ht'⟩:=rZ.rd rv ey
   refine wpAny_bind (CW (Z:=Z.bu B U) w.V.toEv x.hv hw (wpAny_bind (wpAny_standAt (wpAny_bind (wpAny_holding ?_)))))
   refine sj W (hK _ w.V.g) w.i.obj hd (by decide) hf (by rw[ht'];rfl) (wpAny_bind (wpAny_letTemporaryGo (wpAny_pure ?_)))
   rw[ht']
   have st:aJ Z.X Z.X.V s {s with toks:=s.toks+1}:=w.V.toBs.toks
   exact Kn (w.V.step st).toBs (λa b=>⟨w.V.sub a b,λu=>w.V.eU a u b⟩) (h.after st)
  obtain⟨rfl,eB,aj⟩:=en
  have w:Ws Z sc C I dx _ _ _ σ₄ fH ja eB s₁:=⟨w.m.grow D w.i.Iu g,aj,w.i.grow w.V.toDy g⟩
  refine wpAny_execs_cons (w.set x.a1 W hK hfx n1 (by decide) rfl (by decide) e1 λws s w=>?_)
  refine wpAny_execs_cons (w.set x.a2 W hK hfx n2 (by decide) rfl (by decide) e2 λws s w=>?_)
  refine wpAny_execs_cons (w.set x.a3 W hK hfx n3 (by decide) rfl (by decide) e3 λws s w=>?_)
  refine wpAny_execs_cons (w.set x.a4 W hK hfx n4 (by decide) rfl (by decide) e4 λws s w=>?_)
  exact wpAny_execs_nil ⟨rfl,_,_,w.m,w.i⟩
end
end Mine.Internal
end
section
open PySem PySem.W PyProof.Rows PySem.Calls
namespace Mine.Internal
theorem zZ{u d:Nat}(h:u+(d+1)<=1000):u+1+d<=1000:=by lia
theorem z7{u d:Nat}(h:u+8*(d+1)+200<=9900):u+1+8*d+200<=9900:=wQ (by decide) h
theorem Ag{C:Addr}{rest:List Value}{kw:List (Str×Value)}{Ar:Around}{d:Nat}(R:bD Ar (d+1)):bD (Ar.under (.builtin "type.__call__" ⟨.ref C::rest,kw⟩)) d:=
 ⟨R.hh,by
  have e:(Code.builtin "type.__call__" ⟨.ref C::rest,kw⟩).weight=1:=by kernel_rfl
  show Ar.depth+(Code.builtin "type.__call__" ⟨.ref C::rest,kw⟩).weight+d<=1000
  rw[e];exact zZ R.hd,by
  have e:(Code.builtin "type.__call__" ⟨.ref C::rest,kw⟩).cUnits=1:=by kernel_rfl
  show Ar.units+(Code.builtin "type.__call__" ⟨.ref C::rest,kw⟩).cUnits+8*d+200<=9900
  rw[e];exact z7 R.hu⟩
section
variable{nm:oQ}{Z:Fr}{s:Shared}{ps qs:List PV}{vs:List Value}{r:PV}{fd:FuncData}{D:dY}{d:Nat}{K:Frag}{C I dx fI:Addr}
theorem Inst.KV{B:Addr->Prop}(i:Inst Z C I dx s fieldNames ps)(hI:B I)(hd:B dx)(hB:∀a,Z.B a->B a):Rep s.heap B (.obj C ps) (.ref I):=by
 obtain⟨es,n,h,k,rl⟩:=i.es
 rw[kg]
 exact⟨_,⟨I,dx,es,n,rfl,hI,hd,i.obj,h,⟨k.plain,λy m=>k.none m⟩,k.all (by decide)⟩,Internal.af.move (λa o b e=>⟨hB a b,e⟩) rl⟩
def EK(D:dY)(x:Ao (D.sc nm))(C:Addr)(Φ:bO)(ps:List PV):Option PV:=bif Nat.beq (ps.length+1) D.params.length then(x.ex Φ (.is 0::D.slots ps)).map (.obj C)else none
theorem zd{Ar:Around}{env:Env}{cs:List (Str×Addr)}{Cf:Addr}{ws:Nat->Option Value}{stmts:List Stmt}{E:Value->Shared->Prop}(DO:dJ fd D stmts)(EO:bq env (D.sc nm) ((D.params++D.locals).map (aT D.names cs Cf)))(hfx:Z.fx 0=.ref I)
  (D₁:Dy (Z.first Ar d env D.names cs Cf (D.params++D.locals)) (List.replicate (D.params++D.locals).length .unset) ws s) (hlen:ps.length+1=D.params.length) (rl:(Z.first Ar d env D.names cs Cf (D.params++D.locals)).af s.heap ps vs) {Q:PUnit->Shared->Prop}
  (k:∀bB s₂,aJ Z.X (Z.first Ar d env D.names cs Cf (D.params++D.locals)).K s s₂->Dy (Z.first Ar d env D.names cs Cf (D.params++D.locals)) (.is 0::D.slots ps) bB s₂->Q ⟨⟩ s₂):
  wpAny Z.X.M Ar (forIn (D.params.zip (.ref I::vs)) (⟨⟩:PUnit) λ(x:Str×Value) (_:PUnit)=>(match x with|(name,v)=>do storeName env name v;pure (ForInStep.yield ⟨⟩):Sem (ForInStep PUnit))) Q E s:=by
 have to:∀{j x},D.params[j]?=some x->kX (D.sc nm) j x=true:=λe=>Ds DO e
 have lt:∀{j x},D.params[j]?=some x->j<(D.params++D.locals).length:=λe=>Dr e
 obtain⟨y,xs,hp⟩:∃y xs,D.params=y::xs:=by
  cases h:D.params with
  |nil=>rw[h]at hlen;exact nomatch hlen
  |cons y xs=>exact⟨y,xs,rfl⟩
 have hz:D.params.zip (.ref I::vs)=(y,.ref I)::xs.zip vs:=by rw[hp];rfl
 rw[hz,List.forIn_cons]
 refine wpAny_bind (wpAny_bind (store (Z:=Z.first Ar d env D.names cs Cf (D.params++D.locals)) D₁ EO (i:=0) (t:=.is 0) (to (by rw[hp];rfl)) (lt (x:=y) (by rw[hp];rfl)) (congrArg some hfx.symm) (λ_ q=>nomatch q) λs₁ x₁ D₂=>wpAny_pure ?_))
 rw[hp,List.length_cons]at hlen
 have h2:(D.params++D.locals).length=ps.length+D.locals.length+1:=by rw[ay,hp,List.length_cons,<-hlen,Nat.add_right_comm]
 rw[h2,List.replicate_succ,List.set_cons_zero]at D₂
 refine fL (Z:=Z.first Ar d env D.names cs Cf (D.params++D.locals)) EO xs vs ps 1 _ _ _ _ D₂ (Nat.succ.inj hlen).symm (rl.Aa D₁ x₁) (λj x e=>?_) λbB s₂ x₂ fJ=>k bB s₂ (x₁.trans x₂) ?_
 ·have e:D.params[1+j]?=some x:=by rw[hp,Nat.add_comm,List.getElem?_cons_succ];exact e
  exact⟨to e,lt e⟩
 ·rw[show(Slot.is 0::List.replicate (ps.length+D.locals.length) Slot.unset)=[.is 0]++List.replicate (ps.length+D.locals.length) Slot.unset from rfl,show setFrom 1 ps _=_ from gU ps [.is 0] D.locals.length]at fJ
  exact fJ
theorem PO{x:Ao (D.sc nm)}(hn:[x.a0.nm,x.a1.nm,x.a2.nm,x.a3.nm,x.a4.nm]=fieldNames)(V:Bs Z s)(A:FnAt Z.X fI fd)(DO:dJ fd D x.sts)(hd:Z.d=d+2)(hnm:Z.X.nm=nm)(nt:(D.params==(["script"]:List Str))=false)(P:∀Ar,bD Ar d->Pf Z.X Z.Φ Ar d)(W:ER K C fI)(hK:∀h,Z.X.G h->K.In h)(rl:Z.af s.heap ps vs)(e:EK D x C Z.Φ ps=some r):
  aY Z s r (call (.ref C) vs):=by
 unfold EK at e
 cases hl:Nat.beq (ps.length+1) D.params.length with
 |false=>rw[hl]at e;exact no e
 |true=>
  rw[hl]at e
  refine aE e λqs e1 e2=>?_
  subst e2
  intro Q E h
  refine wpAny_call ?_
  obtain⟨hh,gg,dd,tk,os⟩:=s
  refine make_core (makes_of (hK _ V.g) W.makes) (looks_findIn (hK _ V.g) W.ini) (λself=>bind_fn (hK _ V.g) self W.RM) (.inl rfl) ?_
  have hnI:hh.get? (hh.objs.size+1)=none:=eK (Nat.le_succ _)
  have hnd:hh.get? hh.objs.size=none:=eK (Nat.le_refl _)
  have hN:=V.K.size _ V.g
  have hM:Z.X.N<=hh.objs.size+1:=Nat.le_succ_of_le hN
  have Q3:Ext hh ((hh.push emptyDict).push (instObj C hh.objs.size)):=λa o e=>Heap.get?_push_of_some _ (Heap.get?_push_of_some _ e)
  have gI:((hh.push emptyDict).push (instObj C hh.objs.size)).get? (hh.objs.size+1)=some (instObj C hh.objs.size):=by
   have:=Heap.get?_push_size (hh.push emptyDict) (o:=instObj C hh.objs.size) rfl
   rwa[Heap.size_push]at this
  have gD:((hh.push emptyDict).push (instObj C hh.objs.size)).get? hh.objs.size=some (dictOf [] 0):=Heap.get?_push_of_some _ (Heap.get?_push_size hh (o:=emptyDict) rfl)
  revert hnI hnd Q3 gI gD hN hM
  generalize(hh.push emptyDict).push (instObj C hh.objs.size)=H
  generalize hh.objs.size+1=I
  generalize hh.objs.size=dx
  intro nI nd hN hM K₁ gI gD
  have x₁:aJ Z.X Z.X.V ⟨hh,gg,dd,tk,os⟩ ⟨H,gg,dd,tk,os⟩:=V.ext (s:=⟨hh,gg,dd,tk,os⟩) (tk:=tk) K₁
  have aj:Bs {Z with Ar:=Z.Ar.under (.builtin "type.__call__" ⟨.ref C::vs,[]⟩),d:=d+1,B:=λa=>Z.B a/\(a≠I/\a≠dx),fx:=λ_=>.ref I} ⟨H,gg,dd,tk,os⟩:=
   ⟨V.K,Ag (hd▸V.R),x₁.G V.g,λa n e=>⟨V.fresh a n (x₁.live (.inl n) e),λq=>ah e ⟨_,q▸gI⟩,λq=>ah e ⟨_,q▸gD⟩⟩,λa b=>V.sub a b.1⟩
  have hl:=Nat.eq_of_beq_eq_true hl
  have old:∀b o,hh.get? b=some o->b≠I/\b≠dx:=λb o e=>⟨λq=>ah nI ⟨o,q▸e⟩,λq=>ah nd ⟨o,q▸e⟩⟩
  refine pg (nm:=nm) (Z:={Z with Ar:=Z.Ar.under (.builtin "type.__call__" ⟨.ref C::vs,[]⟩),d:=d+1,B:=λa=>Z.B a/\(a≠I/\a≠dx),fx:=λ_=>.ref I}) (σ₂:=.is 0::D.slots ps) aj A DO rfl (by rw[List.length_cons,rl.len];exact hl) (λenv cs Cf ws H' EO hi K₂ D₁ Q E k=>?_) λenv cs Cf ws s₂ he hc N hi EO y₂ D₂=>?_
  ·exact zd (Z:={Z with Ar:=Z.Ar.under (.builtin "type.__call__" ⟨.ref C::vs,[]⟩),d:=d+1,B:=λa=>Z.B a/\(a≠I/\a≠dx),fx:=λ_=>.ref I}) DO EO rfl D₁ hl (Internal.af.move (λb o q e=>⟨⟨⟨q,old b o e⟩,λu=>ah (hi b u).1 ⟨o,K₁ b o e⟩⟩,K₂ b o (K₁ b o e)⟩) rl) k
  ·have hC:env.locals=Cf:=by rw[he];rfl
   have fl:∀b,aA Cf cs b->b≠I/\b≠dx:=λb u=>⟨λq=>ah (hi b u).1 ⟨_,q▸gI⟩,λq=>ah (hi b u).1 ⟨_,q▸gD⟩⟩
   refine wpAny_mono (x.run (I:=I) (dx:=dx) hn (gq (Z:={Z with Ar:=Z.Ar.under (.builtin "type.__call__" ⟨.ref C::vs,[]⟩),d:=d+1,B:=λa=>Z.B a/\(a≠I/\a≠dx),fx:=λ_=>.ref I}) EO hnm D₂ (P _ D₂.R) λh=>nomatch (nt.symm.trans h)) ⟨hM,hN,λq=>q.1.2.1 rfl,λq=>q.1.2.2 rfl,λu=>(fl _ u).1 rfl,λu=>(fl _ u).2 rfl,λl m=>?_,λq=>(fl _ (.inl (hC▸rfl))).2 (hC▸q),y₂.off _ _ (.inl hM) gI,[],0,y₂.off _ _ (.inl hN) gD,rfl,rfl⟩ W hK rfl e1) (λf s₃ q=>?_) λ_ _ e=>e
   ·obtain⟨y,_,rfl⟩:=List.mem_map.mp m
    exact(fl _ (N.of y)).2
   ·obtain⟨rfl,B,U,m,i⟩:=q
    have eY:aJ Z.X Z.X.V ⟨hh,gg,dd,tk,os⟩ s₃:=(x₁.trans y₂).on m.x (λb o k e=>⟨⟨k,λu=>ah (hi b u).1 ⟨o,K₁ b o e⟩⟩,(old b o e).2⟩) (x₁.trans y₂).size
    refine⟨rfl,h _ _ eY (i.KV (V.fresh _ hM nI) (V.fresh _ hN nd) λb q=>?_)⟩
    exact(m.hB b q).elim (λq=>q.1.1) λq=>q.elim (λu=>V.fresh b (hi b u).2 (x₁.live (.inl (hi b u).2) (hi b u).1)) λn=>V.fresh b n.1 ((x₁.trans y₂).live (.inl n.1) n.2)
end
structure Tab where
 c:Addr
 P:Addr
 pos:Pos
 qual:Str
inductive fU(N:Nat)(h:Heap)(cv:Value)(qual:Str):Prop
 |mk (c:Addr) (oc:Obj) (vs:Array Value) (t:Tok) (e:cv=.ref c) (g:h.get? c=some oc) (k:oc.cls=.type "code") (d:oc.data=.fields vs) (q:vs[1]?=some (.str qual t)) (l:N<=c):fU N h cv qual
def TabOk(N:Nat)(h:Heap)(t:Tab):Prop:=∃ps:Array Value,h.get? t.P=some (tabObj ps)/\TriplesOk ps.toList/\(codeAmong t.pos ps.toList=none\/∃cv,codeAmong t.pos ps.toList=some cv/\fU N h cv t.qual)
structure Base(h₁:Heap)(N:Nat)(tabs:List Tab)(h:Heap):Prop where
 old':∀a o,h₁.get? a=some o->(∀t∈tabs,a≠t.P)->h.get? a=some o
 tab:∀t∈tabs,TabOk N h t
 size:N<=h.objs.size
structure Start(h₁:Heap)(N:Nat)(tabs:List Tab)(K:Frag)(mg mb:Str->Option Value):Prop where
 live:∀a o,h₁.get? a=some o->a<N
 top:∃a o,N=a+1/\h₁.get? a=some o
 tab:∀t∈tabs,h₁.get? t.P=some (tabObj #[])
 hd:∀t∈tabs,CodeHd h₁ t.c t.P
 apart:∀t∈tabs,∀t'∈tabs,t.P=t'.P->t=t'
 K:∀a o,K.lookup a=some o->h₁.get? a=some o/\o≠tabObj #[]
 g:h₁.Ns mainGlobals mg
 b:h₁.Ns builtinsNs mb
 nolimit:h₁.NoLimit
 nb:NoneBooked h₁
 builtins:∀x:Str,x≠"__name__"->mb x=bootBuiltins x
 bmain:∃bm ob,mg "__builtins__"=some (.ref bm)/\bm≠builtinsNs/\h₁.get? bm=some ob/\ob.cls=.type "module"/\ob.dict=some builtinsNs/\ob.data=.plain
section
variable{h₁ h h':Heap}{N:Nat}{tabs:List Tab}{K:Frag}{mg mb:Str->Option Value}
theorem Di{a:Addr}{m:Str->Option Value}(x:h₁.Ns a m)(k:∀a o,h₁.get? a=some o->o≠tabObj #[]->h.get? a=some o):h.Ns a m:=
 x.at' λo e=>k a o e λq=>by
  obtain⟨o',es,ep,e',hd,_⟩:=x
  rw[e]at e'
  rw[<-aq e',q]at hd
  exact nomatch hd
theorem Base.old(B:Base h₁ N tabs h)(S:Start h₁ N tabs K mg mb):∀a o,h₁.get? a=some o->o≠tabObj #[]->h.get? a=some o:=λa o e n=>
 B.old' a o e λt ht q=>n (by have:=S.tab t ht;rw[<-q,e]at this;exact aq this)
theorem Base.ns(B:Base h₁ N tabs h)(S:Start h₁ N tabs K mg mb){a:Addr}{m:Str->Option Value}(x:h₁.Ns a m):h.Ns a m:=Di x (B.old S)
theorem Base.Gq(B:Base h₁ N tabs h)(S:Start h₁ N tabs K mg mb):K.In h:=λa o e=>B.old S a o (S.K a o e).1 (S.K a o e).2
theorem Base.nolimit(B:Base h₁ N tabs h)(S:Start h₁ N tabs K mg mb):h.NoLimit:=S.nolimit.imp λ_ q=>⟨B.ns S q.1,q.2⟩
theorem Base.nb(B:Base h₁ N tabs h)(S:Start h₁ N tabs K mg mb):NoneBooked h:=S.nb.imp λ_ q=>⟨B.ns S q.1,q.2⟩
theorem Base.hd(B:Base h₁ N tabs h)(S:Start h₁ N tabs K mg mb){t:Tab}(ht:t∈tabs):CodeHd h t.c t.P:=by
 obtain⟨o,vs,file,tf,flags,tg,VJ,text,tt,e,hc,r⟩:=S.hd t ht
 exact⟨o,vs,file,tf,flags,tg,VJ,text,tt,B.old S _ _ e (λq=>by rw[q]at hc;cases hc),hc,r⟩
theorem Base.bmain(B:Base h₁ N tabs h)(S:Start h₁ N tabs K mg mb){P:Addr}{ps:Array Value}(hP:h.get? P=some (tabObj ps)):h.BuiltinsAt mg P/\mainGlobals≠P:=by
 obtain⟨bm,ob,b1,b2,b3,b4,b5,b6⟩:=S.bmain
 have QF:=B.old S _ _ b3 λq=>by rw[q]at b4;cases b4
 refine⟨⟨bm,ob,b1,b2,λq=>?_,λq=>?_,QF,b4,b5,b6⟩,λq=>?_⟩
 ·obtain⟨o,es,ep,e,hd,_⟩:=S.g
  rw[q,e]at b3;cases b3;rw[hd]at b6;cases b6
 ·rw[q,hP]at QF;cases QF;cases b4
 ·obtain⟨o,es,ep,e,hd,_⟩:=B.ns S S.g
  rw[q,hP]at e;cases e;cases hd
theorem Base.start(S:Start h₁ N tabs K mg mb):Base h₁ N tabs h₁:=⟨λ_ _ e _=>e,λt ht=>⟨#[],S.tab t ht,trivial,.inl rfl⟩,by obtain⟨a,o,rfl,e⟩:=S.top;exact Heap.lt_size e⟩
theorem Base.Ja(S:Start h₁ N tabs K mg mb)(old:∀a o,h₁.get? a=some o->(∀t∈tabs,a≠t.P)->h'.get? a=some o)(tab:∀t∈tabs,TabOk N h' t):Base h₁ N tabs h':=by
 refine⟨old,tab,?_⟩
 obtain⟨a,o,rfl,e⟩:=S.top
 by_cases q:∃t∈tabs,a=t.P
 ·obtain⟨t,ht,rfl⟩:=q
  obtain⟨ps,e1,_⟩:=tab t ht
  exact Heap.lt_size e1
 ·exact Heap.lt_size (old a o e λt ht q'=>q ⟨t,ht,q'⟩)
theorem fU.keep{cv:Value}{qual:Str}(x:fU N h cv qual)(k:∀a o,h.get? a=some o->o.cls=.type "code"->(∃vs,o.data=.fields vs)->h'.get? a=some o):fU N h' cv qual:=by
 obtain⟨c,oc,vs,t,e1,e2,e3,e4,e5,e6⟩:=x
 exact⟨c,oc,vs,t,e1,k _ _ e2 e3 ⟨vs,e4⟩,e3,e4,e5,e6⟩
theorem Base.off(S:Start h₁ N tabs K mg mb)(B:Base h₁ N tabs h){W:Addr->Prop}(hW:∀a,W a->mD N h a)(x:∀a o,¬W a->h.get? a=some o->h'.get? a=some o):Base h₁ N tabs h':=by
 have low:∀a,a<N->¬W a:=λa l w=>absurd l (Nat.not_lt.mpr (hW a w).1)
 refine Base.Ja S (λa o e n=>x a o (low a (S.live a o e)) (B.old' a o e n)) λt ht=>?_
 obtain⟨ps,e1,e2,e3⟩:=B.tab t ht
 refine⟨ps,x _ _ (low _ (S.live _ _ (S.tab t ht))) e1,e2,e3.imp id λq=>q.imp λcv q=>⟨q.1,q.2.keep λa o e1 e2 e3=>x a o (λw=>?_) e1⟩⟩
 obtain⟨_,o',e,n⟩:=hW _ w
 obtain rfl:=aq (e1.symm.trans e)
 exact n.elim (λn=>n e2) λn=>e3.elim λvs q=>n vs q
end
structure Place where
 prog:Program
 w:World
 h₁:Heap
 N:Nat
 l₀:Addr
 tabs:List Tab
 K:Frag
 mg:Str->Option Value
 mb:Str->Option Value
 nm:oQ
 fv:Nat->Value
 gv:Nat->Value
 mv:Nat->Value
def Place.X(p:Place):Cx:={prog:=p.prog,w:=p.w,N:=p.N,l₀:=p.l₀,G:=Base p.h₁ p.N p.tabs,nm:=p.nm,mg:=p.mg,mb:=p.mb,fv:=p.fv,gv:=p.gv,mv:=p.mv}
structure jC(p:Place)(fI:Addr):Prop where
 S:Start p.h₁ p.N p.tabs p.K p.mg p.mb
 W:ER p.K p.nm.cls fI
 fns:∀f x,p.nm.fns[f]?=some x->p.mg x=some (p.fv f)/\keepIn p.K (p.fv f)=true
 gens:∀f x,p.nm.gens[f]?=some x->p.mg x=some (p.gv f)/\keepIn p.K (p.gv f)=true
 oV:∀x b,p.nm.oV.lookup x=some b->∃t,p.mg x=some (.float b t)
 jl:∀x b,p.nm.jl.lookup x=some b->∃t,p.mg x=some (.int b t)
 blt:∀x∈(["len","abs","max","min","sum","int","sorted","tuple","list","divmod","range","enumerate","zip","reversed","str","ZeroDivisionError"]:List Str),p.mg x=none
 KA:∀f x,p.nm.ms[f]?=some x->∃a,p.mv f=.ref a/\findIn p.K (.ref p.nm.cls) x=some (some (.ref a))/\typeIn p.K (.ref a)=some (.type "function")/\keepIn p.K (.ref a)=true/\x∉fieldNames
 cat:∀f x y,(f,x,y)∈p.nm.Bg->p.fv f=.ref p.nm.cls/\∃t,findCls p.K (.ref p.nm.cls) (.type "type") x=some (.val (.str y t))
theorem tT{es:List DictEntry}{n:Nat}{x:Str}(z:mV es)(hx:x∉fieldNames):shadowIn (some (dictOf es n)) x=some false:=by
 unfold shadowIn lookIn
 dsimp only
 have h1:es.toArray.toList.find? (·.key.isStr x)=none:=z.2 x hx
 rw[h1]
 have h2:es.toArray.toList.any (·.refKey)=false:=by
  rw[List.any_eq_false]
  intro e he
  rw[z.1 e he];decide
 rw[h2]
 rfl
theorem wM{h:Heap}{B:Addr->Prop}{v:Value}{p:PV}(r:Rep h B p v):handedIn v=true:=by
 cases p with
 |none=>exact Rep.KZ r (M:=λv=>handedIn v=true) rfl
 |bool b=>exact Rep.KY r (M:=λv=>handedIn v=true) rfl
 |int i=>exact Rep.Oc r (M:=λv=>handedIn v=true) λ_=>rfl
 |ak x=>exact Rep.Ob r (M:=λv=>handedIn v=true) λ_=>rfl
 |aH x=>obtain⟨t,_,rfl⟩:=r;rfl
 |str x=>exact Rep.onStr r (M:=λv=>handedIn v=true) λ_=>rfl
 |tup xs=>exact Rep.j5 r (M:=λv=>handedIn v=true) λ_ _ _ _ _ _=>rfl
 |lst xs=>exact Rep.lU r (M:=λv=>handedIn v=true) λ_ _ _ _ _ _=>rfl
 |obj C fs=>obtain⟨vs,⟨a,dx,es,n,rfl,_⟩,_⟩:=(kg▸r:∃vs,iy B h C v vs/\af h B fs vs);rfl
theorem gP{M:Model}{Ar:Around}{E:Value->Shared->Prop}{s:Shared}{f:Value}{trees:List (Bool×Sem Value)}{Q:Args->Shared->Prop}(hn:trees.any (·.1)=false)(h:wpAny M Ar (spliced trees) (λvs s'=>Q ⟨vs,[]⟩ s') E s):
  wpAny M Ar (evalArgs f true trees []) Q E s:=by
 cases trees with
 |nil=>
  unfold evalArgs
  exact h
 |cons t r=>
  obtain⟨b,x⟩:=t
  have:b=false:=by
   cases b with
   |false=>rfl
   |true=>exact nomatch hn
  subst this
  exact Calls.evalArgs_plain h
theorem Du{p:Place}{fI:Addr}(O:jC p fI):EZ p.X where
 Gk:=λh h' W g hW x=>Base.off O.S g hW x
 nolimit:=λh g=>Base.nolimit g O.S
 nb:=λh g=>Base.nb g O.S
 size:=λh g=>Base.size g
 g:=λh g=>Base.ns g O.S O.S.g
 b:=λh g=>Base.ns g O.S O.S.b
 fns:=λf x e=>(O.fns f x e).1
 gens:=λf x e=>(O.gens f x e).1
 oV:=O.oV
 jl:=O.jl
 blt:=λx hx=>⟨O.blt x hx,O.S.builtins x (by intro q;subst q;revert hx;decide)⟩
 xH:=λf x hf Ar pos first trees Q E s hn hh g=>
  callWith_of (P:=p.K.In) (by rw[hn];rfl) (keeps_K (O.fns f x hf).2) (gP hn (wpAny_mono hh (λvs s₁ q=>⟨Base.Gq q.1 O.S,q.2⟩) λ_ _ e=>e))
 Il:=λf x hf Ar pos first trees Q E s hn hh g=>
  callWith_of (P:=p.K.In) (by rw[hn];rfl) (keeps_K (O.gens f x hf).2) (gP hn (wpAny_mono hh (λvs s₁ q=>⟨Base.Gq q.1 O.S,q.2⟩) λ_ _ e=>e))
 attr:=λi x hx Ar B s ov fs pv Q E g r e hq=>by
  obtain⟨vs,⟨a,dx,es,n,rfl,_,_,h1,h3,z,rf⟩,rl⟩:=(kg▸r:∃vs,iy B s.heap p.X.nm.cls ov vs/\af s.heap B fs vs)
  obtain⟨v,q1,q2⟩:=rl.get e
  have q3:nsFind es.toArray x=some v:=by
   have:=congrArg (λl:List (Option Value)=>l[i]?) rf
   rw[List.getElem?_map,List.getElem?_map,hx,q1]at this
   exact aq this
  exact sj (X:=p.X) O.W (Base.Gq g O.S) h1 h3 (List.mem_of_getElem? hx) q3 (wM q2) (hq v _ q2)
 yT:=λf x hf Ar B s o apos pos env ov fs n trees Q E g r ND hline hn hh=>by
  obtain⟨a,e1,e2,e3,e4,e5⟩:=O.KA f x hf
  obtain⟨vs,⟨I,dx,es,nn,rfl,_,_,h1,h3,z,rf⟩,rl⟩:=(kg▸r:∃vs,iy B s.heap p.X.nm.cls ov vs/\af s.heap B fs vs)
  unfold methodCall
  rw[ND]
  refine wpAny_bind (wpAny_holding ?_)
  unfold calleeOf
  rw[if_pos rfl]
  refine method_fn (x:=I) (C:=p.nm.cls) (ox:=instObj p.nm.cls dx) (od:=some (dictOf es nn)) (Base.Gq g O.S) ⟨h1,rfl,rfl,h3⟩ O.W.ga O.W.gk e2 e3 (tT z e5) ?_
  have:methodCallPos true o env apos pos=pure pos:=by
   unfold methodCallPos
   rw[if_pos (by rw[hline];rfl)]
  refine wpAny_bind (wpAny_of_eq this ?_)
  refine callWith_of (P:=p.K.In) (by rw[hn];rfl) (keeps_K e4) (gP hn (wpAny_mono hh (λvs s₁ q=>⟨Base.Gq q.1 O.S,?_⟩) λ_ _ e=>e))
  have:=q.2
  rw[show p.X.mv f=Value.ref a from e1]at this
  exact this
 cat:=λf w x y _ hx Ar s Q E g hq=>by
  obtain⟨e1,t,e2⟩:=O.cat f x y hx
  rw[show p.X.fv f=Value.ref p.nm.cls from e1]
  exact cls_value (Base.Gq g O.S) O.W.rd e2 rfl (hq t)
section
variable{M:Model}{A:Around}{E:Value->Shared->Prop}{s:Shared}{name qual:Str}{params:Arguments}{body:List Stmt}{scope:Scope}{env:Env}{c P:Addr}{ps:Array Value}{pos:Pos}{firstLine:Nat}{mg:Str->Option Value}
 {clos:List (Str×Addr)} {Q:Value->Shared->Prop}
theorem iT{h:Heap}{N c' P':Addr}{qual:Str}{ps:Array Value}(hr:h.CodeRec (.ref c') qual)(ht:h.TableAt c' P' ps)(hN:N<=c'):fU N h (.ref c') qual:=by
 obtain⟨c,o,vs,t,e,h1,h2,h3⟩:=hr
 cases e
 obtain⟨⟨o',vs',e1,e2,e3,e4⟩,_⟩:=ht
 rw[h1]at e1;cases e1
 exact⟨c',o,vs,t,rfl,h1,e2,h2,h3,hN⟩
inductive Ax(s:Shared)(P:Addr)(qual:Str)(ps:Array Value)(pos:Pos)(code:Value)(s₂:Shared):Prop
 |mk (c':Addr) (h':Heap) (tk:Tok) (e:code=.ref c') (es:s₂={s with heap:=h',toks:=tk}) (x:Heap.ExtBut P s.heap h') (l:c'<h'.objs.size) (k:fU s.heap.objs.size h' (.ref c') qual) (t:h'.get? P=some (tabObj (ps++#[rawInt pos.line,rawInt pos.col,.ref c']))):Ax s P qual ps pos code s₂
theorem GG(hcl:closureFor scope env=pure clos)(hge0:env.globals=mainGlobals)(hg:s.heap.Ns mainGlobals mg)(hcode:env.code=.ref c)(C:CodeHd s.heap c P)(hP:s.heap.get? P=some (tabObj ps))(ht:TriplesOk ps.toList)
  (hnf:codeAmong pos ps.toList=none) (hgP:mainGlobals≠P) (hb:s.heap.BuiltinsAt mg P)
  (h:∀c' ctv doc h' tk,Heap.ExtBut P s.heap h'->c'<h'.objs.size->fU s.heap.objs.size h' (.ref c') qual->h'.get? P=some (tabObj (ps++#[rawInt pos.line,rawInt pos.col,.ref c']))->
   Q (.ref h'.objs.size) {s with heap:=h'.push (fnMade name qual params body scope clos doc ((mg "__name__").getD .none) c' ctv),toks:=tk}):
  wpAny M A (makeFunction name qual params (.stmts body) scope env [] [] [] pos firstLine) Q E s:=by
 rw[makeFunction_eq]
 simp only[List.zip_nil_right,List.filterMap_nil,List.isEmpty_nil,if_true,pure_bind]
 obtain⟨bm,ob,hbm,RC,_,RD,Vt,hcls,hdict,hdata⟩:=hb
 unfold makeTail
 rw[hcl,hge0]
 refine wpAny_bind (wpAny_pure ?_)
 have tail:∀(s₁:Shared) (ctv:Value),(∀b o,s.heap.get? b=some o->s₁.heap.get? b=some o)->(∃h₁ tk,s₁={s with heap:=h₁,toks:=tk})->s.heap.objs.size<=s₁.heap.objs.size->
   wpAny M A (functionCode env pos firstLine name qual params scope (.stmts body)) (λcode s₂=>Ax s P qual ps pos code s₂) E s₁:=by
  intro s₁ ctv k e hsz
  obtain⟨h₁,tk₁,rfl⟩:=e
  refine wpAny_functionCodeX hcode ((C.keeps k).code (k _ _ hP) ht) ((C.keeps k).tab (k _ _ hP)) hnf λc' h' tk hx hge hlt _ hrec htb htb'=>?_
  obtain⟨P',_,_,htc⟩:=htb'
  exact⟨c',h',tk,rfl,rfl,λb o hb e=>hx b o hb (k b o e),hlt,iT hrec htc (Nat.le_trans hsz hge),htb.2⟩
 have fin:∀(ctv:Value) (code:Value) (s₂:Shared),(Ax s P qual ps pos code s₂)->
   wpAny M A (builtinsFor mainGlobals env.builtins) (λbi s₃=>bi=builtinsNs/\s₃=s₂/\wpAny M A (nsGet mainGlobals "__name__") (λnm s₄=>nm=mg "__name__"/\s₄=s₂) E s₂) E s₂:=by
  rintro ctv code s₂ ⟨c',h',tk,rfl,rfl,hx,hlt,hrec,htb⟩
  have hg':=hg.extBut hx hgP
  exact wpAny_builtinsFor hg' hbm RC (hx _ _ RD Vt) hcls hdict hdata ⟨rfl,rfl,wpAny_nsGet hg' ⟨rfl,rfl⟩⟩
 cases clos with
 |nil=>
  simp only[List.isEmpty_nil,if_true]
  refine wpAny_bind (wpAny_pure ?_)
  refine wpAny_bind (wpAny_mono (tail s .none (λ_ _ e=>e) ⟨s.heap,s.toks,rfl⟩ (Nat.le_refl _)) (λcode s₂ q=>?_) λ_ _ e=>e)
  refine wpAny_bind (wpAny_mono (fin .none code s₂ q) (λbi s₃ q'=>?_) λ_ _ e=>e)
  obtain⟨rfl,rfl,R8⟩:=q'
  refine wpAny_bind (wpAny_mono R8 (λnm s₄ q3=>?_) λ_ _ e=>e)
  obtain⟨rfl,rfl⟩:=q3
  obtain⟨c',h',tk,rfl,rfl,hx,hlt,hrec,htb⟩:=q
  cases hdoc:docOf body with
  |none=>exact wpAny_bind (wpAny_pure (wpAny_newObj_type (h c' .none .none h' tk hx hlt hrec htb) (by size_fits)))
  |some t=>exact wpAny_bind (wpAny_mkText (wpAny_newObj_type (h c' .none _ h' _ hx hlt hrec htb) (by size_fits)))
 |cons q r=>
  simp only[List.isEmpty_cons,Bool.false_eq_true,if_false]
  refine wpAny_bind (wpAny_newTextTuple ?_)
  refine wpAny_bind (wpAny_mono (tail _ .none (λb o e=>Heap.get?_push_of_some _ e) ⟨_,_,rfl⟩ (by rw[Heap.size_push];exact Nat.le_succ _)) (λcode s₂ q=>?_) λ_ _ e=>e)
  refine wpAny_bind (wpAny_mono (fin .none code s₂ q) (λbi s₃ q'=>?_) λ_ _ e=>e)
  obtain⟨rfl,rfl,R8⟩:=q'
  refine wpAny_bind (wpAny_mono R8 (λnm s₄ q3=>?_) λ_ _ e=>e)
  obtain⟨rfl,rfl⟩:=q3
  obtain⟨c',h',tk,rfl,rfl,hx,hlt,hrec,htb⟩:=q
  cases hdoc:docOf body with
  |none=>exact wpAny_bind (wpAny_pure (wpAny_newObj_type (h c' _ .none h' tk hx hlt hrec htb) (by size_fits)))
  |some t=>exact wpAny_bind (wpAny_mkText (wpAny_newObj_type (h c' _ _ h' _ hx hlt hrec htb) (by size_fits)))
end
theorem Base.lay{h₁ h h':Heap}{N:Nat}{tabs:List Tab}{K:Frag}{mg mb:Str->Option Value}(S:Start h₁ N tabs K mg mb)(B:Base h₁ N tabs h){t:Tab}(ht:t∈tabs)(x:Heap.ExtBut t.P h h')(hnew:TabOk N h' t):Base h₁ N tabs h':=by
 obtain⟨ps₀,eP,_⟩:=B.tab t ht
 refine Base.Ja S (λa o e n=>x a o (n t ht) (B.old' a o e n)) λt' ht'=>?_
 by_cases q:t'.P=t.P
 ·have:t'=t:=S.apart t' ht' t ht q
  exact this▸hnew
 ·obtain⟨ps,e1,e2,e3⟩:=B.tab t' ht'
  exact⟨ps,x _ _ q e1,e2,e3.imp id λr=>r.imp λcv r=>⟨r.1,r.2.keep λa o e c _=>x a o (λz=>by rw[z,eP]at e;rw[<-aq e]at c;cases c) e⟩⟩
theorem Dt{p:Place}{fI:Addr}(O:jC p fI){t:Tab}(ht:t∈p.tabs)(name:Str)(params:Arguments)(body:List Stmt)(scope:Scope)(hl:∀t∈p.tabs,p.l₀≠t.P):mU p.X (.ref t.c) name params body scope t.pos t.qual:=by
 intro Ar env clos s Q E g hge hcode hcl h
 have g:Base p.h₁ p.N p.tabs s.heap:=g
 obtain⟨ps,eP,hT,Nz⟩:=g.tab t ht
 obtain⟨hb,hgP⟩:=g.bmain O.S eP
 have lowP:t.P<p.N:=O.S.live _ _ (O.S.tab t ht)
 have fin:∀(h':Heap) (tk:Tok) (o:Obj) (fd:FuncData) (cv:Value),Heap.ExtBut t.P s.heap h'->Base p.h₁ p.N p.tabs h'->s.heap.objs.size<=h'.objs.size->o.isFreed=false->o.data=.func fd->fd.code=cv->fd.qualname=t.qual->fU p.N h' cv t.qual->
   (∃doc pm cd ctv,fd=fnX name t.qual params body scope clos .none .none doc pm none cd ctv)->Q (.ref h'.objs.size) {s with heap:=h'.push o,toks:=tk}:=by
  intro h' tk o fd cv hx B' hsz hf hd Vu hq hc hfd
  have kp:Ext h' (h'.push o):=Ext.push _ _
  have Uh:Base p.h₁ p.N p.tabs (h'.push o):=B'.off O.S (W:=λ_=>False) (λ_ q=>q.elim) λa o _ e=>kp a o e
  refine h h'.objs.size fd _ ⟨λa o k e=>kp _ _ (hx a o (λq=>?_) e),λ_=>Uh,λ_ _ _ e=>e,id,rfl⟩ (eK hsz) ⟨⟨o,Heap.get?_push_size _ hf,hd⟩,Nat.le_trans g.size hsz,?_⟩ hfd
  ·exact k.elim (λk=>absurd lowP (Nat.not_lt.mpr (q▸k))) λk=>hl t ht ((show a=p.l₀ from k).symm.trans q)
  ·obtain⟨c,oc,vs,tk,e1,e2,e3,e4,e5,e6⟩:=hc
   exact⟨c,oc,vs,tk,by rw[Vu,e1],kp _ _ e2,e3,e4,by rw[hq];exact e5,e6⟩
 rcases Nz with hnf|⟨cv,hf,hc⟩
 ·refine GG hcl hge (g.ns O.S O.S.g) hcode (g.hd O.S ht) eP hT hnf hgP hb λc' ctv doc h' tk hx hlt hrec htb=>?_
  obtain⟨c,oc,vs,tk',e1,e2,e3,e4,e5,e6⟩:=hrec
  cases e1
  have hc':fU p.N h' (.ref c') t.qual:=⟨c',oc,vs,tk',rfl,e2,e3,e4,e5,Nat.le_trans g.size e6⟩
  have hnew:TabOk p.N h' t:=⟨_,htb,by rw[Array.toList_append];exact TriplesOk_snoc _ _ _ _ hT,.inr ⟨_,by rw[Array.toList_append];exact codeAmong_snoc _ hT hnf,hc'⟩⟩
  exact fin h' tk _ _ (.ref c') hx (g.lay O.S ht hx hnew) (Nat.le_trans e6 (Nat.le_of_lt hlt)) rfl rfl rfl rfl hc' ⟨_,_,_,_,rfl⟩
 ·refine makeFunction_hit hcl hge (g.ns O.S O.S.g) hcode (g.hd O.S ht) eP hT hf hb λctv doc h' tk hx hsz=>?_
  have B':Base p.h₁ p.N p.tabs h':=g.off O.S (W:=λ_=>False) (λ_ q=>q.elim) λa o _ e=>hx a o e
  exact fin h' tk _ _ cv (λb o _ e=>hx b o e) B' hsz rfl rfl rfl rfl (hc.keep λa o e _ _=>hx a o e) ⟨_,_,_,_,rfl⟩
end Mine.Internal
end
section
open PySem PySem.W PyProof.Rows
namespace Mine.Internal
section
variable{X:Cx}{Φ Wn:bO}{Ar:Around}{d e:Nat}{B:Addr->Prop}{s:Shared}{nm:oQ}{D:dY}{a fI C:Addr}{fd:FuncData}
theorem Bs.less(V:Bs (Fr.of X Φ Ar e B) s)(h:d<=e):Bs (Fr.of X Wn Ar d B) s:=⟨V.K,V.R.less h,V.g,V.fresh,V.sub⟩
theorem kI.more(P:kI X Ar d)(h:d<=e):kI X Ar e:=λΦ env s B vs b0 b1 l1 Q E V=>P Φ env s B vs b0 b1 l1 Q E (V.less h)
theorem Pf.more(P:Pf X Φ Ar d)(h:d<=e):Pf X Φ Ar e:=
 ⟨λf vs ps r s B e V rl=>P.fn f vs ps r s B e (V.less h) rl,λf vs ps r s B e V rl=>P.me f vs ps r s B e (V.less h) rl,λf vs ps xs s B e V rl K tp hK Q E q=>P.gen f vs ps xs s B e (V.less h) rl K tp hK Q E λit W S s₁ x I=>q it W S s₁ x
  ⟨I.new,I.lz,I.start,I.keep,I.item,I.done,I.self⟩,λq=>(P.home q).more h⟩
def jo:bO:=⟨λ_ _=>none,λ_ _=>none,λ_ _=>none,false⟩
theorem rF:Pf X jo Ar d:=⟨λ_ _ _ _ _ _ e=>no e,λ_ _ _ _ _ _ e=>no e,λ_ _ _ _ _ _ e=>no e,nofun⟩
def l9(X:Cx)(ev:bO->List PV->Option PV)(v:Value):Prop:=∀(Φ:bO) (Ar:Around) (d:Nat) (B:Addr->Prop) (s:Shared) (vs:List Value) (ps:List PV) (r:PV),(∀Ar,bD Ar d->Pf X Φ Ar d)->Bs (Fr.of X Φ Ar (d+20) B) s->Internal.af s.heap B ps vs->ev Φ ps=some r->aY (Fr.of X Φ Ar (d+20) B) s r (call v vs)
def Jk(X:Cx)(ev:bO->List PV->Option (List PV))(v:Value):Prop:=∀(Φ:bO) (Ar:Around) (d:Nat) (B:Addr->Prop) (s:Shared) (vs:List Value) (ps xs:List PV),(∀Ar,bD Ar d->Pf X Φ Ar d)->Bs (Fr.of X Φ Ar (d+20) B) s->Internal.af s.heap B ps vs->ev Φ ps=some xs->∀(K:Addr->Prop) (tp:Bool),(∀a,B a->K a)->mT (Fr.of X Φ Ar (d+20) B) K s tp xs (call v vs)
structure Jo where
 fn:List (bO->List PV->Option PV)
 me:List (bO->List PV->Option PV)
 gen:List (bO->List PV->Option (List PV))
noncomputable def Jo.up(L:Jo)(Φ:bO):bO:=⟨λf ps=>L.fn[f]?.bind λev=>ev Φ ps,λf ps=>L.me[f]?.bind λev=>ev Φ ps,λf ps=>L.gen[f]?.bind λev=>ev Φ ps,false⟩
def Jo.d9(L:Jo)(k:Nat):bO:=Nat.rec jo (λ_ Φ=>L.up Φ) k
structure HW(X:Cx)(L:Jo):Prop where
 fn:∀f ev,L.fn[f]?=some ev->l9 X ev (X.fv f)
 me:∀f ev,L.me[f]?=some ev->l9 X ev (X.mv f)
 gen:∀f ev,L.gen[f]?=some ev->Jk X ev (X.gv f)
theorem CX{L:Jo}(O:HW X L):∀(k:Nat) (Ar:Around),bD Ar (20*k)->Pf X (L.d9 k) Ar (20*k):=by
 intro k
 induction k with
 |zero=>intros;exact rF
 |succ k ih=>exactλAr R=>⟨λf vs ps r s B e V rl=>aa e λev e1 e2=>O.fn f ev e1 (L.d9 k) Ar (20*k) B s vs ps r ih (V.less (Nat.le_refl _)) rl e2,
  λf vs ps r s B e V rl=>aa e λev e1 e2=>O.me f ev e1 (L.d9 k) Ar (20*k) B s vs ps r ih (V.less (Nat.le_refl _)) rl e2,
  λf vs ps xs s B e V rl K tp hK Q E q=>aa e λev e1 e2=>O.gen f ev e1 (L.d9 k) Ar (20*k) B s vs ps xs ih (V.less (Nat.le_refl _)) rl e2 K tp hK Q E λit W S s₁ x I=>q it W S s₁ x ⟨I.new,I.lz,I.start,I.keep,I.item,I.done,I.self⟩,nofun⟩
theorem JW{body:SL (D.sc nm)}(A:FnAt X a fd)(DO:dJ fd D body.sts)(hnm:X.nm=nm)(nt:(D.params==(["script"]:List Str))=false):l9 X (aG D body) (.ref a):=λΦ Ar d B s vs ps r P V rl e=>
 BG (Z:=Fr.of X Φ Ar (d+20) B) (d:=d+19) V A DO rfl hnm (λAr R=>(P Ar (R.less (Nat.le_add_right d 19))).more (Nat.le_add_right d 19)) rl e λh=>nomatch (nt.symm.trans h)
theorem JX{b:GB (D.sc nm)}(A:FnAt X a fd)(DO:xo fd D b.sts)(hnm:X.nm=nm):Jk X (tE D b) (.ref a):=λΦ Ar d B s vs ps xs P V rl e K tp hK=>
 J0 (Z:=Fr.of X Φ Ar (d+20) B) (d:=d+17) V A DO rfl hnm (λAr R=>(P Ar (R.less (Nat.le_add_right d 17))).more (Nat.le_add_right d 17)) rl e K tp
theorem Nj{x:Ao (D.sc nm)}(hn:[x.a0.nm,x.a1.nm,x.a2.nm,x.a3.nm,x.a4.nm]=fieldNames)(A:FnAt X fI fd)(DO:dJ fd D x.sts)(hnm:X.nm=nm)(nt:(D.params==(["script"]:List Str))=false){K:Frag}(W:ER K C fI)(hK:∀h,X.G h->K.In h):l9 X (EK D x C) (.ref C):=λΦ Ar d B s vs ps r P V rl e=>
 PO (Z:=Fr.of X Φ Ar (d+20) B) (d:=d+18) hn V A DO rfl hnm nt (λAr R=>(P Ar (R.less (Nat.le_add_right d 18))).more (Nat.le_add_right d 18)) W hK rl e
theorem F6{par loc:List Str}{x:jA (D.sc nm) par loc}(N:gJ x.nest par loc)(A:FnAt X a fd)(DO:dJ fd D x.sts)(hnm:X.nm=nm)(hl:∃y∈D.params++D.locals,D.names.lookup y=some .local)
  (mk:mU X fd.code x.t.x x.ip x.b.sts x.cV x.ipos (fd.qualname++".<locals>."++x.t.x)):l9 X (λ_=>nF D x 18 jo) (.ref a):=λΦ Ar d B s vs ps r P V rl e=>
 FH (Z:=Fr.of X jo Ar (d+20) B) (d:=d+19) N (V.less (Nat.le_refl _)) A DO rfl (Nat.le_trans (by decide:18<=19) (Nat.le_add_left 19 d)) hnm (λAr d R=>rF) hl mk rl e
theorem F5{par loc:List Str}{x:jq (D.sc nm) par loc}(N:gJ x.nest par loc)(A:FnAt X a fd)(DO:dJ fd D x.sts)(hnm:X.nm=nm)
  (mk:mU X fd.code x.t.x x.ip x.b.sts x.cV x.ipos (fd.qualname++".<locals>."++x.t.x)):l9 X (λ_=>nE D x 18 jo) (.ref a):=λΦ Ar d B s vs ps r P V rl e=>
 FG (Z:=Fr.of X jo Ar (d+20) B) (d:=d+19) N (V.less (Nat.le_refl _)) A DO rfl (Nat.le_trans (by decide:18<=19) (Nat.le_add_left 19 d)) hnm (λAr d R=>rF) mk rl e
end
theorem uO:∀(xs:List Str) (vs:List Value),vs.length=xs.length->xs.filter (λn=>((xs.zip vs).lookup n).isNone)=[]:=λxs vs hl=>by
 rw[List.filter_eq_nil_iff]
 intro x hx
 simp only[Option.isNone_iff_eq_none]
 intro h
 have:=List.lookup_eq_none_iff.mp h
 obtain⟨i,hi,rfl⟩:=List.mem_iff_getElem.mp hx
 have:=this (xs[i],vs[i]'(hl▸hi)) (by
  apply List.mem_iff_getElem.mpr
  exact⟨i,by rw[List.length_zip,hl,Nat.min_self];exact hi,by rw[List.getElem_zip]⟩)
 simp at this
theorem uN:∀(xs:List Str) (vs:List Value) (f:Str->Option Value),xs.Nodup->vs.length=xs.length->(∀x∈xs,f x=(xs.zip vs).lookup x)->xs.filterMap (λn=>(f n).map (n,·))=xs.zip vs:=by
 intro w
 induction w with
 |nil=>intros;rfl
 |cons x xs ih=>
  intro vs f hn hl hf
  cases vs with|nil=>cases hl|cons v vs=>
  have hx:=hf x eF
  rw[List.zip_cons_cons,List.lookup_cons_self]at hx
  rw[List.filterMap_cons,hx,List.zip_cons_cons]
  refine congrArg ((x,v)::·) (ih vs f (List.nodup_cons.mp hn).2 (Nat.succ.inj hl) λy hy=>?_)
  rw[hf y (f5 _ hy),List.zip_cons_cons,List.lookup_cons]
  have:(y==x)=false:=beq_eq_false_iff_ne.mpr λq=>(List.nodup_cons.mp hn).1 (q▸hy)
  rw[this]
theorem m6{fd:FuncData}{xs:List Str}(h1:fd.params.posonlyargs=[])(h2:fd.params.args.map (·.arg)=xs)(h3:fd.params.vararg=none)(h4:fd.params.kwonlyargs=[])(h5:fd.params.kwarg=none)(h6:fd.defaults=.none)(hn:xs.Nodup)(vs:List Value)(hl:vs.length=xs.length):
  bindArgs fd ⟨vs,[]⟩=pure (xs.zip vs):=by
 obtain⟨_,_,⟨po,as,va,ko,kd,kw,df⟩,_,_,_,_,Wr,_,_,_,_,_,_,_⟩:=fd
 cases h1;cases h2;cases h3;cases h4;cases h5;cases h6
 have hm:=uO (as.map (·.arg)) vs hl
 have c1:¬((decide (vs.length>(as.map (·.arg)).length)&&true)=true):=by rw[hl,eE (Nat.lt_irrefl _)];exact nofun
 have c2:¬((!(((as.map (·.arg)).take ((as.map (·.arg)).length-(([]:List Value).drop (([]:List Value).length-(as.map (·.arg)).length)).length)).filter λn=>(((as.map (·.arg)).zip vs).lookup n).isNone).isEmpty)=true):=by
  rw[List.drop_nil,List.length_nil,Nat.sub_zero,List.take_length,hm];exact nofun
 refine(if_neg c1).trans ((if_neg c2).trans ?_)
 have hz:((as.map Arg.arg)++[]).filterMap (λn=>(((as.map Arg.arg).zip vs).lookup n).map (n,·))=(as.map Arg.arg).zip vs:=by rw[List.append_nil];exact uN _ vs _ hn hl λ_ _=>rfl
 have hf:∀{l:List (Str×Value)} {f:Str×Value->List (Str×Value)->Sem (ForInStep (List (Str×Value)))} {k:List (Str×Value)->Sem (List (Str×Value))} {i:List (Str×Value)} {r:Sem (List (Str×Value))},l=[]->k i=r->(forIn l i f>>=k)=r:=λe q=>by rw[e];exact q
 exact hf (List.zip_eq_nil_iff.mpr (.inr List.drop_nil)) (Eq.trans rfl (congrArg (pure (f:=Sem)) hz))
noncomputable abbrev Qz:=List Arg×List Str×Option Arg×List Arg×Option Arg
noncomputable abbrev Face:=(ScopeKind×List (Str×NameKind)×Bool×Bool)×FuncBody×Qz×Value×List (Str×Addr)×Addr×Addr
noncomputable def pO(a:Arguments):Qz:=(a.posonlyargs,a.args.map (·.arg),a.vararg,a.kwonlyargs,a.kwarg)
def nJ(fd:FuncData):Face:=((fd.scope.kind,fd.scope.names,fd.scope.isGenerator,fd.scope.isCoroutine),fd.body,pO fd.params,fd.defaults,fd.closure,fd.globals,fd.builtins)
noncomputable def gC(xs:List Str):Qz:=([],xs,none,[],none)
def dY.face(D:dY)(g:Bool)(sts:List Stmt):Face:=((.function,D.names,g,false),.stmts sts,gC D.params,.none,[],mainGlobals,builtinsNs)
noncomputable def jw:List Str->Bool
 | []=>true
 |x::xs=>!xs.contains x&&jw xs
theorem lA:∀{xs:List Str},jw xs=true->xs.Nodup:=by
 intro w
 induction w with
 |nil=>intros;exact List.nodup_nil
 |cons x xs ih=>
  intro h
  exact List.nodup_cons.mpr ⟨λm=>by
   have:=not_eq (both (show(!xs.contains x&&jw xs)=true from h)).1
   rw[List.contains_iff_mem.mpr m]at this
   exact(nomatch this),ih (both (show(!xs.contains x&&jw xs)=true from h)).2⟩
def dY.ok(D:dY):Bool:=jw (D.params++D.locals)&&(D.names.all (λx=>!(x.2==.free))&&(D.params++D.locals).all λx=>D.names.lookup x==some .local||D.names.lookup x==some .cell)
def dY.R4(D:dY):Bool:=jw (D.params++D.locals)&&(D.params++D.locals).all λx=>D.names.lookup x==some .local
section
variable{fd:FuncData}{D:dY}{sts:List Stmt}{g:Bool}
structure Jj(fd:FuncData)(D:dY)(g:Bool)(sts:List Stmt):Prop where
 kind:fd.scope.kind=.function
 names:fd.scope.names=D.names
 gen:fd.scope.isGenerator=g
 co:fd.scope.isCoroutine=false
 body:fd.body=.stmts sts
 par:pO fd.params=gC D.params
 dflt:fd.defaults=.none
 Im:fd.closure=[]
 glob:fd.globals=mainGlobals
 blt:fd.builtins=builtinsNs
theorem xQ(h:nJ fd=D.face g sts):Jj fd D g sts:=
 ⟨congrArg (·.1.1) h,congrArg (·.1.2.1) h,congrArg (·.1.2.2.1) h,congrArg (·.1.2.2.2) h,congrArg (·.2.1) h,congrArg (·.2.2.1) h,congrArg (·.2.2.2.1) h,congrArg (·.2.2.2.2.1) h,congrArg (·.2.2.2.2.2.1) h,congrArg (·.2.2.2.2.2.2) h⟩
theorem uh(h:pO fd.params=gC D.params)(hd:fd.defaults=.none)(hn:D.params.Nodup)(vs:List Value)(hl:vs.length=D.params.length):bindArgs fd ⟨vs,[]⟩=pure (D.params.zip vs):=
 m6 (congrArg (·.1) h) (congrArg (·.2.1) h) (congrArg (·.2.2.1) h) (congrArg (·.2.2.2.1) h) (congrArg (·.2.2.2.2) h) hd hn vs hl
theorem BF(h:nJ fd=D.face false sts)(k:D.ok=true):dJ fd D sts:=by
 have F:=xQ h
 have hn:=lA (both k).1
 exact⟨F.names,F.kind,F.co,F.gen,F.body,F.Im,F.glob,F.blt,hn,λx q=>by
  have:=List.all_eq_true.mp (both (both k).2).1 _ (mem_of_lookup q)
  exact(nomatch (show(!(NameKind.free==NameKind.free))=true from this)),λx m=>List.all_eq_true.mp (both (both k).2).2 x m,uh F.par F.dflt (List.nodup_append.mp hn).1⟩
theorem B8(h:nJ fd=D.face true sts)(k:D.R4=true)(nt:(D.params==(["script"]:List Str))=false):xo fd D sts:=by
 have F:=xQ h
 have hn:=lA (both k).1
 exact⟨F.names,F.kind,F.co,F.gen,F.body,F.Im,F.glob,F.blt,hn,λx m=>eq_of_beq (List.all_eq_true.mp (both k).2 x m),nt,uh F.par F.dflt (List.nodup_append.mp hn).1⟩
end
def qd.ok{sc:SC}{ib:List Stmt}(n:qd sc ib)(par loc:List Str):Bool:=
 (n.t.ok sc&&(sc.N.lookup n.t.x==some .cell&&(i0 sc n.cV&&(n.ip.defaults.isEmpty&&n.ip.kw_defaults.isEmpty))))&&((n.ip.args.all (·.annotation.isNone)&&(!n.cV.isCoroutine&&!n.cV.isGenerator))&&((jw (par++loc)&&(par++loc).all λx=>n.cV.names.lookup x==some .local)&&((n.cV.names.all λx=>!(x.2==.cell))&&(n.cV.names.lookup ("":Str)==none&&Nat.blt 0 (par++loc).length))))&&!sc.top
theorem AH(env:Env):∀as:List Arg,as.all (·.annotation.isNone)=true->annotationsOf as env=[]:=by
 intro w
 induction w with
 |nil=>intros;rfl
 |cons x as ih=>intro h;obtain⟨x,a,p⟩:=x;cases a with|none=>exact ih (both h).2|some=>exact nomatch (both h).1
theorem yx{sc:SC}{ib:List Stmt}{n:qd sc ib}{par loc:List Str}(h:n.ok par loc=true)(hp:pO n.ip=gC par):gJ n par loc:=by
 obtain⟨h,h0⟩:=both h
 obtain⟨h1,h2⟩:=both h
 obtain⟨a1,h1⟩:=both h1
 obtain⟨a2,h1⟩:=both h1
 obtain⟨a3,h1⟩:=both h1
 obtain⟨a4,a5⟩:=both h1
 obtain⟨h2,h3⟩:=both h2
 obtain⟨b1,h2⟩:=both h2
 obtain⟨b2,b3⟩:=both h2
 obtain⟨h3,h4⟩:=both h3
 obtain⟨c1,c2⟩:=both h3
 obtain⟨d1,h4⟩:=both h4
 obtain⟨d2,d3⟩:=both h4
 have hn:=lA c1
 refine⟨not_eq h0,a1,eq_of_beq a2,a3,List.isEmpty_iff.mp a4,List.isEmpty_iff.mp a5,λenv=>?_,not_eq b2,not_eq b3,hn,λx m=>eq_of_beq (List.all_eq_true.mp c2 x m),λx k m q=>?_,eq_of_beq d2,Nat.blt_eq.mp d3,λqual clos doc pm cd ctv vs hv=>?_⟩
 ·have p1:=congrArg (·.1) hp
  have p2:=congrArg (·.2.2.1) hp
  have p3:=congrArg (·.2.2.2.1) hp
  have p4:=congrArg (·.2.2.2.2) hp
  revert p1 p2 p3 p4 b1
  generalize n.ip=ip
  obtain⟨po,as,va,ko,kd,VN,df⟩:=ip
  intro b1 p1 p2 p3 p4
  obtain rfl:po=[]:=p1
  obtain rfl:va=none:=p2
  obtain rfl:ko=[]:=p3
  obtain rfl:VN=none:=p4
  unfold annTrees
  simp only[Option.toList_none,List.append_nil]
  rw[AH env as b1]
  rfl
 ·have:=List.all_eq_true.mp d1 _ m
  rw[q]at this
  exact nomatch (show(!(NameKind.cell==NameKind.cell))=true from this)
 ·exact m6 (fd:=fnX n.t.x qual n.ip ib n.cV clos .none .none doc pm none cd ctv) (congrArg (·.1) hp) (congrArg (·.2.1) hp) (congrArg (·.2.2.1) hp) (congrArg (·.2.2.2.1) hp) (congrArg (·.2.2.2.2) hp) rfl (List.nodup_append.mp hn).1 vs hv
end Mine.Internal
end
section
open PySem PySem.W PyProof.Rows PySem.Calls
namespace Mine.Internal
noncomputable def IP(o:Obj):Bool:=match o.cls,o.data with
 | .none,.fields _=>true
 |_,_=>false
def pick(as:List Addr)(h:Heap):Frag:=as.filterMap λa=>(h.get? a).bind λo=>bif IP o then none else some (a,o)
theorem GU{as:List Addr}{h:Heap}{a:Addr}{o:Obj}(e:(pick as h).lookup a=some o):h.get? a=some o/\o≠tabObj #[]:=by
 obtain⟨b,_,q⟩:=List.mem_filterMap.mp (mem_of_lookupK e)
 refine aa q λo' e1 e2=>?_
 cases t:IP o' with
 |true=>rw[t]at e2;exact no e2
 |false=>
  rw[t]at e2
  obtain⟨rfl,rfl⟩:=Prod.mk.inj (aq e2)
  exact⟨e1,λz=>by rw[z]at t;exact(nomatch t)⟩
noncomputable def M6(d:Data):Option FuncData:=match d with| .func fd=>some fd|_=>none
theorem FF{d:Data}{fd:FuncData}(h:M6 d=some fd):d=.func fd:=by
 cases d<;>first|exact no h|exact congrArg _ (aq h)
def sX(K:Frag)(a:Addr):Option FuncData:=(K.lookup a).bind λo=>M6 o.data
theorem FY{K:Frag}{a:Addr}{fd:FuncData}(h:sX K a=some fd):∃o,K.lookup a=some o/\o.data=.func fd:=
 aa h λo e1 e2=>⟨o,e1,FF e2⟩
def codeB(K:Frag)(a:Addr):Bool:=(sX K a).any λfd=>codeIn K fd.code fd.qualname
def tY(K:Frag)(a:Addr)(t:Tab)(x:Str):Bool:=(sX K a).any λfd=>(fd.code==.ref t.c)&&(fd.qualname++".<locals>."++x==t.qual)
def dB(K:Frag)(a:Addr):Option Face:=(sX K a).map nJ
theorem AI{α:Type}{o:Option α}{x:α}{f:α->Bool}(h:o.any f=true)(e:o=some x):f x=true:=by rw[e]at h;exact h
section
variable{X:Cx}{K:Frag}{a:Addr}{fd:FuncData}{D:dY}{sts:List Stmt}{F:Face}
theorem Iw(hK:∀h,X.G h->K.In h)(e:sX K a=some fd)(c:codeB K a=true):FnAt X a fd:=by
 obtain⟨o,e1,e2⟩:=FY e
 exact⟨λh g=>⟨o,hK h g _ _ e1,e2⟩,λh g=>codeRec_of (hK h g) (AI (f:=λfd:FuncData=>codeIn K fd.code fd.qualname) c e)⟩
theorem xP(h:dB K a=some F):∃fd,sX K a=some fd/\nJ fd=F:=Option.map_eq_some_iff.mp h
theorem jr(hK:∀h,X.G h->K.In h)(h:dB K a=some (D.face false sts))(c:codeB K a=true)(k:D.ok=true):∃fd,sX K a=some fd/\FnAt X a fd/\dJ fd D sts:=
 (xP h).imp λ_ e=>⟨e.1,Iw hK e.1 c,BF e.2 k⟩
theorem qX(hK:∀h,X.G h->K.In h)(h:dB K a=some (D.face true sts))(c:codeB K a=true)(k:D.R4=true)(nt:(D.params==(["script"]:List Str))=false):∃fd,FnAt X a fd/\xo fd D sts:=
 (xP h).imp λ_ e=>⟨Iw hK e.1 c,B8 e.2 k nt⟩
theorem mL{t:Tab}{x:Str}(h:tY K a t x=true)(e:sX K a=some fd):fd.code=.ref t.c/\fd.qualname++".<locals>."++x=t.qual:=by
 have:=both (AI (f:=λfd:FuncData=>(fd.code==.ref t.c)&&(fd.qualname++".<locals>."++x==t.qual)) h e)
 exact⟨eq_of_beq this.1,eq_of_beq this.2⟩
end
noncomputable def rC(K:Frag)(x:Str)(a:Addr):Bool:=(nsIn K mainGlobals x==some (some (.ref a)))&&keepIn K (.ref a)
theorem R2{P:Prop}(h:false=true):P:=nomatch h
noncomputable def O2(f:UInt64)(v:Value):Bool:=match v with| .float b _=>b==f|_=>false
noncomputable def vInt(i:Int)(v:Value):Bool:=match v with| .int b _=>b==i|_=>false
noncomputable def vStr(x:Str)(v:Value):Bool:=match v with| .str b _=>b==x|_=>false
theorem HD{f:UInt64}{v:Value}(h:O2 f v=true):∃t,v=.float f t:=by
 cases v<;>first|exact R2 h|exact⟨_,congrArg (Value.float · _) (eq_of_beq h)⟩
theorem HE{f:Int}{v:Value}(h:vInt f v=true):∃t,v=.int f t:=by
 cases v<;>first|exact R2 h|exact⟨_,congrArg (Value.int · _) (eq_of_beq h)⟩
theorem HG{f:Str}{v:Value}(h:vStr f v=true):∃t,v=.str f t:=by
 cases v<;>first|exact R2 h|exact⟨_,congrArg (Value.str · _) (eq_of_beq h)⟩
noncomputable def oo(f:Value->Bool)(o:Option (Option Value)):Bool:=o.any (·.any f)
theorem I1{f:Value->Bool}{o:Option (Option Value)}(h:oo f o=true):∃v,o=some (some v)/\f v=true:=by
 cases o with
 |none=>exact nomatch h
 |some o=>cases o with
  |none=>exact nomatch h
  |some v=>exact⟨v,rfl,h⟩
def Dg(K:Frag)(x:Str)(f:UInt64):Bool:=oo (O2 f) (nsIn K mainGlobals x)
def Dh(K:Frag)(x:Str)(i:Int):Bool:=oo (vInt i) (nsIn K mainGlobals x)
noncomputable def yC(K:Frag)(x:Str):Bool:=nsIn K mainGlobals x==some none
noncomputable def K6(f:Option (Option Value))(a:Addr):Bool:=f==some (some (.ref a))
theorem yJ{f:Option (Option Value)}{a:Addr}(h:K6 f a=true):f=some (some (.ref a)):=eq_of_beq h
def M3(x:Str)(c:CFound):Bool:=match c with| .val v=>vStr x v|_=>false
theorem Fj{x:Str}{c:CFound}(h:M3 x c=true):∃t,c=.val (.str x t):=by
 cases c with
 |val v=>exact(HG h).imp λt e=>congrArg _ e
 |get=>exact nomatch h
def Hi(f:Option CFound)(x:Str):Bool:=f.any (M3 x)
theorem rT{f:Option CFound}{x:Str}(h:Hi f x=true):∃t,f=some (.val (.str x t)):=by
 cases f with
 |none=>exact nomatch h
 |some c=>exact(Fj h).imp λt e=>congrArg _ e
section
variable{K:Frag}{h:Heap}{mg:Str->Option Value}(X:K.In h)(G:h.Ns mainGlobals mg)
include X G
theorem lB{x:Str}{a:Addr}(e:rC K x a=true):mg x=some (.ref a)/\keepIn K (.ref a)=true:=
 ⟨mg_of X G (eq_of_beq (both e).1),(both e).2⟩
theorem zP{x:Str}{f:UInt64}(e:Dg K x f=true):∃t,mg x=some (.float f t):=
 (I1 e).elim λv q=>(HD q.2).imp λt r=>(mg_of X G q.1).trans (congrArg some r)
theorem zQ{x:Str}{i:Int}(e:Dh K x i=true):∃t,mg x=some (.int i t):=
 (I1 e).elim λv q=>(HE q.2).imp λt r=>(mg_of X G q.1).trans (congrArg some r)
theorem wF{x:Str}(e:yC K x=true):mg x=none:=mg_none_of X G (eq_of_beq e)
end
noncomputable def iz{α β:Type}(f:α->β->Bool):List α->List β->Bool
 | [],[]=>true
 |a::as,b::bs=>f a b&&iz f as bs
 |_,_=>false
theorem iA{α β:Type}{f:α->β->Bool}{d:β}:∀{as:List α} {bs:List β} {i:Nat} {a:α},iz f as bs=true->as[i]?=some a->f a (bs.getD i d)=true:=by
 intro w
 induction w with
 |nil=>exactλ_ e=>nomatch e
 |cons x as ih=>
  intro v i a h e
  cases v with
  |nil=>exact nomatch h
  |cons y bs=>
   cases i with
   |zero=>exact aq e▸(both h).1
   |succ i=>exact @ih bs i a (both h).2 e
def IS(K:Frag)(C:Addr)(x:Str)(a:Addr):Bool:=K6 (findIn K (.ref C) x) a&&((typeIn K (.ref a)==some (.type "function"))&&(keepIn K (.ref a)&&!(fieldNames.contains x)))
theorem C3{K:Frag}{C:Addr}{x:Str}{a:Addr}(h:IS K C x a=true):findIn K (.ref C) x=some (some (.ref a))/\typeIn K (.ref a)=some (.type "function")/\keepIn K (.ref a)=true/\x∉fieldNames:=by
 obtain⟨h1,h2⟩:=both h
 obtain⟨h2,h3⟩:=both h2
 obtain⟨h3,h4⟩:=both h3
 refine⟨yJ h1,eq_of_beq h2,h3,λq=>?_⟩
 have h4:=not_eq h4
 rw[List.contains_iff_mem.mpr q]at h4;exact nomatch h4
def Qj(K:Frag)(C fI:Addr):Bool:=
 (makesIn K C&&(K6 (findIn K (.ref C) "__init__") fI&&(typeIn K (.ref fI)==some (.type "function"))))&&
 (((findIn K (.ref C) "__setattr__"==some (some (.builtin "object.__setattr__")))&&(plainOver K C&&(fieldNames.all λx=>findIn K (.ref C) x==some none)))&&
 (((clsIn K C).any (·.hasDict)&&(findIn K (.ref C) "__getattribute__"==some (some (.builtin "object.__getattribute__"))))&&
 (((findIn K (.ref C) "__getattr__"==some none)&&readsIn K C (.type "type"))&&(Hi (findCls K (.ref C) (.type "type") "S") " "&&Hi (findCls K (.ref C) (.type "type") "T") "\t"))))
theorem EJ{K:Frag}{C fI:Addr}(h:Qj K C fI=true):ER K C fI:=by
 obtain⟨h1,h⟩:=both h
 obtain⟨a1,h1⟩:=both h1
 obtain⟨a2,a3⟩:=both h1
 obtain⟨h2,h⟩:=both h
 obtain⟨b1,h2⟩:=both h2
 obtain⟨b2,b3⟩:=both h2
 obtain⟨h3,h⟩:=both h
 obtain⟨c1,c2⟩:=both h3
 obtain⟨h4,h5⟩:=both h
 obtain⟨d1,d2⟩:=both h4
 obtain⟨e1,e2⟩:=both h5
 exact⟨a1,yJ a2,eq_of_beq a3,eq_of_beq b1,b2,λx m=>eq_of_beq (List.all_eq_true.mp b3 x m),c1,eq_of_beq c2,eq_of_beq d1,d2,rT e1,rT e2⟩
noncomputable def AM(K:Frag):Bool:=match nsIn K cStatics sharingNotToldKey with|some none=>true|_=>false
theorem AN{K:Frag}{h:Heap}(X:K.In h)(nl:h.NoLimit)(e:AM K=true):NoneBooked h:=by
 obtain⟨mc,hn,_⟩:=nl
 refine⟨mc,hn,ns_none_of X hn ?_⟩
 unfold AM at e
 revert e
 cases nsIn K cStatics sharingNotToldKey with
 |none=>exact nofun
 |some o=>cases o with
  |none=>exactλ_=>rfl
  |some v=>exact nofun
def Dd(nm:oQ)(K:Frag)(addrs kR lq:List Addr):Bool:=
 (iz (rC K) nm.fns addrs&&(iz (rC K) nm.gens kR&&(nm.oV.all (λx=>Dg K x.1 x.2)&&nm.jl.all λx=>Dh K x.1 x.2)))&&
 ((jH.all (yC K)&&iz (IS K nm.cls) nm.ms lq)&&nm.Bg.all λc=>Nat.beq (addrs.getD c.1 0) nm.cls&&Hi (findCls K (.ref nm.cls) (.type "type") c.2.1) c.2.2)&&AM K
noncomputable def gT(prog:Program)(w:World)(h₁:Heap)(N:Nat)(l₀:Addr)(tabs:List Tab)(K:Frag)(mg mb:Str->Option Value)(nm:oQ)(addrs kR lq:List Addr):Place where
 prog:=prog
 w:=w
 h₁:=h₁
 N:=N
 l₀:=l₀
 tabs:=tabs
 K:=K
 mg:=mg
 mb:=mb
 nm:=nm
 fv:=λf=>.ref (addrs.getD f 0)
 gv:=λf=>.ref (kR.getD f 0)
 mv:=λf=>.ref (lq.getD f 0)
theorem Em{h:Heap}:(∃a o,h.get? a=some o)->∃N,(∀a o,h.get? a=some o->a<N)/\∃a o,N=a+1/\h.get? a=some o:=by
 have key:∀n,(∀a o,h.get? a=some o->a<n)->(∃a o,h.get? a=some o)->∃N,(∀a o,h.get? a=some o->a<N)/\∃a o,N=a+1/\h.get? a=some o:=by
  intro n
  induction n with
  |zero=>exactλh1 ⟨a,o,e⟩=>absurd (h1 a o e) (Nat.not_lt_zero a)
  |succ n ih=>
   intro h1 h2
   cases e:h.get? n with
   |some o=>exact⟨n+1,h1,n,o,rfl,e⟩
   |none=>
    refine ih (λa o q=>?_) h2
    rcases Nat.lt_or_ge a n with l|l
    ·exact l
    ·rw[Nat.le_antisymm (Nat.le_of_lt_succ (h1 a o q)) l,e]at q
     exact no q
 exact key h.objs.size λa o e=>Heap.lt_size e
section
variable{prog:Program}{w:World}{h₁:Heap}{tabs:List Tab}{K:Frag}{mg mb:Str->Option Value}{nm:oQ}{addrs kR lq:List Addr}{fI:Addr}{N l₀:Nat}
theorem wu(hN:(∀a o,h₁.get? a=some o->a<N)/\∃a o,N=a+1/\h₁.get? a=some o)(X:∀a o,K.lookup a=some o->h₁.get? a=some o/\o≠tabObj #[])(g:h₁.Ns mainGlobals mg)(b:h₁.Ns builtinsNs mb)(nl:h₁.NoLimit)(hb:∀x:Str,x≠"__name__"->mb x=bootBuiltins x)
  (bm:∃bm ob,mg "__builtins__"=some (.ref bm)/\bm≠builtinsNs/\h₁.get? bm=some ob/\ob.cls=.type "module"/\ob.dict=some builtinsNs/\ob.data=.plain)
  (tab:∀t∈tabs,h₁.get? t.P=some (tabObj #[])) (hd:tabs.all (λt=>codeHdIn K t.c t.P)=true) (apart:∀t∈tabs,∀t'∈tabs,t.P=t'.P->t=t')
  (W:Qj K nm.cls fI=true) (k:Dd nm K addrs kR lq=true):jC (gT prog w h₁ N l₀ tabs K mg mb nm addrs kR lq) fI:=by
 have XI:K.In h₁:=λa o e=>(X a o e).1
 refine fz λhP hK=>?_
 obtain⟨k,k0⟩:=both k
 obtain⟨n1,n2⟩:=both k
 obtain⟨a1,n1⟩:=both n1
 obtain⟨a2,n1⟩:=both n1
 obtain⟨a3,a4⟩:=both n1
 obtain⟨n2,a7⟩:=both n2
 obtain⟨a5,a6⟩:=both n2
 refine hK ?_
 clear hK hP
 refine⟨⟨hN.1,hN.2,tab,λt ht=>codeHd_of_K XI (List.all_eq_true.mp hd t ht),apart,X,g,b,nl,AN XI nl k0,hb,bm⟩,EJ W,λf x e=>lB XI g (iA a1 e),λf x e=>lB XI g (iA a2 e),λx b e=>zP XI g (List.all_eq_true.mp a3 _ (mem_of_lookup e)),λx b e=>zQ XI g (List.all_eq_true.mp a4 _ (mem_of_lookup e)),λx hx=>wF XI g (List.all_eq_true.mp a5 x hx),λf x e=>?_,λf x y m=>?_⟩
 ·obtain⟨m1,m2,m3,m4⟩:=C3 (iA (d:=0) a6 e)
  exact⟨_,rfl,m1,m2,m3,m4⟩
 ·have:=both (List.all_eq_true.mp a7 _ m)
  exact⟨congrArg Value.ref (Nat.eq_of_beq_eq_true this.1),rT this.2⟩
theorem Cc{p:Place}{s₁ s':Shared}(O:jC p fI)(h1:p.h₁=s₁.heap)(hg:s₁.gens=#[])(x:aJ p.X p.X.V s₁ s'):OldK s₁.heap s'.heap/\s'.os=s₁.os/\AllBare s'.gens:=by
 have L8:=Base.start O.S
 have S:=O.S
 rw[h1]at L8 S
 have B:Base s₁.heap p.N p.tabs s'.heap:=by
  have:=x.G (show p.X.G s₁.heap by show Base p.h₁ _ _ _;rw[h1];exact L8)
  rw[<-h1];exact this
 have kp:∀b o,s₁.heap.get? b=some o->(∃t∈p.tabs,b=t.P)\/s'.heap.get? b=some o:=λb o e=>by
  by_cases q:∃t∈p.tabs,b=t.P
  ·exact .inl q
  ·exact .inr (B.old' b o e λt ht z=>q ⟨t,ht,z⟩)
 refine⟨⟨λb o e=>(kp b o e).symm.imp id ?_,λb o e=>(kp b o e).elim (λ⟨t,ht,q⟩=>?_) λq=>⟨o,q⟩⟩,x.os,x.bare (AllBare.of_eq hg)⟩
 ·rintro⟨t,ht,rfl⟩
  have e0:=S.tab t ht
  rw[e]at e0
  obtain rfl:=aq e0
  refine fz λhP hK=>?_
  obtain⟨ps,e1,_⟩:=B.tab t ht
  obtain⟨oc,vs,_,_,_,_,_,_,_,c1,c2,c3,c4,_⟩:=S.hd t ht
  refine hK ?_
  clear hK hP
  refine .inl ⟨⟨t.c,oc,vs,c1,c2,c3,c4⟩,rfl,#[],ps,rfl,?_⟩
  rw[e1]
  simp[tabObj]
 ·obtain⟨ps,e1,_⟩:=B.tab t ht
  exact⟨_,q▸e1⟩
end
theorem Gw{P:Params}{h:Heap}{a:Addr}{vs:List Value}{xs:List WData}(W:Well P h (.ref a) (.list xs))(hl:h.IsList a vs.toArray):∃n,h.get? a=some (aU vs n):=by
 cases W with
 |list ha wa=>
  refine fz λhP hK=>?_
  obtain⟨o,ho,_,n,hd⟩:=hl
  refine hK ?_
  clear hK hP
  rw[ha]at ho;cases ho
  obtain⟨e,_⟩:=Data.seq.inj hd
  obtain rfl:=List.toArray_inj e
  exact⟨_,ha⟩
end Mine.Internal
end
section
open PySem PySem.W PyProof.Rows
namespace Mine.Internal
section
variable{sc:SC}
def SO.add(x:SW sc)(y:SE sc)(p:Pos):SO sc:=⟨.BinOp x.e .Add y.e p,λΦ σ=>(x.ev Φ σ).bind λxs=>(y.ev Φ σ).bind λq=>q.gw.bind λys=>bif fits (xs.length+ys.length)then some (xs++ys)else none,
 λ{Z σ ws s zs} V e Q E h=>aa e λxs e1 e=>aa e λq e2 e=>aa e λys e3 e=>by
  cases hc:fits (xs.length+ys.length)with
  |false=>rw[hc]at e;exact no e
  |true=>
   rw[hc]at e
   obtain rfl:=aq e
   refine wpAny_BinOp (x.go V e1 λv vs s₁ x₁ aj l r₁=>y.go aj e2 λw s₂ x₂ aD r₂=>?_)
   obtain⟨a,n,rfl,_,g⟩:=l.stp x₂
   have r₁':=r₁.stp aj.sub x₂
   refine Fr.Rep.lst r₂ e3 (M:=λw=>wpAny Z.X.M Z.Ar (binaryOp .Add (.ref a) w) Q E s₂) λb m us _ g' rl=>PySem.P.add_list (items:=vs.toArray) (items2:=us.toArray) (n:=n) (n2:=m) g g' ?_ (r₁'.size▸rl.size▸bT (aQ hc))
   rw[List.append_toArray]
   have z:s.heap.get? s₂.heap.objs.size=none:=(x₁.trans x₂).live (.inl (aD.K.size _ aD.g)) (bL _)
   exact h _ _ 0 _ ((x₁.trans x₂).trans aD.toBs.push) z (aD.K.size _ aD.g) (Heap.get?_push_size _ rfl) (Internal.af.move (λb o k e=>⟨⟨k,λz=>ah (z▸bL _) ⟨o,e⟩⟩,Heap.get?_push_of_some _ e⟩) (Internal.af.append rl r₁'))⟩
def SE.Hz(x:SW sc)(p1 p:Pos)(hg:aC sc "tuple"=true):SE sc:=⟨.Call (.Name "tuple" p1) [x.e] [] p,λΦ σ=>(x.ev Φ σ).bind λxs=>bif fits xs.length then some (.tup xs)else none,⟨λ_ _=>rfl,λop=>by cases op<;>rfl,λ_ _=>rfl⟩,
 λ{Z σ ws s r} V e Q E q=>aa e λxs e1 e=>iI (M:=λr=>(∀v s',aJ Z.X Z.X.V s s'->Z.Rep s'.heap r v->Q v s')->_) e (λc q=>wpAny_Call_NameR (fm V hg (v:=.type "tuple") (by decide+kernel) (by decide+kernel) (by
  rw[show starEach [x.e] Z.env=[(false,eval x.e Z.env)]from x.pl.st _ _]
  refine PySem.callWith_type rfl (Calls.evalArgs_plain (Calls.spliced_cons (x.go V e1 λv vs s₁ x₁ aj l rl=>Calls.spliced_nil ?_)))
  obtain⟨a,n,rfl,_,g⟩:=l
  refine call_tuple_list (lst_is g) (λh' hk=>?_) (rl.size▸bT (aQ c))
  have na:Z.B h'.objs.size:=aj.fresh _ (aj.K.size _ ((aj.toBs.ext (h':=h') (tk:=s₁.toks) (K:=Z.X.V) (g:=0) hk).G aj.g)) (by
   cases q:s₁.heap.get? h'.objs.size with
   |none=>rfl
   |some o=>have:=hk _ _ q;rw[bL]at this;exact no this)
  exact aj.toBs.at (s:=s₁) (λb o e=>Heap.get?_push_of_some _ (hk b o e)) (Rep.yt na (Heap.get?_push_size _ rfl) (rl.ext λb o e=>Heap.get?_push_of_some _ (hk b o e))) λv s' st rr=>q v s' (x₁.trans st) rr))) q⟩
def SL.cut(sts:List Stmt):SL sc:=⟨sts,λ_ _=>none,λ_ e=>no e⟩
end
section
variable{sc:SC}
noncomputable def w4(t:Tg)(c:Cp sc):Bool:=sc.N.lookup t.x==some .local&&(t.p.line==c.pos.line&&!(c.scope.names.any λx=>x.1==t.x&&(x.2==.local||x.2==.cell)))
theorem w5{t:Tg}{c:Cp sc}{line:Nat}{b:Bool}(hb:w4 t c=b)(env:Env)(h1:env.scope.kind=.function)(h2:env.scope.names=sc.N):swapsWith c.e (some (.Name t.x t.p)) line env=pure b:=by
 show pure (env.blockKind==.function&&env.kindOf t.x==some .local&&t.p.line==c.pos.line&&!(c.scope.names.any λx=>x.1==t.x&&(x.2==.local||x.2==.cell)))=pure b
 have e1:env.blockKind=.function:=by unfold Env.blockKind;rw[h1];rfl
 have e2:env.kindOf t.x=sc.N.lookup t.x:=by show env.scope.names.lookup t.x=_;rw[h2]
 rw[e1,e2,<-hb]
 unfold w4
 rw[Bool.and_assoc,Bool.and_assoc]
 rfl
theorem DT{Z:Fr}{σ':List Slot}{Q:Unit->Shared->Prop}{E:Value->Shared->Prop}(EO:bq Z.env sc Z.ls):∀(ts:List Tg) (ps:List PV) (vs:List Value) (σ:List Slot) (ws:Nat->Option Value) (s:Shared),ts.all (Tg.ok sc)=true->(∀t∈ts,t.i<Z.wr)->Dy Z σ ws s->iL ts ps σ=some σ'->Z.af s.heap ps vs->
   (∀dH s',aJ Z.X Z.K s s'->Dy Z σ' dH s'->Q () s')->wpAny Z.X.M Z.Ar (assignInOrder (ts.map λt=>bindName Z.env t.x) vs) Q E s:=by
 intro w
 induction w with
 |nil=>
  intro v
  cases v with
  |nil=>
   intro vs σ ws s _ _ D e r q
   obtain rfl:vs=[]:=r
   exact wpAny_pure (q ws s .refl (aq e▸D))
  |cons _ _=>intro _ _ _ _ _ _ _ e _ _;exact no e
 |cons t ts ih=>
  intro v
  cases v with
  |cons p ps=>
   intro vs σ ws s ho hw D e r q
   obtain⟨v,vs,rfl,r1,r2⟩:=r
   have ho:=both (a:=t.ok sc) (b:=ts.all (Tg.ok sc)) ho
   show wpAny _ _ (do holding vs (bindName Z.env t.x v);assignInOrder (ts.map λt=>bindName Z.env t.x) vs) Q E s
   exact wpAny_bind (wpAny_holding (wpAny_bindName (iO D EO ho.1 (hw t eF) r1 λeB s₁ x₁ D₁=>ih ps vs _ eB s₁ ho.2 (λt m=>hw t (f5 _ m)) D₁ e (Fr.af.Aa r2 D x₁) λbB s₂ x₂ D₂=>q bB s₂ (x₁.trans x₂) D₂)))
  |nil=>intro _ _ _ _ _ _ _ e _ _;exact no e
def SS.OL(ts:List Tg)(k k':Nat)(pp p':Pos)(as:List (SE sc))(pos:Pos)(h:ts.reverse.all (Tg.ok sc)=true)(hs:swappedStores [.Tuple (ts.map Tg.e) 0 jm] (.Tuple (exprs as) 0 jm) (uz sc)=pure (some (ts.map Tg.x))):SS sc:=
 ⟨.Assign [.Tuple (ts.map Tg.e) k pp] (SE.tup as k' p').e pos,λΦ σ=>((SE.tup as k' p').ev Φ σ).bind λp=>p.o4.bind λps=>(iL ts.reverse ps.reverse σ).map .next,
 λ{Z σ ws s o} V e Q E q=>aa e λp e1 e=>aa e λps e2 e=>aE e λσ' e3 e4=>by
  subst e4
  have hs':swappedStores [.Tuple (ts.map Tg.e) k pp] (SE.tup as k' p').e Z.env=pure (some (ts.map Tg.x)):=(oH V.EO.kind V.EO.names).trans hs
  rw[exec_Assign_arm]
  refine wpAny_bind (wpAny_standAt ?_)
  rw[show swapsWithSole [.Tuple (ts.map Tg.e) k pp] (SE.tup as k' p').e pos.line Z.env=pure false from rfl]
  refine wpAny_bind (wpAny_pure ?_)
  rw[if_neg (by decide)]
  refine wpAny_bind ((SE.tup as k' p').go V.toEv e1 λw s₁ x₁ aj r₁=>?_)
  have aj:=V.step x₁
  rw[hs']
  refine wpAny_bind (wpAny_pure ?_)
  obtain⟨a,n,vs,rfl,g,rl⟩:∃a n vs,w=.ref a/\s₁.heap.get? a=some (ic vs n)/\Z.af s₁.heap ps vs:=Fr.Rep.tup r₁ e2 (M:=λw=>∃a n vs,w=.ref a/\s₁.heap.get? a=some (ic vs n)/\Z.af s₁.heap ps vs) λa n vs _ g rl=>⟨a,n,vs,rfl,g,rl⟩
  have hl:ts.length=vs.length:=by
   have:=uC e3
   rw[List.length_reverse,List.length_reverse]at this
   rw[this,rl.len]
  show wpAny Z.X.M Z.Ar (do
   rule "assign.swapped-stores"
   let items<-unpackItems (.ref a) (ts.map Tg.x).length none
   assignInOrder ((ts.map Tg.x).reverse.map λn=>bindName Z.env n) items.reverse
   pure .next) Q E s₁
  rw[List.length_map,hl]
  refine wpAny_bind (wpAny_rule (wpAny_bind (l7 aj.R.hh ⟨a,rfl,.inl (tup_is g)⟩ λh' tk hk=>?_)))
  have x₂:aJ Z.X Z.X.V s₁ {s₁ with heap:=h',toks:=tk}:=aj.toBs.ext hk
  have en:((ts.map Tg.x).reverse.map λn=>bindName Z.env n)=ts.reverse.map λt=>bindName Z.env t.x:=by
   rw[<-List.map_reverse,List.map_map];rfl
  rw[en]
  exact wpAny_bind (DT V.EO ts.reverse ps.reverse vs.reverse σ ws _ h (V.Qi h) (aj.step x₂).toDy e3 (Internal.af.rev (rl.ext hk)) λPS s₃ x₃ fJ=>wpAny_pure (kT V ((x₁.trans x₂).toK.trans x₃) fJ q))⟩
end
def cy:Lean.Syntax:=Lean.Unhygienic.run `(Lean.Parser.Tactic.tacticSeq|kernel_rfl)
def P5:Lean.Syntax:=Lean.Unhygienic.run `(Lean.Parser.Tactic.tacticSeq|exactλ_=>rfl)
def Mz:Lean.Syntax:=Lean.Unhygienic.run `(Lean.Parser.Tactic.tacticSeq|exactλ_ _ _=>rfl)
namespace L
noncomputable def Jz(p:Program)(i:Nat):List Stmt:=match p.main.body[i]? with
 |some (.FunctionDef _ _ b _ _ _ _ _ _ _)=>b
 |_=>[]
section
variable{sc:SC}
abbrev v(i:Nat)(x:Str)(p:Pos)(h:autoParam (isVar sc i x=true) cy):SE sc:=.var i x p h
abbrev ow(i:Nat)(x:Str)(p:Pos)(h:autoParam (isVar sc i x=true) cy):SW sc:=.own i x p h
abbrev gf(x:Str)(b:UInt64)(p:Pos)(h:autoParam (aC sc x=true) cy)(hx:autoParam (sc.nm.oV.lookup x=some b) cy):SE sc:=.Rc x b p h hx
abbrev gi(x:Str)(b:Int)(p:Pos)(h:autoParam (aC sc x=true) cy)(hx:autoParam (sc.nm.jl.lookup x=some b) cy):SE sc:=.Rg x b p h hx
abbrev bi(b:BN)(as:List (SE sc))(p1 p:Pos)(hg:autoParam (aC sc b.x=true) cy):SE sc:=.bi b as p1 p hg
abbrev H6(b:BN)(a:SX sc)(p1 p:Pos)(hs:∀ps r,b.f ps=some r->rN r=true)(hg:autoParam (aC sc b.x=true) cy):SE sc:=.H6 b a p1 p hg hs
abbrev Hz(x:SW sc)(p1 p:Pos)(hg:autoParam (aC sc "tuple"=true) cy):SE sc:=.Hz x p1 p hg
abbrev me(m:MN)(o:SX sc)(as:List (SX sc))(p1 p:Pos)(hs:autoParam (∀x env t,attributeBase o.e x env t=t) Mz)(hl:autoParam ((p1.endLine==p.line)=true) cy)(hz:autoParam (Nat.ble as.length 1=true) cy):SE sc:=.KA m o as p1 p hs hl hz
abbrev attr(i:Nat)(x:Str)(o:SE sc)(p:Pos)(hx:autoParam (fieldNames[i]?=some x) cy)(hs:autoParam (∀x env t,attributeBase o.e x env t=t) Mz):SE sc:=.attr i x o p hx hs
abbrev cat(f:Nat)(w x y:Str)(p1 p:Pos)(hf:autoParam (sc.nm.fns[f]?=some w) cy)(hx:autoParam ((sc.nm.Bg.contains (f,x,y))=true) cy)(hg:autoParam (aC sc w=true) cy):SE sc:=.cat f w x y p1 p hf (List.contains_iff_mem.mp hx) hg
abbrev call(f:Nat)(x:Str)(as:List (SE sc))(p1 p:Pos)(hx:autoParam (sc.nm.fns[f]?=some x) cy)(hg:autoParam (aC sc x=true) cy):SE sc:=.call f x as p1 p hx hg
abbrev um(f:Nat)(x:Str)(o:SE sc)(as:List (SE sc))(p1 p:Pos)(hx:autoParam (sc.nm.ms[f]?=some x) cy)(hs:autoParam (∀x env t,attributeBase o.e x env t=t) Mz)(hl:autoParam ((p1.endLine==p.line)=true) cy)(hz:autoParam (Nat.blt as.length 30=true) cy):SE sc:=.yT f x o as p1 p hx hs hl hz
abbrev uJ(x:SX sc)(h:autoParam (∀env,isTrue x.e env (eval x.e env)=(do let v<-eval x.e env;standAt x.e.pos;holding [v] (truthy v))) P5):SB sc:=.of x h
abbrev rV(t:Tg)(h:autoParam (t.ok sc=true) cy):SP sc:=.one t h
abbrev Ac(ts:List Tg)(k:Nat)(pp:Pos)(h:autoParam (ts.all (Tg.ok sc)=true) cy):SP sc:=.many ts k pp h
abbrev T8(b:SE sc)(p1 p:Pos)(hg:autoParam (aC sc "range"=true) cy):SI sc:=.K4 b p1 p hg
abbrev V3(a b:SE sc)(p1 p:Pos)(hg:autoParam (aC sc "range"=true) cy):SI sc:=.K5 a b p1 p hg
abbrev Q6(b:SE sc)(p1 p:Pos)(hg:autoParam (aC sc "enumerate"=true) cy):SI sc:=.enum b p1 p hg
abbrev V6(b:SE sc)(p1 p:Pos)(hg:autoParam (aC sc "reversed"=true) cy):SI sc:=.rev b p1 p hg
abbrev gen(f:Nat)(x:Str)(as:List (SE sc))(p1 p:Pos)(hx:autoParam (sc.nm.gens[f]?=some x) cy)(hg:autoParam (aC sc x=true) cy):SI sc:=.gen f x as p1 p hx hg
abbrev cp(scope:Scope)(it:SI sc)(tg:SP (cY sc scope))(ifs:SF (cY sc scope))(elt:SE (cY sc scope))(pos:Pos)(h:autoParam ((i0 sc scope&&(tg.ts.all (λt=>Nat.blt t.i (aK scope).length)&&(!it.need||tg.tp)))=true) cy):Cp sc:=⟨scope,it,tg,ifs,elt,pos,h⟩
abbrev st(t:Tg)(v:SE sc)(pos:Pos)(h:autoParam (t.ok sc=true) cy)(hs:autoParam (∀env:Env,swapsWith v.e (some (.Name t.x t.p)) pos.line env=pure false) P5):SS sc:=.set t v pos h λenv _ _=>hs env
abbrev sa(t u:Tg)(ts:List Tg)(v:SE sc)(pos:Pos)(h:autoParam ((t::u::ts).all (Tg.ok sc)=true) cy):SS sc:=.Lg t u ts v pos h
abbrev mv(tp:Bool)(ts:List Tg)(k:Nat)(pp:Pos)(v:SE sc)(pos:Pos)(h:autoParam (ts.all (Tg.ok sc)=true) cy)(hs:autoParam (∀env:Env,env.scope.kind=.function->env.scope.names=sc.N->swappedStores [.Tuple (ts.map Tg.e) k pp] v.e env=pure none) Mz):SS sc:=.many tp ts k pp v pos h hs
abbrev tu(ts:List Tg)(k k':Nat)(pp p':Pos)(as:List (SE sc))(pos:Pos)(h:autoParam (ts.all (Tg.ok sc)=true) cy)(hs:autoParam (swappedStores [.Tuple (ts.map Tg.e) 0 jm] (.Tuple (exprs as) 0 jm) (uz sc)=pure none) cy):SS sc:=.tups ts k k' pp p' as pos h hs
abbrev tr(ts:List Tg)(k k':Nat)(pp p':Pos)(as:List (SE sc))(pos:Pos)(h:autoParam (ts.reverse.all (Tg.ok sc)=true) cy)(hs:autoParam (swappedStores [.Tuple (ts.map Tg.e) 0 jm] (.Tuple (exprs as) 0 jm) (uz sc)=pure (some (ts.map Tg.x))) cy):SS sc:=.OL ts k k' pp p' as pos h hs
abbrev so(t:Tg)(v:SO sc)(pos:Pos)(h:autoParam (t.ok sc=true) cy)(hs:autoParam (∀env,swapsWith v.e (some (.Name t.x t.p)) pos.line env=pure false) P5):SS sc:=.Lh t v pos h hs
abbrev scp(ow:Bool)(t:Tg)(c:Cp sc)(pos:Pos)(h:autoParam (t.ok sc=true) cy)(hs:autoParam (w4 t c=true) cy):SS sc:=.G8 ow t c pos h (w5 hs)
abbrev au{op:Operator}(b:I2 op)(t:Tg)(v:SE sc)(pos:Pos)(h:autoParam (t.ok sc=true) cy)(hv:autoParam (isVar sc t.i t.x=true) cy):SS sc:=.aug b t v pos h hv
abbrev ap(i:Nat)(x:Str)(p a pos pos':Pos)(v:SE sc)(hm:autoParam (isVar sc i x=true) cy)(hl:autoParam ((a.endLine==pos.line)=true) cy):SS sc:=.app i x p a pos pos' v hm hl
abbrev rv(i:Nat)(x:Str)(p a pos pos':Pos)(hm:autoParam (isVar sc i x=true) cy)(hl:autoParam ((a.endLine==pos.line)=true) cy):SS sc:=.rev i x p a pos pos' hm hl
abbrev si(i:Nat)(x:Str)(p p':Pos)(ix v:SE sc)(pos:Pos)(hm:autoParam (isVar sc i x=true) cy)(hs:autoParam (∀env,swapsWith v.e (some (.Subscript (.Name x p) ix.e p')) pos.line env=pure false) P5):SS sc:=.setItem i x p p' ix v pos hm hs
abbrev ai{op:Operator}(b:I2 op)(i:Nat)(x:Str)(p p':Pos)(ix v:SE sc)(pos:Pos)(hm:autoParam (isVar sc i x=true) cy)(hix:autoParam (∀ov iv new,augStore ix.e ov iv new=(do holding [new,ov,iv] (PySem.setItem ov iv new);release [new,ov,iv] [];pure .next)) Mz):SS sc:=.Ff b i x p p' ix v pos hm hix
abbrev fr(tg:SP sc)(it:SI sc)(body:SL sc)(pos:Pos)(h:autoParam ((tg.ts.all (Tg.ok sc)&&(!it.need||tg.tp))=true) cy):SS sc:=.for tg it body pos h
abbrev zi(t:Tg)(i:Int)(k:Nat)(p pos:Pos)(h:autoParam (t.ok sc=true) cy):SZ sc:=.int t i k p pos h
abbrev zb(t:Tg)(i:Bool)(k:Nat)(p pos:Pos)(h:autoParam (t.ok sc=true) cy):SZ sc:=.bool t i k p pos h
abbrev gb(pre:List (SZ sc))(i:Nat)(x:Str)(p1 p2 p3 pos:Pos)(tg:SP sc)(body post:GL sc)(h:autoParam ((isVar sc i x&&(aC sc "enumerate"&&(tg.tp&&tg.ts.all (Tg.ok sc))))=true) cy):GB sc:=⟨pre,i,x,p1,p2,p3,pos,tg,body,post,h⟩
abbrev UH(t:SB sc)(base:SS sc)(rp ip:Pos)(rest:SL sc)(a1 a2:List (SE sc))(i1 i2:Nat)(y1 y2:Str)(q1 q2 q3 q4 q5 q6:Pos)(h:autoParam ((isVar sc i1 y1&&isVar sc i2 y2)=true) cy):uR sc:=⟨t,base,rp,ip,rest,a1,a2,i1,i2,y1,y2,q1,q2,q3,q4,q5,q6,h⟩
abbrev UG(t:SB sc)(base:SE sc)(rp ip:Pos)(rest:SL sc)(a1 a2:List (SE sc))(sh:SE sc)(i1 i2:Nat)(y1 y2:Str)(q1 q2 q3 q4 q5 q6 q7:Pos)(h:autoParam ((isVar sc i1 y1&&isVar sc i2 y2)=true) cy):oN sc:=⟨t,base,rp,ip,rest,a1,a2,sh,i1,i2,y1,y2,q1,q2,q3,q4,q5,q6,q7,h⟩
abbrev dS{par loc:List Str}(first:SS sc)(cV:Scope)(b:uR (dw sc cV (par++loc)))(t:Tg)(ip:Arguments)(ipos:Pos)(uJ:SB sc)(i:Nat)(y:Str)(as:List (SE sc))(p1 p2 p3 p4:Pos)(last:SL sc)(h:autoParam (isVar sc i y=true) cy):jA sc par loc:=⟨first,cV,b,t,ip,ipos,uJ,i,y,as,p1,p2,p3,p4,last,h⟩
abbrev dE{par loc:List Str}(cV:Scope)(b:oN (dw sc cV (par++loc)))(t:Tg)(ip:Arguments)(ipos:Pos)(uJ:SB sc)(els:SE sc)(i:Nat)(y:Str)(as:List (SE sc))(p1 p2 p3 p4:Pos)(h:autoParam (isVar sc i y=true) cy):jq sc par loc:=⟨cV,b,t,ip,ipos,uJ,els,i,y,as,p1,p2,p3,p4,h⟩
abbrev asg(v:SE sc)(nm self:Str)(p0 p1 pos:Pos)(hv:autoParam (isVar sc 0 self=true) cy):AS sc:=⟨v,nm,self,p0,p1,pos,hv⟩
abbrev ws(a0:AS sc)(m1 m2 m3:SS sc)(tg:SP sc)(self:Str)(p0 p1:Pos)(body:SL sc)(pos:Pos)(a1 a2 a3 a4:AS sc)(hv:autoParam (isVar sc 0 self=true) cy)(ht:autoParam (tg.ts.all (Tg.ok sc)=true) cy):Ao sc:=⟨a0,m1,m2,m3,tg,self,p0,p1,body,pos,a1,a2,a3,a4,hv,ht⟩
end
end L
section
variable{X:Cx}{K:Frag}{D:dY}{a:Addr}{nm:oQ}
theorem cG{body:SL (D.sc nm)}(hK:∀h,X.G h->K.In h)(hnm:X.nm=nm)(e:dB K a=some (D.face false body.sts))(c:codeB K a=true)(k:D.ok=true)(nt:autoParam ((D.params==(["script"]:List Str))=false) cy):l9 X (aG D body) (.ref a):=
 (jr hK e c k).elim λ_ q=>JW q.2.1 q.2.2 hnm nt
theorem KG{b:GB (D.sc nm)}(hK:∀h,X.G h->K.In h)(hnm:X.nm=nm)(e:dB K a=some (D.face true b.sts))(c:codeB K a=true)(k:D.R4=true)(nt:autoParam ((D.params==(["script"]:List Str))=false) cy):Jk X (tE D b) (.ref a):=
 (qX hK e c k nt).elim λ_ q=>JX q.1 q.2 hnm
theorem NZ{x:Ao (D.sc nm)}{C:Addr}(hK:∀h,X.G h->K.In h)(hnm:X.nm=nm)(hn:[x.a0.nm,x.a1.nm,x.a2.nm,x.a3.nm,x.a4.nm]=fieldNames)(W:Qj K C a=true)(e:dB K a=some (D.face false x.sts))(c:codeB K a=true)(k:D.ok=true)(nt:autoParam ((D.params==(["script"]:List Str))=false) cy):l9 X (EK D x C) (.ref C):=
 (jr hK e c k).elim λ_ q=>Nj hn q.2.1 q.2.2 hnm nt (EJ W) hK
theorem GF{par loc:List Str}{x:jA (D.sc nm) par loc}{t:Tab}(hK:∀h,X.G h->K.In h)(hnm:X.nm=nm)(hn:x.nest.ok par loc=true)(hp:pO x.ip=gC par)(hl:∃y∈D.params++D.locals,D.names.lookup y=some .local)(hb:tY K a t x.t.x=true)(hpos:x.ipos=t.pos)
  (mk:∀name params body scope,mU X (.ref t.c) name params body scope t.pos t.qual) (e:dB K a=some (D.face false x.sts)) (c:codeB K a=true) (k:D.ok=true):l9 X (λ_=>nF D x 18 jo) (.ref a):=
 (jr hK e c k).elim λ_ q=>F6 (yx hn hp) q.2.1 q.2.2 hnm hl (by rw[(mL hb q.1).1,(mL hb q.1).2,hpos];exact mk _ _ _ _)
theorem GD{par loc:List Str}{x:jq (D.sc nm) par loc}{t:Tab}(hK:∀h,X.G h->K.In h)(hnm:X.nm=nm)(hn:x.nest.ok par loc=true)(hp:pO x.ip=gC par)(hb:tY K a t x.t.x=true)(hpos:x.ipos=t.pos)
  (mk:∀name params body scope,mU X (.ref t.c) name params body scope t.pos t.qual) (e:dB K a=some (D.face false x.sts)) (c:codeB K a=true) (k:D.ok=true):l9 X (λ_=>nE D x 18 jo) (.ref a):=
 (jr hK e c k).elim λ_ q=>F5 (yx hn hp) q.2.1 q.2.2 hnm (by rw[(mL hb q.1).1,(mL hb q.1).2,hpos];exact mk _ _ _ _)
noncomputable def HT(X:Cx)(val:Nat->Value):Nat->List (bO->List PV->Option PV)->Prop
 |_,[]=>True
 |n,ev::r=>l9 X ev (val n)/\HT X val (n+1) r
theorem Js{val:Nat->Value}:∀{l:List (bO->List PV->Option PV)} {n i:Nat} {ev:bO->List PV->Option PV},HT X val n l->l[i]?=some ev->l9 X ev (val (n+i)):=by
 intro w
 induction w with
 |nil=>exactλ_ e=>nomatch e
 |cons x l ih=>
  intro n i ev h e
  cases i with
  |zero=>exact aq e▸h.1
  |succ i=>rw[<-Nat.add_assoc,Nat.add_right_comm];exact ih h.2 e
noncomputable def Told(dP:List Addr)(iD:List (Option Face))(fY:Frag->Bool)(tabs:List Tab)(h:Heap):Prop:=
 ∃K:Frag,(∀a o,K.lookup a=some o->h.get? a=some o/\o≠tabObj #[])/\dP.map (dB K)=iD/\fY K=true/\∀t∈tabs,h.get? t.P=some (tabObj #[])
theorem Told.keeps{dP:List Addr}{iD:List (Option Face)}{fY:Frag->Bool}{tabs:List Tab}{h h':Heap}(x:Told dP iD fY tabs h)(k:∀b o,h.get? b=some o->h'.get? b=some o):Told dP iD fY tabs h':=
 x.imp λK q=>⟨λa o e=>⟨k _ _ (q.1 a o e).1,(q.1 a o e).2⟩,q.2.1,q.2.2.1,λt m=>k _ _ (q.2.2.2 t m)⟩
end
def KL:C2 .NotEq:=.sc kh kh (λa b=>Float64.cmp a b !=some .eq) λ_ _ _ _ _ _ _ _ _ _ h=>AutoFloatOps.ne_0 h
def Ra:C2 .GtE:=.sc kh kh (λa b=>Float64.cmp a b==some .gt||Float64.cmp a b==some .eq) λ_ _ _ _ _ _ _ _ _ _ h=>AutoFloatOps.ge_0 h
def N3:C2 .NotEq:=.sc kh cQ (λa b=>Float64.cmpInt a b !=some .eq) λ_ _ _ _ _ _ _ _ _ _ h=>PyProof.Rows.ne_fi h
def Q8:C2 .Eq:=.sc cQ kh (λb a=>Float64.cmpInt a b==some .eq) λ_ _ _ _ _ _ _ _ _ _ h=>PyProof.Rows.eq_if h
def C7:B2 .Mult:=.sc kh cQ (λ_ b=>Kd b) (λa b=>.ak (Float64.mul a (Float64.ofInt b))) λZ s a b t u V c Q E h=>AutoFloatOpsIf.mul_fi (if_false (not_eq c) (V.ak h))
def C2.or{op:CmpOp}(a b:C2 op):C2 op:=⟨λp q=>Option.casesOn (motive:=λ_=>Option Bool) (a.f p q) (b.f p q) some,λ{Z s p q k v w Q E} V rp rq e h=>by
 cases z:a.f p q with
 |none=>rw[z]at e;exact b.ok V rp rq e h
 |some k'=>rw[z]at e;exact a.ok V rp rq (z.trans e) h⟩
def Nc:C2 .Eq:=vK.or Q8
def Ub:Sc UInt64:=⟨PV.JV,λa t=>.float a (t+1),λ{h B p v a} r e=>by
 rw[PV.CO e]at r
 obtain⟨t,n,rfl⟩:=r
 exact⟨t-1,by rw[Nat.sub_add_cancel (Nat.pos_of_ne_zero n)]⟩,.aH,λ{h B a t}=>⟨t+1,Nat.succ_ne_zero t,rfl⟩⟩
def ET:Ord UInt64:=⟨Ub,λa b=>Float64.cmp a b==some .gt,.Gt,λ_ _ _ _ _ _ _ _ _ _ h=>AutoFloatOps.gt_0 h⟩
def EX:Ord UInt64:=⟨Ub,λa b=>Float64.cmp a b==some .lt,.Lt,λ_ _ _ _ _ _ _ _ _ _ h=>AutoFloatOps.lt_0 h⟩
section
variable{α:Type}{sc:SC}{Z:Fr}{σ:List Slot}{ws:Nat->Option Value}{s:Shared}
theorem C1(O:Ord α)(ho:O.op=.Gt){ps:List PV}{vs:List Value}{r:PV}(V:Bs Z s)(rl:Z.af s.heap ps vs)(e:mZ O ps=some r):aY Z s r (call (.builtin "max") vs):=
 aa e λ_ e1 e=>T6 rl e1 (M:=λvs=>Z.af s.heap ps vs->aY Z s r (call (.builtin "max") vs)) (λa b c rl Q E h=>iQ O V rl e λu k b=>call_max_three (jG V (ho▸b) λv h' tk hu x=>k v h' tk hu x h)) rl
theorem IT(O:Ord α)(ho:O.op=.Lt){ps:List PV}{vs:List Value}{r:PV}(V:Bs Z s)(rl:Z.af s.heap ps vs)(e:mZ O ps=some r):aY Z s r (call (.builtin "min") vs):=
 aa e λ_ e1 e=>T6 rl e1 (M:=λvs=>Z.af s.heap ps vs->aY Z s r (call (.builtin "min") vs)) (λa b c rl Q E h=>iQ O V rl e λu k b=>call_min_three (jG V (ho▸b) λv h' tk hu x=>k v h' tk hu x h)) rl
def Qf(f g:List PV->Option PV)(ps:List PV):Option PV:=Option.casesOn (motive:=λ_=>Option PV) (f ps) (g ps) some
theorem Od{f g:List PV->Option PV}{ps:List PV}{r:PV}{P:Prop}(e:Qf f g ps=some r)(a:f ps=some r->P)(b:g ps=some r->P):P:=by
 unfold Qf at e
 cases z:f ps with
 |none=>rw[z]at e;exact b e
 |some k=>rw[z]at e;exact a (z.trans e)
def C0:BN:=⟨"max",.builtin "max",by decide+kernel,by decide+kernel,Calls.callWith_builtin,Qf (mZ ET) (mZ Nn),λV rl e=>Od e (C1 ET rfl V rl) (C1 Nn rfl V rl)⟩
def C5:BN:=⟨"min",.builtin "min",by decide+kernel,by decide+kernel,Calls.callWith_builtin,Qf (mZ EX) (mZ NW),λV rl e=>Od e (IT EX rfl V rl) (IT NW rfl V rl)⟩
def NX:BN:=⟨"max",.builtin "max",by decide+kernel,by decide+kernel,Calls.callWith_builtin,mZ Ck,λV rl e=>C1 Ck rfl V rl e⟩
def ltI:Ord Int:=⟨cQ,λa b=>decide (a<b),.Lt,λ_ _ _ _ _ _ _ _ _ _ h=>PySem.P.lt_int h⟩
def KD:BN:=⟨"min",.builtin "min",by decide+kernel,by decide+kernel,Calls.callWith_builtin,arg1 λp=>p.gw.bind (bestOf ltI),
 λ{Z s ps vs r} V rl e=>KW rl e (M:=λvs=>aY Z s r (call (.builtin "min") vs)) λp v e rp=>aa e λxs e1 e=>rp.lst e1 (M:=λv=>aY Z s r (call (.builtin "min") [v])) λa n vs _ g rl Q E h=>
  iQ ltI V rl e λu k b=>call_min_walk (sr V g b λv h' tk hu x=>k v h' tk hu x h)⟩
def min2:BN:=⟨"min",.builtin "min",by decide+kernel,by decide+kernel,Calls.callWith_builtin,λps=>(arg2 (λ_ _=>some .none) ps).bind λ_=>bestOf ltI ps,
 λ{Z s ps vs r} V rl e=>aa e λ_ e0 e=>R5 rl e0 (M:=λvs=>Z.af s.heap ps vs->aY Z s r (call (.builtin "min") vs)) (λp q v w _ _ _ rl Q E h=>iQ ltI V rl e λu k b=>call_min_two (jG V b λv h' tk hu x=>k v h' tk hu x h)) rl⟩
def SE.M9(x:SE sc)(c:Int)(k:Nat)(p1 p:Pos):SE sc:=⟨.BinOp x.e .Div (.Constant (.int c) k p1) p,λΦ σ=>(x.ev Φ σ).bind λq=>q.int?.bind λa=>bif nz c&&!Float64.isInf (cZ a c)then some (.aH (cZ a c))else none,⟨λ_ _=>rfl,λop=>by cases op<;>rfl,λ_ _=>rfl⟩,
 λ{Z σ ws s r} V e Q E q=>aa e λa e1 e=>aa e λb e2 e=>iI (M:=λr=>(∀v s',aJ Z.X Z.X.V s s'->Z.Rep s'.heap r v->Q v s')->_) e (λhc q=>wpAny_BinOp (x.go V e1 λv s₁ x₁ aj r₁=>by
  obtain⟨t,rfl⟩:=cQ.rd r₁ e2
  exact wpAny_Constant_int (AutoIntOpsIf.truediv (if_false (IX (both hc).1) (if_false (not_eq (both hc).2) (q _ _ (x₁.trans (aj.toBs.toks (tk:=s₁.toks+1+1))) (Rep.IU (Nat.succ_ne_zero _)))))))) q⟩
def SE.M8(x:SE sc)(c:UInt64)(k:Nat)(p1 p:Pos):SE sc:=⟨.BinOp x.e .Div (.Constant (.float c) k p1) p,λΦ σ=>(x.ev Φ σ).bind λq=>q.B0.bind λa=>bif !Float64.isZero c then some (.aH (Float64.div a c))else none,⟨λ_ _=>rfl,λop=>by cases op<;>rfl,λ_ _=>rfl⟩,
 λ{Z σ ws s r} V e Q E q=>aa e λa e1 e=>aa e λb e2 e=>iI (M:=λr=>(∀v s',aJ Z.X Z.X.V s s'->Z.Rep s'.heap r v->Q v s')->_) e (λhc q=>wpAny_BinOp (x.go V e1 λv s₁ x₁ aj r₁=>by
  obtain⟨t,rfl⟩:=kh.rd r₁ e2
  exactλ_ _ _=>AutoFloatOpsIf.truediv (s:={s₁ with toks:=s₁.toks+1}) (if_false (not_eq hc) (q _ _ (x₁.trans (aj.toBs.toks (tk:=s₁.toks+1+1))) (Rep.IU (Nat.succ_ne_zero _)))))) q⟩
end
section
variable{prog:Program}{w:World}{A:Around}{E:Value->Shared->Prop}{s:Shared}
theorem yS{it t:Addr}{i:Nat}{items:Array Value}{Q:Value->Shared->Prop}(hh:A.handled=none)(hit:s.heap.IsTupleIter it t i)(ht:s.heap.IsTuple t items)
  (h:match items[i]? with|some x=>∀h',h'.IsTupleIter it t (i+1)->Heap.SameBut it s.heap h'->Q x {s with heap:=h'} |none=>∀h' e,Heap.ExtBut it s.heap h'->(∃o,h'.get? e=some o/\o.cls=.type "StopIteration")->E (.ref e) {s with heap:=h'}):
  wpAny (model prog w) A (Builtin.SmallTypes.nextOf (.ref it)) Q E s:=by
 obtain⟨o,ho,hc,hd⟩:=id hit
 obtain⟨ol,VD,_,nl,hdl⟩:=ht
 unfold Builtin.SmallTypes.nextOf
 refine wpAny_bind (wpAny_callSpecial?_slot (name:=Str.ofString "__next__") hit.typeIs F.slot_tuple_iterator_next
  (wpAny_call_entry F.slot_tuple_iterator_next hit.typeIs F.entry_tuple_iterator_next ?_ (F.args_tuple_iterator_next_1 _)))
 show wpAny _ _ (field (.ref it) 0>>=_) _ _ s
 refine wpAny_bind (wpAny_field ho hd (x:=.ref t) rfl ?_)
 show wpAny _ _ (if(Value.ref t==Value.none)=true then _ else _) _ _ s
 rw[if_neg (show¬((Value.ref t==Value.none)=true)from Bool.false_ne_true)]
 show wpAny _ _ (field (.ref it) 1>>=_) _ _ s
 refine wpAny_bind (wpAny_field ho hd (x:=.int i 0) rfl ?_)
 show wpAny _ _ (seqItems? (.ref t)>>=_) _ _ s
 refine wpAny_bind (wpAny_seqItems VD hdl ?_)
 cases hx:items[i]? with
 |some x=>
  rw[hx]at h
  simp only[Int.toNat_natCast,hx]
  refine wpAny_bind (wpAny_setField ho hd (by simp) (wpAny_pure ⟨x,rfl,wpAny_pure (h _ ?_ (Heap.SameBut.update ..))⟩))
  exact⟨_,Heap.get?_update_self _ ho (Obj.isFreed_of_fields (Obj.data_mapFields hd _)),(Obj.cls_mapFields ..).trans hc,by
   rw[Obj.data_mapFields hd];simp[rawInt]⟩
 |none=>
  rw[hx]at h
  simp only[Int.toNat_natCast,hx]
  refine wpAny_bind (wpAny_rule (wpAny_bind (wpAny_setField ho hd (by simp) ?_)))
  show wpAny _ _ (newExc (.type "StopIteration") []>>=_) _ _ _
  refine wpAny_bind (mO λo1 o2 hf hc2=>wpAny_raiseNew_none (show A.in1.handled=none from hh) ?_)
  exact h _ _ (((Heap.SameBut.update ..).extBut.push _).push _) ⟨_,Heap.get?_push_size _ hf,hc2⟩
theorem JO(hh:A.handled=none)(it t:Addr)(hne:t≠it)(items:Array Value):Draws prog w A it [it,t] items.size (λi v=>items[i]?=some v) (λi h=>h.IsTupleIter it t i/\h.IsTuple t items)where
 live:=λ_ _ st=>let⟨o,ho,_⟩:=st.1;⟨o,ho⟩
 frame:=λ_ _ _ st hk=>⟨st.1.at λo e=>hk it (by simp) o e,st.2.at λo e=>hk t (by simp) o e⟩
 item:=λi s Q E hi st hQ=>yS hh st.1 st.2 (by
  rw[show items[i]?=some items[i]from by simp[hi]]
  exactλh' J8 hs'=>hQ _ h' s.toks (by simp[hi]) ⟨J8,st.2.extBut hs'.extBut hne⟩ hs')
 done:=λs Q E st hE=>yS hh st.1 st.2 (by rw[show items[items.size]?=none from by simp];exact hE)
theorem LA{α:Type}{c:Prop}[Decidable c]{x y:Sem α}{M:Model}{A:Around}{Q:α->Shared->Prop}{E:Value->Shared->Prop}{s:Shared}(h:wpAny M A x Q E s)(k:wpAny M A y Q E s):wpAny M A (if c then x else y) Q E s:=by
 by_cases e:c
 ·rw[if_pos e];exact h
 ·rw[if_neg e];exact k
open AutoSeq1 (wpAny_loadPart')in
theorem zx(l:Addr)(items:Array Value)(n:Nat):Meets (Builtin.«enumerate.__new__» ⟨[.type "enumerate",.ref l],[]⟩) (λ_ R s=>s.heap.get? l=some {cls:=.type "tuple",data:=.seq items n}/\
   R (.ok (.ret (.ref (s.heap.push {cls:=.type "tuple_iterator",data:=.fields #[.ref l,.int 0 0]}).objs.size)))
    {s with heap:=(s.heap.push {cls:=.type "tuple_iterator",data:=.fields #[.ref l,.int 0 0]}).push {cls:=.type "enumerate",data:=.fields #[.none,.bool false,.ref s.heap.objs.size,rawInt 0,.none,.none]}}):=
 .of_wp λprog w A R s h=>by
  obtain⟨hp,g,d,tk,os⟩:=s;obtain⟨hl,h⟩:=h
  have hsub:=sub_enumerate
  have hL:Heap.IsTuple (Shared.heap ⟨hp,g,d,tk,os⟩) l items:=⟨_,hl,rfl,n,rfl⟩
  wp_walk using wpAny_loadPart' hl
  refine wpAny_stack_any λst=>wpAny_pure ?_
  have fin:∀{E:Value->Shared->Prop} {k:Value->Sem Fin},wpAny (model prog w) A.in1 (k (.ref hp.objs.size)) (λfin s'=>match fin with| .done f=>R (.ok f) s'| .again c'=>c'.quiet=true/\codeAny (model prog w) A c' R s') E ⟨hp.push {cls:=.type "tuple_iterator",data:=.fields #[.ref l,.int 0 0]},g,d,tk,os⟩->True:=λ_=>trivial
  refine LA ?_ ?_
  ·wp_walk using wpAny_loadPart' hl,wpAny_pyIter_tuple hL
   exact⟨_,rfl,h⟩
  ·wp_walk using wpAny_loadPart' hl,wpAny_pyIter_tuple hL
   exact⟨_,rfl,h⟩
theorem vz{l:Addr}{items:Array Value}{n:Nat}{Q:Value->Shared->Prop}(hl:s.heap.get? l=some {cls:=.type "tuple",data:=.seq items n})
  (h:∀h',IsEnum h' (s.heap.objs.size+1) s.heap.objs.size 0 .none->h'.IsTupleIter s.heap.objs.size l 0->Ext s.heap h'->Q (.ref (s.heap.objs.size+1)) {s with heap:=h'}):
  wpAny (model prog w) A (call (.type "enumerate") [.ref l]) Q E s:=by
 refine callType_new F.called_enumerate (by decide) (F.typeCall_enumerate_1 _) (F.newCall_enumerate_1 _) (λobj=>F.args_object_init_2 obj _) F.entry_enumerate_new
  (zx l items n) ⟨hl,?_⟩
 have hz:(s.heap.push {cls:=.type "tuple_iterator",data:=.fields #[.ref l,.int 0 0]}).objs.size=s.heap.objs.size+1:=Heap.size_push ..
 show _/\_
 rw[hz]
 have he:IsEnum ((s.heap.push {cls:=.type "tuple_iterator",data:=.fields #[.ref l,.int 0 0]}).push
   {cls:=.type "enumerate",data:=.fields #[.none,.bool false,.ref s.heap.objs.size,rawInt 0,.none,.none]}) (s.heap.objs.size+1) s.heap.objs.size 0 .none:=by
  have:=Heap.get?_push_size (s.heap.push {cls:=.type "tuple_iterator",data:=.fields #[.ref l,.int 0 0]})
   (o:={cls:=.type "enumerate",data:=.fields #[.none,.bool false,.ref s.heap.objs.size,rawInt 0,.none,.none]}) rfl
  rw[hz]at this;exact this
 exact⟨⟨_,he,rfl⟩,h _ he ⟨_,Heap.get?_push_of_some _ (Heap.get?_push_size _ rfl),rfl,rfl⟩ λb o x=>Heap.get?_push_of_some _ (Heap.get?_push_of_some _ x)⟩
end
section
variable{sc:SC}
def SI.Na(x:SE sc)(p1 p:Pos)(hg:aC sc "enumerate"=true):SI sc:=⟨.Call (.Name "enumerate" p1) (exprs [x]) [] p,true,λΦ σ=>(x.ev Φ σ).bind λq=>q.o4.map (bP 0),.call,
 λ{Z σ ws s xs} V e K tp hK ht Q E h=>aa e λq e1 e=>aE e λys e2 e=>by
  subst e
  obtain rfl:=ht rfl
  refine kH (T:="enumerate") (ps:=[q]) V hg (by decide+kernel) (by decide+kernel) (by unfold ig;rw[e1];rfl) λvs s₁ x₁ aj rl=>?_
  obtain⟨v,_,rfl,r,rfl⟩:=rl
  exact Fr.Rep.tup r e2 (M:=λv=>wpAny Z.X.M Z.Ar (call (.type "enumerate") [v]) (λv s'=>wpAny Z.X.M Z.Ar (pyIter v) Q E s') E s₁) λa n us b g ru=>
   vz g λh' b1 b2 b4=>wpAny_pyIter_enum b1 (yf aj.toBs hK (JO (A:=Z.Ar.in1) aj.R.hh s₁.heap.objs.size a (Nat.ne_of_lt (Heap.lt_size g)) us.toArray) ru.size (λb' m=>(eX m).imp id λm=>by obtain rfl:=fG m;exact⟨hK _ b,_,g⟩) eF (λi h st=>st.1.imp λo q=>⟨q.1,q.2.1⟩) (by decide) b1 ⟨b2,_,b4 _ _ g,rfl,_,rfl⟩ b4
    (λj p v e hp=>(Internal.af.get ru e).elim λu q=>by
     obtain rfl:v=u:=aq ((show us.toArray[j]?=some v from hp).symm.trans (ag q.1))
     exact q.2) (h.after x₁))⟩
def SE.RW(x:SW sc)(p1 p:Pos)(hg:aC sc "list"=true):SE sc:=⟨.Call (.Name "list" p1) [x.e] [] p,λΦ σ=>(x.ev Φ σ).bind λxs=>bif fits xs.length then some (.lst xs)else none,⟨λ_ _=>rfl,λop=>by cases op<;>rfl,λ_ _=>rfl⟩,
 λ{Z σ ws s r} V e Q E q=>aa e λxs e1 e=>iI (M:=λr=>(∀v s',aJ Z.X Z.X.V s s'->Z.Rep s'.heap r v->Q v s')->_) e (λc q=>wpAny_Call_NameR (fm V hg (v:=.type "list") (by decide+kernel) (by decide+kernel) (by
  rw[show starEach [x.e] Z.env=[(false,eval x.e Z.env)]from x.pl.st _ _]
  refine PySem.callWith_type rfl (Calls.evalArgs_plain (Calls.spliced_cons (x.go V e1 λv vs s₁ x₁ aj l rl=>Calls.spliced_nil ?_)))
  obtain⟨a,n,rfl,_,g⟩:=l
  exact call_list_seq a (.inl rfl) g rfl rfl (λh' c' hk hn=>aj.toBs.at (tk:=s₁.toks) hk (Rep.oi (n:=c') aj.toBs.new hn (rl.ext hk)) λv s' st rr=>q v s' (x₁.trans st) rr) (rl.size▸bT (aQ c))))) q⟩
noncomputable def SB.chain{op op':CmpOp}(b:C2 op)(b':C2 op')(l m r:SX sc)(p:Pos)(hm:lastMarks [op,op'] [m.e,r.e]=false):SB sc:=⟨.Compare l.e [op,op'] [m.e,r.e] p,λΦ σ=>(l.ev Φ σ).bind λa=>(m.ev Φ σ).bind λc=>(b.f a c).bind λk=>bif k then(r.ev Φ σ).bind λd=>b'.f c d else some false,
 λ{Z σ ws s k'} V e Q E q=>aa e λa e1 e=>aa e λc e2 e=>aa e λk e3 e=>isTrue_chain (l.go V e1 λv s₁ x₁ aj r₁=>test_link (m.go aj e2 λu s₂ x₂ aD r₂=>b.ok (Z:=Z.weak) aD.toBs.weak (r₁.stp (λ_ h=>h) x₂) r₂ e3 (wpAny_truthy_bool (by
  cases k with
  |false=>obtain rfl:=aq e;exact q _ (x₁.trans x₂)
  |true=>exact aa (show((r.ev Z.Φ σ).bind λd=>b'.f c d)=some k' from e) λd e4 e=>test_last (r.go aD e4 λv' s₃ x₃ fW Lc=>b'.ok (Z:=Z.weak) fW.toBs.weak (r₂.stp (λ_ h=>h) x₃) Lc e (wpAny_truthy_bool (q _ ((x₁.trans x₂).trans x₃)))))))) hm⟩
end
section
variable{sc:SC}
noncomputable def Jt(Φ:bO)(σ:List Slot):List (SB sc)->Option Bool
 | []=>some true
 |x::r=>(x.ev Φ σ).bind λa=>bif a then Jt Φ σ r else some false
noncomputable def R6(Φ:bO)(σ:List Slot):List (SB sc)->Option Bool
 | []=>some false
 |x::r=>(x.ev Φ σ).bind λa=>bif a then some true else R6 Φ σ r
theorem E9{Z:Fr}{σ:List Slot}{ws:Nat->Option Value}{p:Pos}{t:Sem Value}{Q:Bool->Shared->Prop}{E:Value->Shared->Prop}:∀{xs:List (SB sc)} {s:Shared} {b:Bool},Ev Z sc σ ws s->Jt Z.Φ σ xs=some b->(∀s',aJ Z.X Z.X.V s s'->Q b s')->wpAny Z.X.M Z.Ar (isTrue (.BoolOp .And (xs.map SB.e) p) Z.env t) Q E s:=by
 intro w
 induction w generalizing Q with
 |nil=>intro s b V e q;exact isTrue_and_nil (by obtain rfl:=aq e;exact q s .refl)
 |cons x r ih=>
  intro s b V e q
  exact aa e λa e1 e=>isTrue_and (x.go V e1 λs₁ x₁ aj=>by
   cases a with
   |true=>exact ih aj e λs' y=>q s' (x₁.trans y)
   |false=>obtain rfl:=aq e;exact q s₁ x₁)
theorem K0{Z:Fr}{σ:List Slot}{ws:Nat->Option Value}{p:Pos}{t:Sem Value}{Q:Bool->Shared->Prop}{E:Value->Shared->Prop}:∀{xs:List (SB sc)} {s:Shared} {b:Bool},Ev Z sc σ ws s->R6 Z.Φ σ xs=some b->(∀s',aJ Z.X Z.X.V s s'->Q b s')->wpAny Z.X.M Z.Ar (isTrue (.BoolOp .Or (xs.map SB.e) p) Z.env t) Q E s:=by
 intro w
 induction w generalizing Q with
 |nil=>intro s b V e q;exact isTrue_or_nil (by obtain rfl:=aq e;exact q s .refl)
 |cons x r ih=>
  intro s b V e q
  exact aa e λa e1 e=>isTrue_or (x.go V e1 λs₁ x₁ aj=>by
   cases a with
   |true=>obtain rfl:=aq e;exact q s₁ x₁
   |false=>exact ih aj e λs' y=>q s' (x₁.trans y))
def SB.Fb(xs:List (SB sc))(p:Pos):SB sc:=⟨.BoolOp .And (xs.map SB.e) p,λΦ σ=>Jt Φ σ xs,λV e Q E q=>E9 V e q⟩
def SB.VZ(xs:List (SB sc))(p:Pos):SB sc:=⟨.BoolOp .Or (xs.map SB.e) p,λΦ σ=>R6 Φ σ xs,λV e Q E q=>K0 V e q⟩
end
section
open Calls
theorem K3{prog:Program}{w:World}{A:Around}{E:Value->Shared->Prop}{s:Shared}{env:Env}{x:Str}{np pos:Pos}{Q:Flow->Shared->Prop}(hh:A.handled=none)
  (hx:wpAny (model prog w) A (eval (.Name x np) env) (λv s₁=>v=.type "ZeroDivisionError"/\s₁=s) E s)
  (h:∀h' e,Heap.MadeExc s.heap h' e "ZeroDivisionError" []->E (.ref e) {s with heap:=h'}):
  wpAny (model prog w) A (exec (.Raise (some (.Name x np)) none pos) env) Q E s:=by
 show wpAny (model prog w) A (do standAt pos;raiseStmt env (some (do let v<-eval (.Name x np) env;standAt pos;pure v)) none) Q E s
 refine wpAny_bind (wpAny_standAt ?_)
 unfold raiseStmt
 dsimp only
 refine wpAny_bind (wpAny_bind (wpAny_mono hx (λv s₁ h₁=>wpAny_bind (wpAny_standAt (wpAny_pure ?_))) λ_ _ e=>e))
 obtain⟨rfl,hs₁⟩:=h₁
 subst s₁
 refine wpAny_bind (wpAny_pure ?_)
 dsimp only
 refine wpAny_bind (wpAny_holding ?_)
 unfold excFromValue isExcClass
 refine wpAny_bind (wpAny_bind (wpAny_pure ?_))
 simp only[if_true]
 rw[F.excRaise_ZeroDivisionError.isExc]
 refine wpAny_pure ?_
 simp only[if_true]
 refine wpAny_bind (wpAny_call_exc F.excCall_ZeroDivisionError λh' e hn=>?_)
 obtain⟨t,he,_⟩:=hn.there
 have hT:({s with heap:=h'}:Shared).TypeIs (.ref e) "ZeroDivisionError":=(show∃o,h'.get? e=some o/\o.cls=.type "ZeroDivisionError" from⟨_,he,rfl⟩)
 refine wpAny_bind (wpAny_isInstance hT F.excRaise_ZeroDivisionError.isExc ?_)
 simp only[Bool.not_true,Bool.false_eq_true,if_false]
 refine wpAny_pure ?_
 first|(refine wpAny_bind (m:=isType (.type "ZeroDivisionError")) (wpAny_pure ?_))|(refine wpAny_bind (wpAny_pure ?_))
 first|(rw[if_pos rfl])|(simp only[if_true])|dsimp only
 refine wpAny_bind (wpAny_holding ?_)
 unfold raisedFor
 first|(simp only[Bool.false_eq_true,if_false])|(rw[if_neg (by decide)])|skip
 first|(refine wpAny_bind (wpAny_typeOf hT ?_))|(refine wpAny_bind ?_;refine wpAny_bind (wpAny_typeOf hT ?_))
 refine wpAny_bind (call_issubclass (issubclass_self excClass_ZeroDivisionError (by rw[isSubtype_type];kernel_rfl)) ?_)
 first|(refine wpAny_bind (wpAny_truthy_bool ?_))|(refine wpAny_truthy_bool ?_)|(dsimp only[wants];first|(refine wpAny_bind (wpAny_truthy_bool ?_))|(refine wpAny_truthy_bool ?_))
 first|(rw[if_pos rfl])|(simp only[if_true])|skip
 refine wpAny_pure ?_
 unfold setFlight raiseNew
 refine wpAny_bind (wpAny_bind (wpAny_field (i:=1) (x:=Value.none) he rfl rfl ?_))
 rw[if_neg (by decide)]
 refine wpAny_pure (wpAny_bind (wpAny_handled ?_))
 rw[hh]
 first
  |exact wpAny_throw (h h' e hn)
  |exact wpAny_bind (wpAny_pure (wpAny_throw (h h' e hn)))
end
def free(h:Heap)(a:Addr):Heap:=h.update a λo=>{o with data:=.freed}
theorem zE(h:Heap)(a:Addr):(free h a).get? a=none:=by
 obtain⟨objs,life⟩:=h
 simp only[free,Heap.update,Heap.get?,Array.getElem?_modify,if_true]
 cases objs[a]? <;>rfl
theorem xV{h:Heap}{a b:Addr}(n:b≠a):(free h a).get? b=h.get? b:=Heap.get?_update_other _ _ (Ne.symm n)
noncomputable def tB(h:Heap):List Addr->Heap
 | []=>h
 |a::r=>free (tB h r) a
theorem nM(h:Heap):∀{l:List Addr} {a:Addr},a∈l->(tB h l).get? a=none
 |b::r,a,m=>by
  by_cases q:a=b
  ·rw[q];exact zE _ _
  ·exact(xV q).trans (nM h ((eX m).resolve_left q))
theorem nN(h:Heap):∀{l:List Addr} {a:Addr},a∉l->(tB h l).get? a=h.get? a:=by
 intro w
 induction w with
 |nil=>intros;exact rfl
 |cons b r ih=>intro a m;exact(xV λq=>m (by rw[q];exact eF)).trans (ih λq=>m (f5 _ q))
theorem B7{h:Heap}{l:List Addr}{a:Addr}{o:Obj}(e:(tB h l).get? a=some o):h.get? a=some o:=by
 by_cases m:a∈l
 ·rw[nM h m]at e;exact no e
 ·rw[nN h m]at e;exact e
noncomputable abbrev bM (l:List Env):List Addr:=l.filterMap (·.frame)
noncomputable def Stack(X:Cx)(h:Heap):List Env->Prop
 | []=>True
 |env::r=>(env.scope.kind≠.module/\∃L o,env.frame=some L/\X.N<=L/\h.get? L=some o/\∀vs,o.data≠.fields vs)/\Stack X h r
theorem Stack.keep{X:Cx}{h h':Heap}(k:∀a o,X.N<=a->h.get? a=some o->(∀vs,o.data≠.fields vs)->∃o',h'.get? a=some o'/\o'.data=o.data):∀{l:List Env},Stack X h l->Stack X h' l:=by
 intro w
 induction w with
 |nil=>intros;exact trivial
 |cons _ _ ih=>
  rintro⟨⟨m,L,o,f,n,g,d⟩,r⟩
  obtain⟨o',e,q⟩:=k L o n g d
  exact⟨⟨m,L,o',f,n,e,λvs=>q▸d vs⟩,ih r⟩
theorem Stack.fun{X:Cx}{h base:Heap}:∀{l:List Env},Stack X h l->(∀a∈bM l,base.get? a=none)->h.FunFrames base l:=by
 intro w
 induction w with
 |nil=>intros;exact trivial
 |cons env r ih=>rintro⟨⟨m,L,o,f,n,g,d⟩,q⟩ hb;exact⟨m,⟨L,o,f,hb L (by unfold bM;rw[List.filterMap_cons_some f];exact eF),g,d⟩,ih q λa ha=>hb a (by unfold bM;rw[List.filterMap_cons_some f];exact f5 _ ha)⟩
theorem Stack.mut{X:Cx}{h:Heap}:∀{l:List Env},Stack X h l->∀a∈bM l,mD X.N h a:=by
 intro w
 induction w with
 |nil=>intro _ _ m;exact nomatch m
 |cons env r ih=>
  rintro⟨⟨_,L,o,f,n,g,d⟩,q⟩ a m
  unfold bM at m
  rw[List.filterMap_cons_some f]at m
  rcases eX m with rfl|m
  ·exact⟨n,o,g,.inr d⟩
  ·exact ih q a m
structure Flew(X:Cx)(base:Heap)(outer:List Env)(s s':Shared)(e t:Addr):Prop where
 fl:Heap.FlyingW base outer e (.type "ZeroDivisionError") (.ref t) s'.heap
 tup:s'.heap.TupAt t []
 up:∀b o,X.V b->s.heap.get? b=some o->(∀vs,o.data≠.fields vs)->∃sl,s'.heap.get? b=some {o with slots:=sl}
 kb:∀a o,X.V a->a∉bM outer->s.heap.get? a=some o->base.get? a=some o
 gk:∀h',base.StaysIn h'->X.G h'
 gens:∀(i:Nat) (x:GenState),i<s.gens.size->s.gens[i]?=some x->s'.gens[i]?=some x
 bare:AllBare s.gens->AllBare s'.gens
 os:s'.os=s.os
section
variable{nm:oQ}{Z:Fr}{s:Shared}{ps:List PV}{vs:List Value}{a:Addr}{fd:FuncData}{D:dY}{d:Nat}{outer:List Env}{Q:Value->Shared->Prop}{E:Value->Shared->Prop}
theorem zw{t:SB (D.sc nm)}{np rp ip:Pos}{els more:List Stmt}(V:Bs Z s)(A:FnAt Z.X a fd)(DO:dJ fd D (.If t.e [.Raise (some (.Name "ZeroDivisionError" np)) none rp] els ip::more))(hd:Z.d=d+1)(hnm:Z.X.nm=nm)(P:∀Ar,bD Ar d->Pf Z.X Z.Φ Ar d)
  (nt:(D.params==(["script"]:List Str))=false) (rl:Z.af s.heap ps vs) (hlen:ps.length=D.params.length) (ht:t.ev Z.Φ (D.slots ps)=some true) (hg:aC (D.sc nm) "ZeroDivisionError"=true)
  (hfr:Z.Ar.frames=some outer) (hf:Stack Z.X s.heap outer) (h:∀base e t s',Flew Z.X base outer s s' e t->E (.ref e) s'):wpAny Z.X.M Z.Ar (call (.ref a) vs) Q E s:=by
 refine wpAny_call (vI (nm:=nm) V A DO hd rl hlen λenv cs C ws s₂ he hc N hi EO y₂ D₂=>?_)
 have aD:=(gq EO hnm D₂ (P _ D₂.R) λh=>nomatch (nt.symm.trans h)).toEv
 have hE:env.frame=some C:=by rw[he];rfl
 have TM:env.locals=C:=by rw[he];rfl
 refine wpAny_execs_cons (wpAny_If (t.go aD ht λs₃ x₃ fW=>?_))
 refine wpAny_execs_cons (K3 fW.R.hh (fm fW hg (by decide+kernel) (by decide+kernel) ⟨rfl,rfl⟩) λh' e hm=>?_)
 have eY:aJ Z.X Z.X.V s s₃:=y₂.trans x₃
 have E7:Stack Z.X s₃.heap (env::outer):=⟨⟨by rw[EO.kind];decide,by
  obtain⟨n,m,o,es,ep,e,hd,_⟩:=fW.eV
  exact⟨C,o,hE,TM▸n,TM▸e,λvs q=>by rw[hd]at q;cases q⟩⟩,hf.keep λa o n e _=>⟨o,eY.off a o (.inl n) e,rfl⟩⟩
 have hfl:bM (env::outer)=C::bM outer:=by unfold bM;rw[List.filterMap_cons_some hE]
 refine wpAny_leaves_madeW (base:=tB s₃.heap (bM (env::outer))) (h:=s₃.heap) (by show Z.Ar.frames.map _=_;rw[hfr];rfl) hE (λb o e=>B7 e) (E7.fun λa m=>nM _ m) hm.of λh'' t fl tup _ up=>?_
 have hup:s₃.heap.UpToSlots h'':=(Heap.UpToSlots.of_keeps hm.keeps).trans up
 refine h _ e t _ ⟨fl,tup,λb o k e n=>hup b o (eY.off b o k e) n,λb o k n e=>?_,λh' st=>?_,λi x l z=>eY.gens i x l z,eY.bare,eY.os⟩
 ·rw[nN _ (by rw[hfl];exactλm=>(eX m).elim (λq=>ah (hi C (.inl rfl)).1 ⟨o,q▸e⟩) n)]
  exact eY.off b o k e
 ·exact fW.K.Gk s₃.heap h' (λa=>a∈bM (env::outer)) fW.g E7.mut λa o n e=>st a o ((nN _ n).trans e)
end
section
open Calls
theorem GN{h:Heap}{a:Addr}{m m':Str->Option Value}(x:h.Ns a m)(y:h.Ns a m'):m=m':=by
 refine fz λhP hK=>?_
 obtain⟨o,es,ep,e,d,_,q⟩:=x
 obtain⟨o',es',UY,e',d',_,q'⟩:=y
 refine hK ?_
 clear hK hP
 rw[e]at e'
 obtain rfl:=aq e'
 rw[d]at d'
 injection d' with d1 _
 subst d1
 exact funext λx=>(q x).symm.trans (q' x)
noncomputable abbrev bX (names:List (Str×NameKind)):dY:=⟨names,["before","last"],["told","problem","size","bridged","left"]⟩
noncomputable abbrev aS:List Str:=["before","last","told","problem","size","bridged","left"]
noncomputable abbrev gr (p q:PV):List Slot:=[.val p,.val q,.val (.str Str.empty),.unset,.unset,.unset,.unset]
theorem v7:isSubtype (.type "ZeroDivisionError") (.type "ZeroDivisionError")=pure true:=by rw[isSubtype_type];kernel_rfl
theorem KQ:isSubtype (.type ((Manifest.find? "ZeroDivisionError").elim "type" λx=>x.metatype)) (.type "tuple")=pure false:=by rw[isSubtype_type];kernel_rfl
section
variable{X:Cx}{nm:oQ}{names:List (Str×NameKind)}{QC a7:Addr}{FU P8:FuncData}{D7:dY}{d:Nat}
theorem handler{Z:Fr}{env:Env}{C e t:Addr}{base:Heap}{outer:List Env}{s₂ s₄:Shared}{m₂:Str->Option Value}{p1 p2 p3 p4 p5 p6 p7:Pos}{Q:Flow->Shared->Prop}{E:Value->Shared->Prop}
  (K:EZ Z.X) (EO:bq env ((bX names).sc nm) (aS.map (Loc.loc C))) (R:bD Z.Ar (d+1)) (hfr:Z.Ar.frames=some (env::outer)) (hE:env.frame=some C) (hC:env.locals=C) (W:Flew Z.X base (env::outer) s₂ s₄ e t) (hn₂:s₂.heap.Ns C m₂) (hN:Z.X.N<=C) (hb:base.get? C=none)
  (hnl:∀x∈aS,names.lookup x=some .local) (Rw:aC ((bX names).sc nm) "ZeroDivisionError"=true) (Rx:aC ((bX names).sc nm) "str"=true)
  (h:∀jc tk tk',base.StaysIn jc->(∀b o,Z.X.V b->b≠C->s₂.heap.get? b=some o->(∀vs,o.data≠.fields vs)->∃sl,jc.get? b=some {o with slots:=sl})->(∃v,jc.Ns C (λx=>if x="problem" then v else if x="told" then some (.str Str.empty tk')else if x="problem" then some (.ref e)else m₂ x))->Q .next {s₄ with heap:=jc,toks:=tk}):
  wpAny Z.X.M Z.Ar (noteFrame (.ref e) env) (λ_ s₂=>wpAny Z.X.M Z.Ar (setFlight (.ref e) none) (λ_ s₃=>wpAny Z.X.M Z.Ar (handleBy (.ref e) env [.ExceptHandler (some (.Name "ZeroDivisionError" p1)) (some "problem") [.Assign [.Name "told" p2] (.Call (.Name "str" p3) [.Name "problem" p4] [] p5) p6] p7]) Q E s₃) E s₂) E s₄:=by
 have kl:∀x∈aS,env.kindOf x=some .local:=λx m=>by rw[<-hnl x m];show env.scope.names.lookup x=_;rw[EO.names]
 have hp:(env.scope.kind==.class||(env.scope.kind==.module&&env.locals !=env.globals))=false:=by rw[EO.kind];rfl
 refine fz λhP hK=>?_
 obtain⟨o₂,es₂,Nb,e₂,hd₂,r₂⟩:=id hn₂
 refine hK ?_
 clear hK hP
 have nf:∀vs,o₂.data≠.fields vs:=λvs q=>by rw[hd₂]at q;cases q
 refine wpAny_looks_onW hfr hE W.fl λh₅ held OY=>?_
 refine wpAny_landsW held λh₆ B3 OZ=>?_
 refine wpAny_handleBy_builtin_as (X:="ZeroDivisionError") (T:="ZeroDivisionError") (b:=true) F.excRaise_ZeroDivisionError.isExc KQ v7 ?_
 have Gb:Z.X.G h₆:=W.gk h₆ B3.1
 have gl:∀{x:Str} {v:Value} {Ar:Around} {p:Pos} {Q:Value->Shared->Prop} {E:Value->Shared->Prop} {s:Shared},Z.X.G s.heap->aC ((bX names).sc nm) x=true->x∈jH->bootBuiltins x=some v->Q v s->wpAny Z.X.M Ar (eval (.Name x p) env) Q E s:=λg hm hx hb q=>
  Calls.Name_function_global EO.kind (jV (Z:={Z with env:=env,ls:=aS.map (Loc.loc C)}) EO (both hm).1) (Calls.loadGlobal_builtin (EO.glob▸K.g _ g) (K.blt _ hx).1 (EO.blt▸K.b _ g) ((K.blt _ hx).2.trans hb) q) (not_eq (both hm).2)
 refine gl Gb Rw (by decide+kernel) (by decide+kernel) ⟨rfl,B3.there,?_⟩
 rw[if_pos rfl]
 refine lands_againW B3 λCK xT O0=>?_
 have Lv:s₄.heap.UpToSlots CK:=(OY.trans OZ).trans O0
 obtain⟨sl,BU⟩:=W.up C o₂ (.inl hN) e₂ nf
 obtain⟨Sj,BU⟩:=Lv C _ BU nf
 have NH:CK.Ns C m₂:=⟨_,es₂,Nb,BU,hd₂,r₂⟩
 refine wpAny_storeName_local (kl "problem" (by decide)) (hC▸NH) (λzL IF I7=>?_) hp
 have Gd:Z.X.G zL:=W.gk zL λb o q=>I7.extBut b o (λz=>by rw[z,hC,hb]at q;exact no q) (xT.1 b o q)
 refine wpAny_execs_cons (wpAny_Assign_Name (wpAny_Call_NameR (gl (v:=.type "str") Gd Rx (by decide+kernel) (by decide+kernel) ?_)) rfl)
 refine PySem.callWith_type rfl (Calls.evalArgs_plain (Calls.spliced_cons (wpAny_Name (wpAny_loadName_local EO.kind (kl "problem" (by decide)) IF (if_pos rfl) (Calls.spliced_nil ?_)))))
 have eC:e≠C:=λq=>by
  refine fz λhP hK=>?_
  obtain⟨oe,_,q1,_,q2,_⟩:=xT.first
  refine hK ?_
  clear hK hP
  rw[q,BU]at q1
  rw[<-aq q1]at q2
  exact nf _ q2
 have II:CK.TupAt t []:=W.tup.of_slots Lv
 have tC:t≠C:=λq=>by
  refine fz λhP hK=>?_
  obtain⟨ot,n,q1,_,q2⟩:=II
  refine hK ?_
  clear hK hP
  rw[q,BU]at q1
  rw[<-aq q1]at q2
  rw[show({o₂ with slots:=Sj}:Obj).data=o₂.data from rfl,hd₂]at q2
  cases q2
 have Kr:∀b o,b≠C->CK.get? b=some o->zL.get? b=some o:=λb o n q=>I7.extBut b o (λz=>n (z.trans hC)) q
 have HR:zL.ExcAt e "ZeroDivisionError" (.ref t):=by
  refine fz λhP hK=>?_
  obtain⟨oe,ws,q1,q2,q3,q4⟩:=xT.first
  refine hK ?_
  clear hK hP
  exact⟨oe,ws,Kr _ _ eC q1,q2,q3,q4⟩
 have Sz:zL.TupAt t []:=by
  refine fz λhP hK=>?_
  obtain⟨ot,n,q1,q2,q3⟩:=II
  refine hK ?_
  clear hK hP
  exact⟨ot,n,Kr _ _ tC q1,q2,q3⟩
 refine P.str_of_exc_none (A:=Z.Ar.mark (some (.ref e))) (s:={s₄ with heap:=zL,toks:=s₄.toks+1}) F.excStr_ZeroDivisionError (Nat.lt_of_le_of_lt (show Z.Ar.units+2<=Z.Ar.units+6 from Nat.add_le_add_left (by decide) _) (Nat.lt_of_le_of_lt (Nat.add_le_add_left (by decide) _) R.units)) HR Sz ?_
 refine wpAny_storeName_local (kl "told" (by decide)) IF (λjc nR Ou=>?_) hp
 refine wpAny_execs_nil ?_
 refine wpAny_nameGoes_keeps (kl "problem" (by decide)) nR hp λye v CB DL=>?_
 have yh:∀b o,b≠C->CK.get? b=some o->ye.get? b=some o:=λb o n q=>DL.extBut b o (λz=>n (z.trans hC)) (Ou.extBut b o (λz=>n (z.trans hC)) (Kr b o n q))
 refine h ye _ _ (λb o q=>yh b o (λz=>by rw[z,hb]at q;exact no q) (xT.1 b o q)) (λb o k n q f=>?_) ⟨v,hC▸CB⟩
 obtain⟨sl,q1⟩:=W.up b o k q f
 obtain⟨Sj,q1⟩:=Lv b _ q1 f
 exact⟨Sj,yh b _ n q1⟩
end
end
section
open Calls
section
variable{X:Cx}{nm:oQ}{names:List (Str×NameKind)}{QC a7:Addr}{FU P8:FuncData}{D7:dY}{d:Nat}{fT:bO}{Ar:Around}
theorem Fe{h:Heap}{o:Option Value}{C:Addr}{x:Str}{m:Str->Option Value}(a:At h o (.loc C x))(n:h.Ns C m):o=m x:=by
 obtain⟨m',n',e⟩:=a
 rw[<-e,GN n' n]
theorem J1{a b:PV}{i:Nat}{t:Slot}(e:(gr a b)[i]?=some t):i=0/\t=.val a\/i=1/\t=.val b\/i=2/\t=.val (.str Str.empty)\/t=.unset:=
 by
 rcases i with _|_|_|_|_|_|_|i
 ·exact .inl ⟨rfl,(aq e).symm⟩
 ·exact .inr (.inl ⟨rfl,(aq e).symm⟩)
 ·exact .inr (.inr (.inl ⟨rfl,(aq e).symm⟩))
 iterate 4 exact .inr (.inr (.inr (aq e).symm))
 cases e
theorem Gh{t7:SB (D7.sc nm)}{np rp ip q1 q2 q3 q4 q5 p1 p2 p3 p4 p5 p6 p7:Pos}{els more:List Stmt}{x0 x1:SE ((bX names).sc nm)}{rest:SL ((bX names).sc nm)}(hnm:X.nm=nm)(Ri:X.fv 17=.ref QC)(Ql:FnAt X QC FU)
  (Qx:dJ FU (bX names) (.Try [.Assign [.Name "told" q1] (.Call (.Name "int_divmod" q2) (exprs [x0,x1]) [] q3) q4] [.ExceptHandler (some (.Name "ZeroDivisionError" p1)) (some "problem") [.Assign [.Name "told" p2] (.Call (.Name "str" p3) [.Name "problem" p4] [] p5) p6] p7] [] [] q5::rest.sts))
  (h7:X.fv 7=.ref a7) (A7:FnAt X a7 P8) (O7:dJ P8 D7 (.If t7.e [.Raise (some (.Name "ZeroDivisionError" np)) none rp] els ip::more)) (TP:nm.fns[7]?=some ("int_divmod":Str)) (hnl:∀x∈aS,names.lookup x=some .local)
  (hg:(aC ((bX names).sc nm) "int_divmod"&&(aC ((bX names).sc nm) "ZeroDivisionError"&&aC ((bX names).sc nm) "str"))=true) (Vz:aC (D7.sc nm) "ZeroDivisionError"=true) (VV:(D7.params==(["script"]:List Str))=false) (VC:D7.params.length=2)
  (hx:∀(Φ:bO) (b0 b1 l1:Int),x0.ev Φ ((bX names).slots [.tup [.int b0,.int b1],.tup [.int 0,.int l1]])=some (.int (-b0))/\x1.ev Φ ((bX names).slots [.tup [.int b0,.int b1],.tup [.int 0,.int l1]])=some (.int 0))
  (ht:∀(Φ:bO) (i:Int),t7.ev Φ (D7.slots [.int i,.int 0])=some true)
  (hr:∀(Φ:bO) (b0 b1 l1:Int),sm b1=true->rest.ex Φ (gr (.tup [.int b0,.int b1]) (.tup [.int 0,.int l1]))=some (.ret (.int (b1*l1))))
  (P:∀Ar,bD Ar d->Pf X fT Ar d):kI X Ar (d+2):=by
 intro Φ env s B vs b0 b1 l1 Q E V hfr hk hef hN hns hB rl hs h
 obtain⟨Vw,hg⟩:=both hg
 obtain⟨Rw,Rx⟩:=both hg
 have QB:Bs (Fr.of X fT Ar (d+2) B) s:=⟨V.K,V.R,V.g,V.fresh,V.sub⟩
 rw[Ri]
 refine wpAny_call (vI (nm:=nm) (Z:=Fr.of X fT Ar (d+2) B) (d:=d+1) QB Ql Qx rfl rl rfl λenv' cs C ws s₂ he hc N hi EO y₂ D₂=>?_)
 have hE:env'.frame=some C:=by rw[he];rfl
 have hC:env'.locals=C:=by rw[he];rfl
 have hmap:aS.map (aT names cs C)=aS.map (Loc.loc C):=List.map_congr_left λx m=>by unfold aT;rw[hnl x m];rfl
 have aD:=gq EO hnm D₂ ((P _ (D₂.R.less (Nat.le_succ d))).more (Nat.le_succ d)) nofun
 have nC:s.heap.get? C=none:=(hi C (.inl rfl)).1
 have Cq:X.N<=C:=(hi C (.inl rfl)).2
 refine wpAny_execs_cons (wpAny_Try_except (wpAny_execs_cons (wpAny_Assign_Name (wpAny_Call_NameR (global aD.toEv Vw (aD.K.fns 7 _ (hnm▸TP)) (aD.K.xH 7 _ (hnm▸TP) _ _ [] _ _ _ _ (cg [x0,x1]) (eH (ps:=[.int (-b0),.int 0]) aD.toEv (by
  have z:=hx fT b0 b1 l1
  show(x0.ev fT _).bind _=_
  rw[z.1]
  show(((x1.ev fT _).bind _:Option (List PV)).map _)=_
  rw[z.2];rfl) λvs' s₃ x₃ fW V4=>⟨fW.g,?_⟩) aD.g))) rfl)))
 change wpAny _ _ (call (X.fv 7) ([]++vs')) _ _ _
 rw[h7]
 obtain⟨_,m₃,tM⟩:=fW.eV
 have tM:s₃.heap.Ns C m₃:=hC▸tM
 refine fz λhP hK=>?_
 obtain⟨ml,oL,Wu,Wt,eL,hdL,rL⟩:=hns
 refine hK ?_
 clear hK hP
 have eY:aJ X X.V s s₃:=y₂.trans x₃
 have R0:∀vs,oL.data≠.fields vs:=λvs q=>by rw[hdL]at q;cases q
 have LC:env.locals≠C:=λq=>ah nC ⟨oL,q▸eL⟩
 have E7:Stack X s₃.heap [env',env]:=by
  refine fz λhP hK=>?_
  obtain⟨o,es,ep,e,hd,_⟩:=id tM
  refine hK ?_
  clear hK hP
  exact⟨⟨by rw[EO.kind];decide,C,o,hE,Cq,e,λvs q=>by rw[hd]at q;cases q⟩,⟨by rw[hk];decide,env.locals,oL,hef,hN,eY.off _ _ (.inl hN) eL,R0⟩,trivial⟩
 have NF:(Ar.deeper env').frames=some [env',env]:=by show Ar.frames.map _=_;rw[hfr];rfl
 have fO:bM [env',env]=[C,env.locals]:=by unfold bM;rw[List.filterMap_cons_some hE,List.filterMap_cons_some hef];rfl
 refine zw (nm:=nm) (d:=d) fW.toBs A7 O7 rfl hnm P VV V4 VC.symm (ht _ _) Vz NF E7 λbase e t s₄ W=>?_
 have bC:base.get? C=none:=by
  refine fz λhP hK=>?_
  obtain⟨_,⟨L,o,q1,q2,_⟩,_⟩:=W.fl.2.2.1
  refine hK ?_
  clear hK hP
  rw[hE]at q1
  exact aq q1▸q2
 refine handler (nm:=nm) (names:=names) (d:=d) (Z:=(Fr.of X fT Ar (d+2) B).first (Ar.deeper env') (d+1) env' names cs C aS) fW.K (hmap▸EO) D₂.R NF hE hC W tM Cq bC hnl Rw Rx λjc tk tk' st up hv=>?_
 obtain⟨v,nR⟩:=hv
 have kp:∀a o,X.V a->a≠C->a≠env.locals->s₃.heap.get? a=some o->jc.get? a=some o:=λa o k n1 n2 e=>st a o (W.kb a o k (by rw[fO];intro m;rcases eX m with m|m;exact n1 m;exact n2 (fG m)) e)
 have kB:∀a o,B a/\¬aA C cs a->s₂.heap.get? a=some o->jc.get? a=some o:=λa o b e=>kp a o (V.sub a b.1) (λq=>b.2 (.inl q)) (λq=>hB (q▸b.1)) (x₃.off a o (V.sub a b.1) e)
 have NV:∃o,jc.get? env.locals=some o:=(up env.locals oL (.inl hN) LC (eY.off _ _ (.inl hN) eL) R0).elim λ_ e=>⟨_,e⟩
 have NU:∃o,jc.get? C=some o:=by obtain⟨o,_,_,e,_⟩:=nR;exact⟨o,e⟩
 generalize hm:(λx:Str=>if x="problem" then v else if x="told" then some (.str Str.empty tk')else if x="problem" then some (.ref e)else m₃ x)=wA at nR
 have MB:∀(i:Nat) (x:Str),aS[i]?=some x->ws i=m₃ x:=λi x q=>by
  have hl:(aS.map (aT names cs C))[i]?=some (Loc.loc C x):=by rw[hmap,List.getElem?_map,q];rfl
  exact Fe (fW.pl i _ hl) tM
 have val:∀(i:Nat) (x:Str) (p:PV),aS[i]?=some x->x≠"problem"->x≠"told"->((bX names).slots [.tup [.int b0,.int b1],.tup [.int 0,.int l1]])[i]?=some (.val p)->∃w,wA x=some w/\Internal.Rep jc (λa=>B a/\¬aA C cs a) p w:=λi x p q n1 n2 q2=>by
  obtain⟨w,e1,e2⟩:=D₂.ok i _ q2
  refine⟨w,?_,Internal.Rep.move e2 λa o b e=>⟨b,kB a o b e⟩⟩
  rw[<-hm]
  show(if x="problem" then v else if x="told" then some (.str Str.empty tk')else if x="problem" then some (.ref e)else m₃ x)=some w
  rw[if_neg n1,if_neg n2,if_neg n1,<-MB i x q,e1]
 have fJ:Dy (((Fr.of X fT Ar (d+2) B).first (Ar.deeper env') (d+1) env' names cs C aS).bu (λa=>B a/\¬aA C cs a) (λa=>a=C)) (gr (.tup [.int b0,.int b1]) (.tup [.int 0,.int l1])) (λi=>aS[i]?.bind wA) {s₄ with heap:=jc,toks:=tk}:=by
  refine{K:=V.K,R:=D₂.R,g:=W.gk jc st,fresh:=λa n e=>?_,sub:=λa b=>V.sub a b.1,eU:=λa u b=>b.2 (.inl u),turn:=λa u=>?_,len:=rfl,pl:=λi l e=>?_,ok:=λi t e=>?_,hi:=λl m=>?_,mine:=λi l _ e=>?_,dI:=λi xs a _ e _=>?_,apart:=D₂.apart,eV:=⟨hC▸Cq,wA,hC▸nR⟩,once:=λi j xs ys e1 _ _=>?_}
  ·refine D₂.fresh a n ?_
   cases q:s₂.heap.get? a with
   |none=>rfl
   |some o=>
    by_cases qc:a=C
    ·obtain⟨o,z⟩:=NU;rw[qc]at e;exact ah e ⟨o,z⟩
    ·by_cases ql:a=env.locals
     ·obtain⟨o,z⟩:=NV;rw[ql]at e;exact ah e ⟨o,z⟩
     ·exact ah e ⟨o,kp a o (.inl n) qc ql (x₃.off a o (.inl n) q)⟩
  ·obtain rfl:a=C:=u
   obtain⟨o,e,c,_⟩:=fR (s:={s₄ with heap:=jc,toks:=tk}) nR
   exact⟨Cq,o,e,c⟩
  ·rw[show(((Fr.of X fT Ar (d+2) B).first (Ar.deeper env') (d+1) env' names cs C aS).bu (λa=>B a/\¬aA C cs a) (λa=>a=C)).ls=aS.map (Loc.loc C)from hmap,List.getElem?_map]at e
   refine aE e λx e1 e2=>?_
   subst e2
   exact⟨wA,nR,by show wA x=aS[i]?.bind wA;rw[e1];rfl⟩
  ·rcases J1 e with⟨rfl,rfl⟩|⟨rfl,rfl⟩|⟨rfl,rfl⟩|rfl
   ·exact val 0 "before" _ rfl (by decide) (by decide) rfl
   ·exact val 1 "last" _ rfl (by decide) (by decide) rfl
   ·exact⟨.str Str.empty tk',by show wA "told"=_;rw[<-hm];rfl,tk',rfl⟩
   ·trivial
  ·have m:l∈aS.map (Loc.loc C):=hmap▸m
   obtain⟨x,_,rfl⟩:=List.mem_map.mp m
   exact Cq
  ·have m:l∈aS.map (Loc.loc C):=hmap▸List.mem_of_getElem? e
   obtain⟨x,_,rfl⟩:=List.mem_map.mp m
   rfl
  ·rcases J1 e with⟨_,q⟩|⟨_,q⟩|⟨_,q⟩|q<;>exact nomatch q
  ·rcases J1 e1 with⟨_,q⟩|⟨_,q⟩|⟨_,q⟩|q<;>exact nomatch q
 have yZ:Ex (((Fr.of X fT Ar (d+2) B).first (Ar.deeper env') (d+1) env' names cs C aS).bu (λa=>B a/\¬aA C cs a) (λa=>a=C)) ((bX names).sc nm) _ _ {s₄ with heap:=jc,toks:=tk}:=⟨⟨⟨fJ,aD.P,aD.EO,aD.nm,aD.fr⟩,aD.al⟩,aD.to⟩
 refine rest.ok yZ (hr fT b0 b1 l1 hs) _ _ λf s₁ B' U' g en=>?_
 obtain⟨w,rfl,tw,rfl⟩:=en
 refine h tw s₁ ⟨λa o k n e=>?_,λo e=>?_,λ_=>g.x.G (W.gk jc st),λi x l z=>g.x.gens i x ?_ (W.gens i x ?_ (eY.gens i x l z)),λb=>g.x.bare (W.bare (eY.bare b)),g.x.os.trans (W.os.trans eY.os)⟩
 ·have nc:a≠C:=λq=>ah nC ⟨o,q▸e⟩
  exact g.x.off a o ⟨k,nc⟩ (kp a o k nc n (eY.off a o k e))
 ·obtain⟨sl,q⟩:=up env.locals o (.inl hN) LC (eY.off _ _ (.inl hN) e) (by rw[eL]at e;exact aq e▸R0)
  exact⟨sl,g.x.off _ _ ⟨.inl hN,LC⟩ q⟩
 ·exact(Array.getElem?_eq_some_iff.mp (W.gens i x (Array.getElem?_eq_some_iff.mp (eY.gens i x l z)).1 (eY.gens i x l z))).1
 ·exact(Array.getElem?_eq_some_iff.mp (eY.gens i x l z)).1
end
end
section
variable{sc:SC}{Z:Fr}{σ:List Slot}{ws:Nat->Option Value}{s s':Shared}
def SS.Sy(b:SL sc)(h₀:ExceptHandler)(hs:List ExceptHandler)(pos:Pos):SS sc:=⟨.Try b.sts (h₀::hs) [] [] pos,b.ex,λ{Z σ ws s o} V e Q E h=>wpAny_Try_except ((b.ok V e) _ _ λf s₁ B U g en=>by
 cases f with
 |next=>exact wpAny_execs_nil (h .next s₁ B U g en)
 |_=>exact h _ s₁ B U g en)⟩
theorem kJ.ns{X:Cx}{L:Addr}{m:Str->Option Value}(T:kJ X L s s')(n:s.heap.Ns L m):s'.heap.Ns L m:=by
 obtain⟨o,es,ep,e,d,r⟩:=n
 obtain⟨sl,q⟩:=T.self o e
 exact⟨_,es,ep,q,d,r⟩
theorem kJ.stp(T:kJ Z.X Z.env.locals s s')(u:Z.U Z.env.locals):aJ Z.X Z.K s s':=⟨λa o k e=>T.off a o k.1 (λq=>k.2 (q▸u)) e,T.G,T.gens,T.bare,T.os⟩
theorem Dy.turned(D:Dy Z σ ws s)(T:kJ Z.X Z.env.locals s s')(u:Z.U Z.env.locals):Dy Z σ ws s':=by
 obtain⟨hN,m,hm⟩:=D.eV
 obtain⟨oL,es,ep,eL,hd,r⟩:=id hm
 have kp:∀a o,Z.X.V a->a≠Z.env.locals->s.heap.get? a=some o->s'.heap.get? a=some o:=T.off
 have kB:∀a o,Z.B a->s.heap.get? a=some o->Z.B a/\s'.heap.get? a=some o:=λa o b e=>⟨b,kp a o (D.sub a b) (λq=>D.eU a (q▸u) b) e⟩
 refine{K:=D.K,R:=D.R,g:=T.G D.g,fresh:=λa n e=>D.fresh a n ?_,sub:=D.sub,eU:=D.eU,turn:=λa v=>⟨(D.turn a v).1,?_⟩,len:=D.len,pl:=λi l e=>?_,ok:=λi t e=>?_,hi:=D.hi,mine:=D.mine,dI:=D.dI,apart:=D.apart,eV:=⟨hN,m,T.ns hm⟩,once:=D.once}
 ·cases q:s.heap.get? a with
  |none=>rfl
  |some o=>
   by_cases c:a=Z.env.locals
   ·obtain⟨sl,z⟩:=T.self o (c▸q);rw[c,z]at e;exact no e.symm
   ·rw[kp a o (.inl n) c q]at e;exact no e.symm
 ·obtain⟨o,q,c⟩:=(D.turn a v).2
  by_cases z:a=Z.env.locals
  ·obtain⟨sl,w⟩:=T.self o (z▸q);exact⟨{o with slots:=sl},(congrArg s'.heap.get? z).trans w,c⟩
  ·exact⟨o,kp a o (.inl (D.turn a v).1) z q,c⟩
 ·have q:=D.pl i l e
  have hl:=D.hi l (List.mem_of_getElem? e)
  by_cases z:l.addr=Z.env.locals
  ·cases l with
   |loc L x=>
    obtain rfl:L=Z.env.locals:=z
    obtain⟨m',n',e'⟩:=q
    exact⟨m',T.ns n',e'⟩
   |cell c=>
    obtain rfl:c=Z.env.locals:=z
    obtain⟨o,q1,q2⟩:=q
    rw[eL]at q1
    obtain rfl:=aq q1
    exact nomatch hd.symm.trans q2
  ·exact q.keep λo w=>kp _ o (.inl hl) z w
 ·have q:=D.ok i t e
  cases t with
  |unset=>trivial
  |val p=>exact q.imp λv q=>⟨q.1,Internal.Rep.move q.2 kB⟩
  |own xs=>
   obtain⟨v,vs,h1,⟨a,n,rfl,h2,h3⟩,h4⟩:=q
   refine⟨_,vs,h1,⟨a,n,rfl,h2,kp a _ (.inl h2) (λz=>?_) h3⟩,Internal.af.move kB h4⟩
   rw[z,eL]at h3
   rw[aq h3]at hd
   cases hd
  |is v=>exact q
def pairOf(p:PV):Option (Int×Int):=p.o4.bind λl=>List.casesOn (motive:=λ_=>Option (Int×Int)) l none λa r=>List.casesOn (motive:=λ_=>Option (Int×Int)) r none λb r=>List.casesOn (motive:=λ_=>Option (Int×Int)) r (a.int?.bind λi=>b.int?.map λj=>(i,j)) λ_ _=>none
theorem pN{p:PV}{q:Int×Int}(e:pairOf p=some q):p=.tup [.int q.1,.int q.2]:=aa e λl e1 e=>by
 rw[PV.is_tup e1]
 rcases l with _|⟨a,_|⟨b,_|_⟩⟩
 ·exact nomatch e
 ·exact nomatch e
 ·exact aa e λi e2 e=>aE e λj e3 e=>by rw[PV.kY e2,PV.kY e3,<-e]
 ·exact nomatch e
def zeroOf(ps:List PV):Option PV:=List.casesOn (motive:=λ_=>Option PV) ps none λp r=>List.casesOn (motive:=λ_=>Option PV) r none λq r=>List.casesOn (motive:=λ_=>Option PV) r ((pairOf p).bind λb=>(pairOf q).bind λl=>bif l.1==0&&sm b.2 then some (.int (b.2*l.2))else none) λ_ _=>none
theorem Am{ps:List PV}{r:PV}(e:zeroOf ps=some r):∃b0 b1 l1,ps=[.tup [.int b0,.int b1],.tup [.int 0,.int l1]]/\sm b1=true/\r=.int (b1*l1):=by
 rcases ps with _|⟨p,_|⟨q,_|_⟩⟩
 ·exact nomatch e
 ·exact nomatch e
 ·refine aa e λb e1 e=>aa e λl e2 e=>?_
  cases hc:l.1==0&&sm b.2 with
  |false=>rw[hc]at e;exact no e
  |true=>
   rw[hc]at e
   have h0:=eq_of_beq (both hc).1
   exact⟨b.1,b.2,l.2,by rw[pN e1,pN e2,h0],(both hc).2,(aq e).symm⟩
 ·exact nomatch e
def iW(Φ:bO)(ps:List PV):Option PV:=Option.casesOn (motive:=λ_=>Option PV) (Φ.fn 17 ps) (bif Φ.hz then zeroOf ps else none) some
def SS.Fc(i:Nat)(x:Str)(p ap pos pos':Pos)(as:List (SE sc))(p1 p2:Pos)(hm:isVar sc i x=true)(hl:(ap.endLine==pos.line)=true)(hx:sc.nm.fns[17]?=some ("_law_factor_home":Str))(hg:aC sc "_law_factor_home"=true)
  (hj:(sc.top&&(sc.Γ[0]?==some ("script":Str)&&(sc.N.lookup ("script":Str)==some .local&&kX sc 0 "script")))=true):SS sc:=
 ⟨.Expr (.Call (.Attribute (.Name x p) "append" ap) (exprs [SE.call 17 "_law_factor_home" as p1 p2 hx hg]) [] pos) pos',λΦ σ=>(eW σ i).bind λxs=>(ig Φ σ as).bind λps=>(iW Φ ps).bind λr=>bif fits xs.length then some (.next (σ.set i (.own (xs++[r]))))else none,
 λ{Z σ ws s o} V e Q E q=>aa e λxs e0 e=>aa e λps e1 e=>aa e λr e2 e=>by
  cases hf:Z.Φ.fn 17 ps with
  |some r'=>
   have z:iW Z.Φ ps=some r':=by unfold iW;rw[hf]
   rw[z]at e2
   obtain rfl:=aq e2
   refine(SS.app i x p ap pos pos' (SE.call 17 "_law_factor_home" as p1 p2 hx hg) hm hl).ok V ?_ Q E q
   show((eW σ i).bind λxs=>((ig Z.Φ σ as).bind (Z.Φ.fn 17)).bind _)=_
   rw[e0,e1]
   show((Z.Φ.fn 17 ps).bind _)=_
   rw[hf]
   exact e
  |none=>
   have e3:(bif Z.Φ.hz then zeroOf ps else none)=some r:=by rw[<-e2];unfold iW;rw[hf]
   cases hz:Z.Φ.hz with
   |false=>rw[hz]at e3;exact no e3
   |true=>
    rw[hz]at e3
    obtain⟨b0,b1,l1,rfl,hs,rfl⟩:=Am e3
    cases hc:fits xs.length with
    |false=>rw[hc]at e;exact no e
    |true=>
     rw[hc]at e
     obtain rfl:=aq e
     obtain⟨ht,hj⟩:=both hj
     obtain⟨j1,hj⟩:=both hj
     obtain⟨j2,j3⟩:=both hj
     obtain⟨f1,f2⟩:=V.fr ht
     have l0:0<Z.ls.length:=V.EO.len▸(jb (eq_of_beq j1)).1
     have u:Z.U Z.env.locals:=by
      have el:=V.EO.loc 0 _ Z.ls[0] (eq_of_beq j1) (List.getElem?_eq_getElem l0) (eq_of_beq j2)
      have:=V.mine 0 _ (V.to 0 _ j3) (List.getElem?_eq_getElem l0)
      rw[el]at this;exact this
     rw[exec_Expr Z.env _ pos' (by unfold interactive;rw[V.EO.kind];rfl) (by rfl)]
     refine wpAny_bind (wpAny_standAt (wpAny_bind (wpAny_Call_method_lateS rfl (nK (as:=[SE.call 17 "_law_factor_home" as p1 p2 hx hg]) rfl) hl ?_)))
     refine V.own e0 λa vs n O=>CW V.toEv hm O.hh ⟨"list","list.append",F.plainAttrs_list,F.slot_list_append,F.type_list_append,⟨_,O.ha,rfl⟩,λb q=>by cases q;exact⟨_,O.ha,rfl⟩,?_⟩
     refine Calls.callWith_builtin (cg [SE.call 17 "_law_factor_home" as p1 p2 hx hg]) (args_call (wpAny_items_cons ?_ ((SE.call 17 "_law_factor_home" as p1 p2 hx hg).pl.st _ _)))
     refine wpAny_Call_NameR (global V.toEv hg (V.K.fns 17 _ (V.nm▸hx)) (V.K.xH 17 _ (V.nm▸hx) _ p2 [] _ _ E _ (cg as) (eH V.toEv e1 λus s₁ x₁ aj rl=>⟨aj.g,?_⟩) V.g))
     refine aj.P.home hz Z.Φ Z.env s₁ Z.B us b0 b1 l1 _ E aj.toBs.of f1 V.EO.kind f2 aj.eV.1 aj.eV.2 (aj.eU _ u) rl hs λt s₂ T=>wpAny_pure ?_
     have D₂:=aj.toDy.turned T u
     have i9:=O.step V.toBs x₁
     have aL:a≠Z.env.locals:=λq=>by
      obtain⟨_,m,o,es,ep,w,hd,_⟩:=aj.eV
      have z:=i9.ha
      rw[q,w]at z
      rw[aq z]at hd
      cases hd
     have qe:lM Z ws s₂ i xs a vs n:=⟨i9.hh,i9.hN,T.off _ _ (.inl i9.hN) aL i9.ha,Internal.af.move (λb o k w=>⟨k,T.off b o (aj.sub b k) (λq=>aj.eU b (q▸u) k) w⟩) i9.hr,i9.hu⟩
     exact app_list qe.ha (by rw[qe.hr.len];exact aQ hc) λh' n' z1 z2=>wpAny_dropValue (kG V ⟨D₂,aj.P,aj.EO,aj.nm,aj.fr⟩ (x₁.toK.trans (T.stp u)) qe e0 z2 z1 (af.append (af.cons Rep.mkInt af.nil) qe.hr) q)⟩
end
end Mine.Internal
end
section
open PySem PySem.W PyProof.Rows
namespace Mine.Internal
namespace L
section
variable{sc:SC}
abbrev te(b:SL sc)(h₀:ExceptHandler)(pos:Pos):SS sc:=.Sy b h₀ [] pos
abbrev Ut(i:Nat)(x:Str)(p ap pos pos':Pos)(as:List (SE sc))(p1 p2:Pos)(hm:autoParam (isVar sc i x=true) cy)(hl:autoParam ((ap.endLine==pos.line)=true) cy)(hx:autoParam (sc.nm.fns[17]?=some ("_law_factor_home":Str)) cy)(hg:autoParam (aC sc "_law_factor_home"=true) cy)
 (hj:autoParam ((sc.top&&(sc.Γ[0]?==some ("script":Str)&&(sc.N.lookup ("script":Str)==some .local&&kX sc 0 "script")))=true) cy):SS sc:=.Fc i x p ap pos pos' as p1 p2 hm hl hx hg hj
abbrev Q7(b:SE sc)(p1 p:Pos)(hg:autoParam (aC sc "enumerate"=true) cy):SI sc:=.Na b p1 p hg
abbrev VO(x:SW sc)(p1 p:Pos)(hg:autoParam (aC sc "list"=true) cy):SE sc:=.RW x p1 p hg
abbrev Ti{op op':CmpOp}(b:C2 op)(b':C2 op')(l m r:SX sc)(p:Pos)(hm:autoParam (lastMarks [op,op'] [m.e,r.e]=false) cy):SB sc:=.chain b b' l m r p hm
end
noncomputable abbrev jN (a b:List (Str×NameKind)):List (Str×NameKind):=a++b
noncomputable abbrev jS (a b:List Str):List Str:=a++b
noncomputable abbrev P:Program:=PySem.Challenge.pw_ux0036_01
noncomputable abbrev nm:oQ:=⟨["_strip_quoted_realnames","_check_parenthesis","_pre_parse_validation","_div2n1n","_int2digits","_digits2int","_divmod_pos","int_divmod","rgb_to_hls","hls_to_rgb","_v","rgb_to_hsv","hsv_to_rgb","Whitespace","_law_figures","_law_cross","_law_parts","_law_factor_home","law"],["_iter_escaped_chars"],[("ONE_THIRD",4599676419421066581),("ONE_SIXTH",4595172819793696085),("TWO_THIRD",4604180019048437077)],[("_DIV_LIMIT",4000)],["indent_level"],188,[(13,"S"," "),(13,"T","\t")]⟩
noncomputable abbrev D3:dY:=⟨[("a",.local),("b",.local),("n",.local),("pad",.local),("half_n",.local),("mask",.local),("b1",.local),("b2",.local),("q1",.local),("r",.local),("q2",.local),("_DIV_LIMIT",.globalImplicit),("divmod",.globalImplicit),("_div3n2n",.globalImplicit)],["a","b","n"],["pad","half_n","mask","b1","b2","q1","r","q2"]⟩
def c3:SL (D3.sc nm):=.cons (.ite (.cmp NT (SE.x (.bin bN (me Jy (SE.x (v 0 "a" (qz 7 7 8))) [] (qz 7 7 19) (qz 7 7 21)) (v 2 "n" (qz 7 24 25)) (qz 7 7 25))) (SE.x (gi "_DIV_LIMIT" 4000 (qz 7 29 39))) (qz 7 7 39)) (.cons (.ret (bi Q0 [(v 0 "a" (qz 8 22 23)),(v 1 "b" (qz 8 25 26))] (qz 8 15 21) (qz 8 15 27)) (qz 8 8 27))
 .nil) .nil ⟨7,4,8,27⟩) (.cut ((Jz P 3).drop 1))
noncomputable abbrev D4:dY:=⟨[("a",.local),("n",.cell),("a_digits",.cell),("inner",.cell),("len",.globalImplicit)],["a","n"],["a_digits","inner"]⟩
noncomputable abbrev I4:Scope:=⟨.function,[("x",.local),("L",.local),("R",.local),("mid",.local),("shift",.local),("upper",.local),("lower",.local),("a_digits",.free),("inner",.free),("n",.free)],false,false,[]⟩
def c4:jA (D4.sc nm) ["x","L","R"] ["mid","shift","upper","lower"]:=dS (so ⟨2,"a_digits",(qz 33 4 12)⟩ (.rep (.lst [(.int 0 0 (qz 33 16 17))] (qz 33 15 18)) (.bin ju (.bin bN (.bin aX (me Jy (SE.x (v 0 "a" (qz 33 23 24))) [] (qz 33 23 35) (qz 33 23 37)) (v 1 "n" (qz 33 40 41)) (qz 33 23 41)) (.int 1 0 (qz 33 44 45)) (qz 33 23 45)) (v 1 "n" (qz 33 50 51)) (qz 33 22 51)) (qz 33 15 52)) (qz 33 4 52)) I4
 (UH (.cmp mh (SE.x (.bin aX (v 1 "L" (qz 36 11 12)) (.int 1 0 (qz 36 15 16)) (qz 36 11 16))) (SE.x (v 2 "R" (qz 36 20 21))) (qz 36 11 21)) (si 9 "a_digits" (qz 37 12 20) (qz 37 12 23) (v 1 "L" (qz 37 21 22)) (v 0 "x" (qz 37 26 27)) (qz 37 12 27)) (qz 38 12 18) ⟨36,8,38,18⟩ (.cons (st ⟨3,"mid",(qz 39 8 11)⟩ (.bin DH (.bin aX (v 1 "L" (qz 39 14 15)) (v 2 "R" (qz 39 18 19)) (qz 39 14 19)) (.int 1 0 (qz 39 23 24)) (qz 39 14 24)) (qz 39 8 24))
 (.cons (st ⟨4,"shift",(qz 40 8 13)⟩ (.bin dD (.bin bN (v 3 "mid" (qz 40 17 20)) (v 1 "L" (qz 40 23 24)) (qz 40 17 24)) (v 8 "n" (qz 40 28 29)) (qz 40 16 29)) (qz 40 8 29))
 (.cons (st ⟨5,"upper",(qz 41 8 13)⟩ (.bin DH (v 0 "x" (qz 41 16 17)) (v 4 "shift" (qz 41 21 26)) (qz 41 16 26)) (qz 41 8 26))
 (.cons (st ⟨6,"lower",(qz 42 8 13)⟩ (.bin P1 (v 0 "x" (qz 42 16 17)) (.bin ym (v 5 "upper" (qz 42 20 25)) (v 4 "shift" (qz 42 29 34)) (qz 42 20 34)) (qz 42 16 34)) (qz 42 8 34))
 .nil)))) [(v 6 "lower" (qz 43 14 19)),(v 1 "L" (qz 43 21 22)),(v 3 "mid" (qz 43 24 27))] [(v 5 "upper" (qz 44 14 19)),(v 3 "mid" (qz 44 21 24)),(v 2 "R" (qz 44 26 27))] 10 10 "inner" "inner" (qz 43 8 13) (qz 43 8 28) (qz 43 8 28) (qz 44 8 13) (qz 44 8 28) (qz 44 8 28))
 ⟨3,"inner",⟨35,4,44,28⟩⟩ ⟨[],[⟨"x",none,(qz 35 14 15)⟩,⟨"L",none,(qz 35 17 18)⟩,⟨"R",none,(qz 35 20 21)⟩],none,[],[],none,[]⟩ ⟨35,4,44,28⟩ (uJ (SE.x (v 0 "a" (qz 45 7 8)))) 3 "inner" [(v 0 "a" (qz 46 14 15)),(.int 0 0 (qz 46 17 18)),(H6 jX (SW.x (ow 2 "a_digits" (qz 46 24 32))) (qz 46 20 23) (qz 46 20 33) iX)] (qz 46 8 13) (qz 46 8 34) (qz 46 8 34) ⟨45,4,46,34⟩ (.freeze 2 (.cons (.ret (v 2 "a_digits" (qz 47 11 19)) (qz 47 4 19))
 .nil))
noncomputable abbrev D5:dY:=⟨[("digits",.cell),("n",.cell),("inner",.cell),("len",.globalImplicit)],["digits","n"],["inner"]⟩
noncomputable abbrev I5:Scope:=⟨.function,[("L",.local),("R",.local),("mid",.local),("shift",.local),("digits",.free),("inner",.free),("n",.free)],false,false,[]⟩
def c5:jq (D5.sc nm) ["L","R"] ["mid","shift"]:=dE I5
 (UG (.cmp mh (SE.x (.bin aX (v 0 "L" (qz 51 11 12)) (.int 1 0 (qz 51 15 16)) (qz 51 11 16))) (SE.x (v 1 "R" (qz 51 20 21))) (qz 51 11 21)) (.idx (.of (v 4 "digits" (qz 52 19 25))) (v 0 "L" (qz 52 26 27)) (qz 52 19 28)) (qz 52 12 28) ⟨51,8,52,28⟩ (.cons (st ⟨2,"mid",(qz 53 8 11)⟩ (.bin DH (.bin aX (v 0 "L" (qz 53 14 15)) (v 1 "R" (qz 53 18 19)) (qz 53 14 19)) (.int 1 0 (qz 53 23 24)) (qz 53 14 24)) (qz 53 8 24))
 (.cons (st ⟨3,"shift",(qz 54 8 13)⟩ (.bin dD (.bin bN (v 2 "mid" (qz 54 17 20)) (v 0 "L" (qz 54 23 24)) (qz 54 17 24)) (v 5 "n" (qz 54 28 29)) (qz 54 16 29)) (qz 54 8 29))
 .nil)) [(v 2 "mid" (qz 55 22 25)),(v 1 "R" (qz 55 27 28))] [(v 0 "L" (qz 55 48 49)),(v 2 "mid" (qz 55 51 54))] (v 3 "shift" (qz 55 33 38)) 6 6 "inner" "inner" (qz 55 16 21) (qz 55 16 29) (qz 55 16 38) (qz 55 42 47) (qz 55 42 55) (qz 55 15 55) (qz 55 8 55))
 ⟨2,"inner",⟨50,4,55,55⟩⟩ ⟨[],[⟨"L",none,(qz 50 14 15)⟩,⟨"R",none,(qz 50 17 18)⟩],none,[],[],none,[]⟩ ⟨50,4,55,55⟩ (uJ (SE.x (v 0 "digits" (qz 56 36 42)))) (.int 0 0 (qz 56 48 49)) 2 "inner" [(.int 0 0 (qz 56 17 18)),(bi jX [(v 0 "digits" (qz 56 24 30))] (qz 56 20 23) (qz 56 20 31))] (qz 56 11 16) (qz 56 11 32) (qz 56 11 49) (qz 56 4 49)
noncomputable abbrev D6:dY:=⟨[("a",.local),("b",.local),("n",.local),("a_digits",.local),("r",.local),("q_digits",.local),("a_digit",.local),("q_digit",.local),("q",.local),("_int2digits",.globalImplicit),("reversed",.globalImplicit),("_div2n1n",.globalImplicit),("_digits2int",.globalImplicit)],["a","b"],["n","a_digits","r","q_digits","a_digit","q_digit","q"]⟩
def c6:SL (D6.sc nm):=
 (.cons (st ⟨2,"n",(qz 58 4 5)⟩ (me Jy (SE.x (v 1 "b" (qz 58 8 9))) [] (qz 58 8 20) (qz 58 8 22)) (qz 58 4 22))
 (.cons (st ⟨3,"a_digits",(qz 59 4 12)⟩ (call 4 "_int2digits" [(v 0 "a" (qz 59 27 28)),(v 2 "n" (qz 59 30 31))] (qz 59 15 26) (qz 59 15 32)) (qz 59 4 32))
 (.cons (st ⟨4,"r",(qz 60 4 5)⟩ (.int 0 0 (qz 60 8 9)) (qz 60 4 9))
 (.cons (so ⟨5,"q_digits",(qz 61 4 12)⟩ (.lst [] (qz 61 15 17)) (qz 61 4 17))
 (.cons (fr (rV ⟨6,"a_digit",(qz 62 8 15)⟩) (V6 (v 3 "a_digits" (qz 62 28 36)) (qz 62 19 27) (qz 62 19 37)) (.cons (mv true [⟨7,"q_digit",(qz 63 8 15)⟩,⟨4,"r",(qz 63 17 18)⟩] 0 (qz 63 8 18) (call 3 "_div2n1n" [(.bin aX (.bin ym (v 4 "r" (qz 63 31 32)) (v 2 "n" (qz 63 36 37)) (qz 63 31 37)) (v 6 "a_digit" (qz 63 41 48)) (qz 63 30 48)),(v 1 "b" (qz 63 50 51)),(v 2 "n" (qz 63 53 54))] (qz 63 21 29) (qz 63 21 55)) (qz 63 8 55))
 (.cons (ap 5 "q_digits" (qz 64 8 16) (qz 64 8 23) (qz 64 8 32) (qz 64 8 32) (v 7 "q_digit" (qz 64 24 31)))
 .nil)) ⟨62,4,64,32⟩)
 (.cons (rv 5 "q_digits" (qz 65 4 12) (qz 65 4 20) (qz 65 4 22) (qz 65 4 22))
 (.freeze 5 (.cons (st ⟨8,"q",(qz 66 4 5)⟩ (call 5 "_digits2int" [(v 5 "q_digits" (qz 66 20 28)),(v 2 "n" (qz 66 30 31))] (qz 66 8 19) (qz 66 8 32)) (qz 66 4 32))
 (.cons (.ret (.tup [(v 8 "q" (qz 67 12 13)),(v 4 "r" (qz 67 15 16))] 0 (qz 67 11 17)) (qz 67 4 17))
 .nil)))))))))
noncomputable abbrev D7:dY:=⟨[("a",.local),("b",.local),("q",.local),("r",.local),("ZeroDivisionError",.globalImplicit),("int_divmod",.globalImplicit),("_divmod_pos",.globalImplicit)],["a","b"],["q","r"]⟩
def c7:SL (D7.sc nm):=
 (.cons (.ite (.cmp mh (SE.x (v 1 "b" (qz 69 7 8))) (SE.x (.int 0 0 (qz 69 12 13))) (qz 69 7 13)) (.cut [.Raise (some (.Name "ZeroDivisionError" (qz 70 14 31))) none (qz 70 8 31)]) (.cons (.ite (.cmp zN (SE.x (v 1 "b" (qz 71 9 10))) (SE.x (.int 0 0 (qz 71 13 14))) (qz 71 9 14)) (.cons (mv true [⟨2,"q",(qz 72 8 9)⟩,⟨3,"r",(qz 72 11 12)⟩] 0 (qz 72 8 12) (call 7 "int_divmod" [(.oJ gB (v 0 "a" (qz 72 27 28)) (qz 72 26 28)),(.oJ gB (v 1 "b" (qz 72 31 32)) (qz 72 30 32))] (qz 72 15 25) (qz 72 15 33)) (qz 72 8 33))
 (.cons (.ret (.tup [(v 2 "q" (qz 73 16 17)),(.oJ gB (v 3 "r" (qz 73 20 21)) (qz 73 19 21))] 0 (qz 73 15 22)) (qz 73 8 22))
 .nil)) (.cons (.ite (.cmp zN (SE.x (v 0 "a" (qz 74 9 10))) (SE.x (.int 0 0 (qz 74 13 14))) (qz 74 9 14)) (.cons (mv true [⟨2,"q",(qz 75 8 9)⟩,⟨3,"r",(qz 75 11 12)⟩] 0 (qz 75 8 12) (call 7 "int_divmod" [(.oJ Kf (v 0 "a" (qz 75 27 28)) (qz 75 26 28)),(v 1 "b" (qz 75 30 31))] (qz 75 15 25) (qz 75 15 32)) (qz 75 8 32))
 (.cons (.ret (.tup [(.oJ Kf (v 2 "q" (qz 76 17 18)) (qz 76 16 18)),(.bin aX (v 1 "b" (qz 76 20 21)) (.oJ Kf (v 3 "r" (qz 76 25 26)) (qz 76 24 26)) (qz 76 20 26))] 0 (qz 76 15 27)) (qz 76 8 27))
 .nil)) (.cons (.ret (call 6 "_divmod_pos" [(v 0 "a" (qz 78 27 28)),(v 1 "b" (qz 78 30 31))] (qz 78 15 26) (qz 78 15 32)) (qz 78 8 32))
 .nil) ⟨74,4,78,32⟩)
 .nil) ⟨71,4,78,32⟩)
 .nil) ⟨69,4,78,32⟩)
 .nil)
noncomputable abbrev D8:dY:=⟨[("r",.local),("g",.local),("b",.local),("maxc",.local),("minc",.local),("sumc",.local),("rangec",.local),("l",.local),("s",.local),("rc",.local),("gc",.local),("bc",.local),("h",.local),("max",.globalImplicit),("min",.globalImplicit)],["r","g","b"],["maxc","minc","sumc","rangec","l","s","rc","gc","bc","h"]⟩
def c8:SL (D8.sc nm):=
 (.cons (st ⟨3,"maxc",(qz 84 4 8)⟩ (bi C0 [(v 0 "r" (qz 84 15 16)),(v 1 "g" (qz 84 18 19)),(v 2 "b" (qz 84 21 22))] (qz 84 11 14) (qz 84 11 23)) (qz 84 4 23))
 (.cons (st ⟨4,"minc",(qz 85 4 8)⟩ (bi C5 [(v 0 "r" (qz 85 15 16)),(v 1 "g" (qz 85 18 19)),(v 2 "b" (qz 85 21 22))] (qz 85 11 14) (qz 85 11 23)) (qz 85 4 23))
 (.cons (st ⟨5,"sumc",(qz 86 4 8)⟩ (.bin je (v 3 "maxc" (qz 86 11 15)) (v 4 "minc" (qz 86 18 22)) (qz 86 11 22)) (qz 86 4 22))
 (.cons (st ⟨6,"rangec",(qz 87 4 10)⟩ (.bin bQ (v 3 "maxc" (qz 87 13 17)) (v 4 "minc" (qz 87 20 24)) (qz 87 13 24)) (qz 87 4 24))
 (.cons (st ⟨7,"l",(qz 88 4 5)⟩ (.M8 (v 5 "sumc" (qz 88 8 12)) 0x4000000000000000 0 (qz 88 15 18) (qz 88 8 18)) (qz 88 4 18))
 (.cons (.ite (.cmp vK (SE.x (v 4 "minc" (qz 89 7 11))) (SE.x (v 3 "maxc" (qz 89 15 19))) (qz 89 7 19)) (.cons (.ret (.tup [(.ak 0x0000000000000000 0 (qz 90 16 19)),(v 7 "l" (qz 90 21 22)),(.ak 0x0000000000000000 0 (qz 90 24 27))] 0 (qz 90 15 28)) (qz 90 8 28))
 .nil) .nil ⟨89,4,90,28⟩)
 (.cons (.ite (.cmp Ks (SE.x (v 7 "l" (qz 91 7 8))) (SE.x (.ak 0x3fe0000000000000 0 (qz 91 12 15))) (qz 91 7 15)) (.cons (st ⟨8,"s",(qz 92 8 9)⟩ (.bin g6 (v 6 "rangec" (qz 92 12 18)) (v 5 "sumc" (qz 92 21 25)) (qz 92 12 25)) (qz 92 8 25))
 .nil) (.cons (st ⟨8,"s",(qz 94 8 9)⟩ (.bin g6 (v 6 "rangec" (qz 94 12 18)) (.bin bQ (.bin bQ (.ak 0x4000000000000000 0 (qz 94 22 25)) (v 3 "maxc" (qz 94 28 32)) (qz 94 22 32)) (v 4 "minc" (qz 94 35 39)) (qz 94 22 39)) (qz 94 12 40)) (qz 94 8 40))
 .nil) ⟨91,4,94,40⟩)
 (.cons (st ⟨9,"rc",(qz 95 4 6)⟩ (.bin g6 (.bin bQ (v 3 "maxc" (qz 95 10 14)) (v 0 "r" (qz 95 17 18)) (qz 95 10 18)) (v 6 "rangec" (qz 95 22 28)) (qz 95 9 28)) (qz 95 4 28))
 (.cons (st ⟨10,"gc",(qz 96 4 6)⟩ (.bin g6 (.bin bQ (v 3 "maxc" (qz 96 10 14)) (v 1 "g" (qz 96 17 18)) (qz 96 10 18)) (v 6 "rangec" (qz 96 22 28)) (qz 96 9 28)) (qz 96 4 28))
 (.cons (st ⟨11,"bc",(qz 97 4 6)⟩ (.bin g6 (.bin bQ (v 3 "maxc" (qz 97 10 14)) (v 2 "b" (qz 97 17 18)) (qz 97 10 18)) (v 6 "rangec" (qz 97 22 28)) (qz 97 9 28)) (qz 97 4 28))
 (.cons (.ite (.cmp vK (SE.x (v 0 "r" (qz 98 7 8))) (SE.x (v 3 "maxc" (qz 98 12 16))) (qz 98 7 16)) (.cons (st ⟨12,"h",(qz 99 8 9)⟩ (.bin bQ (v 11 "bc" (qz 99 12 14)) (v 10 "gc" (qz 99 17 19)) (qz 99 12 19)) (qz 99 8 19))
 .nil) (.cons (.ite (.cmp vK (SE.x (v 1 "g" (qz 100 9 10))) (SE.x (v 3 "maxc" (qz 100 14 18))) (qz 100 9 18)) (.cons (st ⟨12,"h",(qz 101 8 9)⟩ (.bin bQ (.bin je (.ak 0x4000000000000000 0 (qz 101 12 15)) (v 9 "rc" (qz 101 18 20)) (qz 101 12 20)) (v 11 "bc" (qz 101 23 25)) (qz 101 12 25)) (qz 101 8 25))
 .nil) (.cons (st ⟨12,"h",(qz 103 8 9)⟩ (.bin bQ (.bin je (.ak 0x4010000000000000 0 (qz 103 12 15)) (v 10 "gc" (qz 103 18 20)) (qz 103 12 20)) (v 9 "rc" (qz 103 23 25)) (qz 103 12 25)) (qz 103 8 25))
 .nil) ⟨100,4,103,25⟩)
 .nil) ⟨98,4,103,25⟩)
 (.cons (st ⟨12,"h",(qz 104 4 5)⟩ (.bin C6 (.bin g6 (v 12 "h" (qz 104 8 9)) (.ak 0x4018000000000000 0 (qz 104 12 15)) (qz 104 8 15)) (.ak 0x3ff0000000000000 0 (qz 104 18 21)) (qz 104 8 21)) (qz 104 4 21))
 (.cons (.ret (.tup [(v 12 "h" (qz 105 12 13)),(v 7 "l" (qz 105 15 16)),(v 8 "s" (qz 105 18 19))] 0 (qz 105 11 20)) (qz 105 4 20))
 .nil)))))))))))))
noncomputable abbrev D9:dY:=⟨[("h",.local),("l",.local),("s",.local),("m2",.local),("m1",.local),("_v",.globalImplicit),("ONE_THIRD",.globalImplicit)],["h","l","s"],["m2","m1"]⟩
def c9:SL (D9.sc nm):=
 (.cons (.ite (.cmp Nc (SE.x (v 2 "s" (qz 107 7 8))) (SE.x (.ak 0x0000000000000000 0 (qz 107 12 15))) (qz 107 7 15)) (.cons (.ret (.tup [(v 1 "l" (qz 108 16 17)),(v 1 "l" (qz 108 19 20)),(v 1 "l" (qz 108 22 23))] 0 (qz 108 15 24)) (qz 108 8 24))
 .nil) .nil ⟨107,4,108,24⟩)
 (.cons (.ite (.cmp Ks (SE.x (v 1 "l" (qz 109 7 8))) (SE.x (.ak 0x3fe0000000000000 0 (qz 109 12 15))) (qz 109 7 15)) (.cons (st ⟨3,"m2",(qz 110 8 10)⟩ (.bin fQ (v 1 "l" (qz 110 13 14)) (.bin je (.ak 0x3ff0000000000000 0 (qz 110 18 21)) (v 2 "s" (qz 110 24 25)) (qz 110 18 25)) (qz 110 13 26)) (qz 110 8 26))
 .nil) (.cons (st ⟨3,"m2",(qz 112 8 10)⟩ (.bin bQ (.bin je (v 1 "l" (qz 112 13 14)) (v 2 "s" (qz 112 17 18)) (qz 112 13 18)) (.bin fQ (v 1 "l" (qz 112 21 22)) (v 2 "s" (qz 112 25 26)) (qz 112 21 26)) (qz 112 13 26)) (qz 112 8 26))
 .nil) ⟨109,4,112,26⟩)
 (.cons (st ⟨4,"m1",(qz 113 4 6)⟩ (.bin bQ (.bin fQ (.ak 0x4000000000000000 0 (qz 113 9 12)) (v 1 "l" (qz 113 15 16)) (qz 113 9 16)) (v 3 "m2" (qz 113 19 21)) (qz 113 9 21)) (qz 113 4 21))
 (.cons (.ret (.tup [(call 10 "_v" [(v 4 "m1" (qz 114 15 17)),(v 3 "m2" (qz 114 19 21)),(.bin je (v 0 "h" (qz 114 23 24)) (gf "ONE_THIRD" 4599676419421066581 (qz 114 27 36)) (qz 114 23 36))] (qz 114 12 14) (qz 114 12 37)),(call 10 "_v" [(v 4 "m1" (qz 114 42 44)),(v 3 "m2" (qz 114 46 48)),(v 0 "h" (qz 114 50 51))] (qz 114 39 41) (qz 114 39 52)),(call 10 "_v" [(v 4 "m1" (qz 114 57 59)),(v 3 "m2" (qz 114 61 63)),(.bin bQ (v 0 "h" (qz 114 65 66)) (gf "ONE_THIRD" 4599676419421066581 (qz 114 69 78)) (qz 114 65 78))] (qz 114 54 56) (qz 114 54 79))] 0 (qz 114 11 80)) (qz 114 4 80))
 .nil))))
noncomputable abbrev LY:dY:=⟨[("m1",.local),("m2",.local),("hue",.local),("ONE_SIXTH",.globalImplicit),("TWO_THIRD",.globalImplicit)],["m1","m2","hue"],[]⟩
def JA:SL (LY.sc nm):=
 (.cons (st ⟨2,"hue",(qz 116 4 7)⟩ (.bin C6 (v 2 "hue" (qz 116 10 13)) (.ak 0x3ff0000000000000 0 (qz 116 16 19)) (qz 116 10 19)) (qz 116 4 19))
 (.cons (.ite (.cmp wj (SE.x (v 2 "hue" (qz 117 7 10))) (SE.x (gf "ONE_SIXTH" 4595172819793696085 (qz 117 13 22))) (qz 117 7 22)) (.cons (.ret (.bin je (v 0 "m1" (qz 118 15 17)) (.bin fQ (.bin fQ (.bin bQ (v 1 "m2" (qz 118 21 23)) (v 0 "m1" (qz 118 26 28)) (qz 118 21 28)) (v 2 "hue" (qz 118 32 35)) (qz 118 20 35)) (.ak 0x4018000000000000 0 (qz 118 38 41)) (qz 118 20 41)) (qz 118 15 41)) (qz 118 8 41))
 .nil) .nil ⟨117,4,118,41⟩)
 (.cons (.ite (.cmp wj (SE.x (v 2 "hue" (qz 119 7 10))) (SE.x (.ak 0x3fe0000000000000 0 (qz 119 13 16))) (qz 119 7 16)) (.cons (.ret (v 1 "m2" (qz 120 15 17)) (qz 120 8 17))
 .nil) .nil ⟨119,4,120,17⟩)
 (.cons (.ite (.cmp wj (SE.x (v 2 "hue" (qz 121 7 10))) (SE.x (gf "TWO_THIRD" 4604180019048437077 (qz 121 13 22))) (qz 121 7 22)) (.cons (.ret (.bin je (v 0 "m1" (qz 122 15 17)) (.bin fQ (.bin fQ (.bin bQ (v 1 "m2" (qz 122 21 23)) (v 0 "m1" (qz 122 26 28)) (qz 122 21 28)) (.bin bQ (gf "TWO_THIRD" 4604180019048437077 (qz 122 33 42)) (v 2 "hue" (qz 122 45 48)) (qz 122 33 48)) (qz 122 20 49)) (.ak 0x4018000000000000 0 (qz 122 52 55)) (qz 122 20 55)) (qz 122 15 55)) (qz 122 8 55))
 .nil) .nil ⟨121,4,122,55⟩)
 (.cons (.ret (v 0 "m1" (qz 123 11 13)) (qz 123 4 13))
 .nil)))))
noncomputable abbrev HU:dY:=⟨[("r",.local),("g",.local),("b",.local),("maxc",.local),("minc",.local),("rangec",.local),("v",.local),("s",.local),("rc",.local),("gc",.local),("bc",.local),("h",.local),("max",.globalImplicit),("min",.globalImplicit)],["r","g","b"],["maxc","minc","rangec","v","s","rc","gc","bc","h"]⟩
def AP:SL (HU.sc nm):=
 (.cons (st ⟨3,"maxc",(qz 125 4 8)⟩ (bi C0 [(v 0 "r" (qz 125 15 16)),(v 1 "g" (qz 125 18 19)),(v 2 "b" (qz 125 21 22))] (qz 125 11 14) (qz 125 11 23)) (qz 125 4 23))
 (.cons (st ⟨4,"minc",(qz 126 4 8)⟩ (bi C5 [(v 0 "r" (qz 126 15 16)),(v 1 "g" (qz 126 18 19)),(v 2 "b" (qz 126 21 22))] (qz 126 11 14) (qz 126 11 23)) (qz 126 4 23))
 (.cons (st ⟨5,"rangec",(qz 127 4 10)⟩ (.bin bQ (v 3 "maxc" (qz 127 13 17)) (v 4 "minc" (qz 127 20 24)) (qz 127 13 24)) (qz 127 4 24))
 (.cons (st ⟨6,"v",(qz 128 4 5)⟩ (v 3 "maxc" (qz 128 8 12)) (qz 128 4 12))
 (.cons (.ite (.cmp vK (SE.x (v 4 "minc" (qz 129 7 11))) (SE.x (v 3 "maxc" (qz 129 15 19))) (qz 129 7 19)) (.cons (.ret (.tup [(.ak 0x0000000000000000 0 (qz 130 16 19)),(.ak 0x0000000000000000 0 (qz 130 21 24)),(v 6 "v" (qz 130 26 27))] 0 (qz 130 15 28)) (qz 130 8 28))
 .nil) .nil ⟨129,4,130,28⟩)
 (.cons (st ⟨7,"s",(qz 131 4 5)⟩ (.bin g6 (v 5 "rangec" (qz 131 8 14)) (v 3 "maxc" (qz 131 17 21)) (qz 131 8 21)) (qz 131 4 21))
 (.cons (st ⟨8,"rc",(qz 132 4 6)⟩ (.bin g6 (.bin bQ (v 3 "maxc" (qz 132 10 14)) (v 0 "r" (qz 132 17 18)) (qz 132 10 18)) (v 5 "rangec" (qz 132 22 28)) (qz 132 9 28)) (qz 132 4 28))
 (.cons (st ⟨9,"gc",(qz 133 4 6)⟩ (.bin g6 (.bin bQ (v 3 "maxc" (qz 133 10 14)) (v 1 "g" (qz 133 17 18)) (qz 133 10 18)) (v 5 "rangec" (qz 133 22 28)) (qz 133 9 28)) (qz 133 4 28))
 (.cons (st ⟨10,"bc",(qz 134 4 6)⟩ (.bin g6 (.bin bQ (v 3 "maxc" (qz 134 10 14)) (v 2 "b" (qz 134 17 18)) (qz 134 10 18)) (v 5 "rangec" (qz 134 22 28)) (qz 134 9 28)) (qz 134 4 28))
 (.cons (.ite (.cmp vK (SE.x (v 0 "r" (qz 135 7 8))) (SE.x (v 3 "maxc" (qz 135 12 16))) (qz 135 7 16)) (.cons (st ⟨11,"h",(qz 136 8 9)⟩ (.bin bQ (v 10 "bc" (qz 136 12 14)) (v 9 "gc" (qz 136 17 19)) (qz 136 12 19)) (qz 136 8 19))
 .nil) (.cons (.ite (.cmp vK (SE.x (v 1 "g" (qz 137 9 10))) (SE.x (v 3 "maxc" (qz 137 14 18))) (qz 137 9 18)) (.cons (st ⟨11,"h",(qz 138 8 9)⟩ (.bin bQ (.bin je (.ak 0x4000000000000000 0 (qz 138 12 15)) (v 8 "rc" (qz 138 18 20)) (qz 138 12 20)) (v 10 "bc" (qz 138 23 25)) (qz 138 12 25)) (qz 138 8 25))
 .nil) (.cons (st ⟨11,"h",(qz 140 8 9)⟩ (.bin bQ (.bin je (.ak 0x4010000000000000 0 (qz 140 12 15)) (v 9 "gc" (qz 140 18 20)) (qz 140 12 20)) (v 8 "rc" (qz 140 23 25)) (qz 140 12 25)) (qz 140 8 25))
 .nil) ⟨137,4,140,25⟩)
 .nil) ⟨135,4,140,25⟩)
 (.cons (st ⟨11,"h",(qz 141 4 5)⟩ (.bin C6 (.bin g6 (v 11 "h" (qz 141 8 9)) (.ak 0x4018000000000000 0 (qz 141 12 15)) (qz 141 8 15)) (.ak 0x3ff0000000000000 0 (qz 141 18 21)) (qz 141 8 21)) (qz 141 4 21))
 (.cons (.ret (.tup [(v 11 "h" (qz 142 12 13)),(v 7 "s" (qz 142 15 16)),(v 6 "v" (qz 142 18 19))] 0 (qz 142 11 20)) (qz 142 4 20))
 .nil))))))))))))
noncomputable abbrev Jh:dY:=⟨[("h",.local),("s",.local),("v",.local),("i",.local),("f",.local),("p",.local),("q",.local),("t",.local),("int",.globalImplicit)],["h","s","v"],["i","f","p","q","t"]⟩
def c12:SL (Jh.sc nm):=
 (.cons (.ite (.cmp Nc (SE.x (v 1 "s" (qz 144 7 8))) (SE.x (.ak 0x0000000000000000 0 (qz 144 12 15))) (qz 144 7 15)) (.cons (.ret (.tup [(v 2 "v" (qz 145 16 17)),(v 2 "v" (qz 145 19 20)),(v 2 "v" (qz 145 22 23))] 0 (qz 145 15 24)) (qz 145 8 24))
 .nil) .nil ⟨144,4,145,24⟩)
 (.cons (st ⟨3,"i",(qz 146 4 5)⟩ (bi NJ [(.bin fQ (v 0 "h" (qz 146 12 13)) (.ak 0x4018000000000000 0 (qz 146 16 19)) (qz 146 12 19))] (qz 146 8 11) (qz 146 8 20)) (qz 146 4 20))
 (.cons (st ⟨4,"f",(qz 147 4 5)⟩ (.bin Jc (.bin fQ (v 0 "h" (qz 147 8 9)) (.ak 0x4018000000000000 0 (qz 147 12 15)) (qz 147 8 15)) (v 3 "i" (qz 147 18 19)) (qz 147 8 19)) (qz 147 4 19))
 (.cons (st ⟨5,"p",(qz 148 4 5)⟩ (.bin fQ (v 2 "v" (qz 148 8 9)) (.bin bQ (.ak 0x3ff0000000000000 0 (qz 148 13 16)) (v 1 "s" (qz 148 19 20)) (qz 148 13 20)) (qz 148 8 21)) (qz 148 4 21))
 (.cons (st ⟨6,"q",(qz 149 4 5)⟩ (.bin fQ (v 2 "v" (qz 149 8 9)) (.bin bQ (.ak 0x3ff0000000000000 0 (qz 149 13 16)) (.bin fQ (v 1 "s" (qz 149 19 20)) (v 4 "f" (qz 149 23 24)) (qz 149 19 24)) (qz 149 13 24)) (qz 149 8 25)) (qz 149 4 25))
 (.cons (st ⟨7,"t",(qz 150 4 5)⟩ (.bin fQ (v 2 "v" (qz 150 8 9)) (.bin bQ (.ak 0x3ff0000000000000 0 (qz 150 13 16)) (.bin fQ (v 1 "s" (qz 150 19 20)) (.bin bQ (.ak 0x3ff0000000000000 0 (qz 150 24 27)) (v 4 "f" (qz 150 30 31)) (qz 150 24 31)) (qz 150 19 32)) (qz 150 13 32)) (qz 150 8 33)) (qz 150 4 33))
 (.cons (st ⟨3,"i",(qz 151 4 5)⟩ (.bin j0 (v 3 "i" (qz 151 8 9)) (.int 6 0 (qz 151 12 13)) (qz 151 8 13)) (qz 151 4 13))
 (.cons (.ite (.cmp mh (SE.x (v 3 "i" (qz 152 7 8))) (SE.x (.int 0 0 (qz 152 12 13))) (qz 152 7 13)) (.cons (.ret (.tup [(v 2 "v" (qz 153 16 17)),(v 7 "t" (qz 153 19 20)),(v 5 "p" (qz 153 22 23))] 0 (qz 153 15 24)) (qz 153 8 24))
 .nil) .nil ⟨152,4,153,24⟩)
 (.cons (.ite (.cmp mh (SE.x (v 3 "i" (qz 154 7 8))) (SE.x (.int 1 0 (qz 154 12 13))) (qz 154 7 13)) (.cons (.ret (.tup [(v 6 "q" (qz 155 16 17)),(v 2 "v" (qz 155 19 20)),(v 5 "p" (qz 155 22 23))] 0 (qz 155 15 24)) (qz 155 8 24))
 .nil) .nil ⟨154,4,155,24⟩)
 (.cons (.ite (.cmp mh (SE.x (v 3 "i" (qz 156 7 8))) (SE.x (.int 2 0 (qz 156 12 13))) (qz 156 7 13)) (.cons (.ret (.tup [(v 5 "p" (qz 157 16 17)),(v 2 "v" (qz 157 19 20)),(v 7 "t" (qz 157 22 23))] 0 (qz 157 15 24)) (qz 157 8 24))
 .nil) .nil ⟨156,4,157,24⟩)
 (.cons (.ite (.cmp mh (SE.x (v 3 "i" (qz 158 7 8))) (SE.x (.int 3 0 (qz 158 12 13))) (qz 158 7 13)) (.cons (.ret (.tup [(v 5 "p" (qz 159 16 17)),(v 6 "q" (qz 159 19 20)),(v 2 "v" (qz 159 22 23))] 0 (qz 159 15 24)) (qz 159 8 24))
 .nil) .nil ⟨158,4,159,24⟩)
 (.cons (.ite (.cmp mh (SE.x (v 3 "i" (qz 160 7 8))) (SE.x (.int 4 0 (qz 160 12 13))) (qz 160 7 13)) (.cons (.ret (.tup [(v 7 "t" (qz 161 16 17)),(v 5 "p" (qz 161 19 20)),(v 2 "v" (qz 161 22 23))] 0 (qz 161 15 24)) (qz 161 8 24))
 .nil) .nil ⟨160,4,161,24⟩)
 (.cons (.ite (.cmp mh (SE.x (v 3 "i" (qz 162 7 8))) (SE.x (.int 5 0 (qz 162 12 13))) (qz 162 7 13)) (.cons (.ret (.tup [(v 2 "v" (qz 163 16 17)),(v 5 "p" (qz 163 19 20)),(v 6 "q" (qz 163 22 23))] 0 (qz 163 15 24)) (qz 163 8 24))
 .nil) .nil ⟨162,4,163,24⟩)
 .nil)))))))))))))
noncomputable abbrev Qn:dY:=⟨[("addr",.local),("pos",.local),("escape",.local),("ch",.local),("enumerate",.globalImplicit)],["addr"],["pos","escape","ch"]⟩
def Aq:GB (Qn.sc nm):=gb [(zi ⟨1,"pos",(qz 166 4 7)⟩ 0 0 (qz 166 10 11) (qz 166 4 11)),(zb ⟨2,"escape",(qz 167 4 10)⟩ false 0 (qz 167 13 18) (qz 167 4 18))] 0 "addr" (qz 168 19 28) (qz 168 29 33) (qz 168 19 34) ⟨168,4,175,27⟩ (Ac [⟨1,"pos",(qz 168 8 11)⟩,⟨3,"ch",(qz 168 13 15)⟩] 0 (qz 168 8 15))
 (.cons (.ite (uJ (SE.x (v 2 "escape" (qz 169 11 17)))) (.cons (.SY (.tup [(v 1 "pos" (qz 170 19 22)),(.bin d7 (.str "\\" 0 (qz 170 24 28)) (v 3 "ch" (qz 170 31 33)) (qz 170 24 33))] 0 (qz 170 18 34)) (qz 170 12 34) (qz 170 12 34)) (.cons (.plain (st ⟨2,"escape",(qz 171 12 18)⟩ (.bool false 0 (qz 171 21 26)) (qz 171 12 26))) .nil)) (.cons (.ite (.cmp mh (SE.x (v 3 "ch" (qz 172 13 15))) (SE.x (.str "\\" 0 (qz 172 19 23))) (qz 172 13 23)) (.cons (.plain (st ⟨2,"escape",(qz 173 12 18)⟩ (.bool true 0 (qz 173 21 25)) (qz 173 12 25))) .nil) (.cons (.SY (.tup [(v 1 "pos" (qz 175 19 22)),(v 3 "ch" (qz 175 24 26))] 0 (qz 175 18 27)) (qz 175 12 27) (qz 175 12 27)) .nil) ⟨172,8,175,27⟩) .nil) ⟨169,8,175,27⟩) .nil)
 (.cons (.ite (uJ (SE.x (v 2 "escape" (qz 176 7 13)))) (.cons (.SY (.tup [(v 1 "pos" (qz 177 15 18)),(.str "\\" 0 (qz 177 20 24))] 0 (qz 177 14 25)) (qz 177 8 25) (qz 177 8 25)) .nil) .nil ⟨176,4,177,25⟩) .nil)
noncomputable abbrev D0:dY:=⟨[("addr",.local),("start",.local),("open_pos",.local),("result",.local),("pos",.local),("ch",.local),("_iter_escaped_chars",.globalImplicit),("len",.globalImplicit)],["addr"],["start","open_pos","result","pos","ch"]⟩
def QI:SS (D0.sc nm):=(.ite (.cmp GK (SE.x (.str "\"" 0 (qz 179 7 10))) (SE.x (v 0 "addr" (qz 179 18 22))) (qz 179 7 22)) (.cons (.ret (v 0 "addr" (qz 180 15 19)) (qz 180 8 19))
 .nil) .nil ⟨179,4,180,19⟩)
def QJ:SS (D0.sc nm):=(st ⟨1,"start",(qz 181 4 9)⟩ (.int 0 0 (qz 181 12 13)) (qz 181 4 13))
def QK:SS (D0.sc nm):=(st ⟨2,"open_pos",(qz 182 4 12)⟩ (.nn 0 (qz 182 15 19)) (qz 182 4 19))
def QL:SS (D0.sc nm):=(so ⟨3,"result",(qz 183 4 10)⟩ (.lst [] (qz 183 13 15)) (qz 183 4 15))
def ze:SL (D0.sc nm):=(.cons (.ite (.cmp mh (SE.x (v 5 "ch" (qz 185 11 13))) (SE.x (.str "\"" 0 (qz 185 17 20))) (qz 185 11 20)) (.cons (.ite (.cmp TU (SE.x (v 2 "open_pos" (qz 186 15 23))) (SE.x (.nn 0 (qz 186 27 31))) (qz 186 15 31)) (.cons (st ⟨2,"open_pos",(qz 187 16 24)⟩ (v 4 "pos" (qz 187 27 30)) (qz 187 16 30))
 .nil) (.cons (.ite (.cmp ry (SE.x (v 1 "start" (qz 189 19 24))) (SE.x (v 2 "open_pos" (qz 189 28 36))) (qz 189 19 36)) (.cons (ap 3 "result" (qz 190 20 26) (qz 190 20 33) (qz 190 20 55) (qz 190 20 55) (.Ov (v 0 "addr" (qz 190 34 38)) (some (v 1 "start" (qz 190 39 44))) (some (v 2 "open_pos" (qz 190 45 53))) (qz 190 39 53) (qz 190 34 54)))
 .nil) .nil ⟨189,16,190,55⟩)
 (.cons (st ⟨1,"start",(qz 191 16 21)⟩ (.bin aX (v 4 "pos" (qz 191 24 27)) (.int 1 0 (qz 191 30 31)) (qz 191 24 31)) (qz 191 16 31))
 (.cons (st ⟨2,"open_pos",(qz 192 16 24)⟩ (.nn 0 (qz 192 27 31)) (qz 192 16 31))
 .nil))) ⟨186,12,192,31⟩)
 .nil) .nil ⟨185,8,192,31⟩)
 .nil)
def QM:SS (D0.sc nm):=(fr (Ac [⟨4,"pos",(qz 184 8 11)⟩,⟨5,"ch",(qz 184 13 15)⟩] 0 (qz 184 8 15)) (gen 0 "_iter_escaped_chars" [(v 0 "addr" (qz 184 39 43))] (qz 184 19 38) (qz 184 19 44)) ze ⟨184,4,192,31⟩)
def QN:SS (D0.sc nm):=(.ite (.cmp zN (SE.x (v 1 "start" (qz 193 7 12))) (SE.x (bi jX [(v 0 "addr" (qz 193 19 23))] (qz 193 15 18) (qz 193 15 24))) (qz 193 7 24)) (.cons (ap 3 "result" (qz 194 8 14) (qz 194 8 21) (qz 194 8 35) (qz 194 8 35) (.Ov (v 0 "addr" (qz 194 22 26)) (some (v 1 "start" (qz 194 27 32))) none (qz 194 27 33) (qz 194 22 34)))
 .nil) .nil ⟨193,4,194,35⟩)
def QO:SS (D0.sc nm):=(.ret (me joinM (SE.x (.str "" 0 (qz 195 11 13))) [(SW.x (ow 3 "result" (qz 195 19 25)))] (qz 195 11 18) (qz 195 11 26)) (qz 195 4 26))
def c0:SL (D0.sc nm):=
 (.cons QI
 (.cons QJ
 (.cons QK
 (.cons QL
 (.cons QM
 (.cons QN
 (.cons QO
 .nil)))))))
noncomputable abbrev D1:dY:=⟨[("addr",.local),("opens",.local),("pos",.local),("ch",.local),("_strip_quoted_realnames",.globalImplicit),("_iter_escaped_chars",.globalImplicit)],["addr"],["opens","pos","ch"]⟩
def QT:SS (D1.sc nm):=(st ⟨0,"addr",(qz 197 4 8)⟩ (call 0 "_strip_quoted_realnames" [(v 0 "addr" (qz 197 35 39))] (qz 197 11 34) (qz 197 11 40)) (qz 197 4 40))
def QU:SS (D1.sc nm):=(st ⟨1,"opens",(qz 198 4 9)⟩ (.int 0 0 (qz 198 12 13)) (qz 198 4 13))
def zf:SL (D1.sc nm):=(.cons (.ite (.cmp mh (SE.x (v 3 "ch" (qz 200 11 13))) (SE.x (.str "(" 0 (qz 200 17 20))) (qz 200 11 20)) (.cons (au jU ⟨1,"opens",(qz 201 12 17)⟩ (.int 1 0 (qz 201 21 22)) (qz 201 12 22))
 .nil) (.cons (.ite (.cmp mh (SE.x (v 3 "ch" (qz 202 13 15))) (SE.x (.str ")" 0 (qz 202 19 22))) (qz 202 13 22)) (.cons (au NL ⟨1,"opens",(qz 203 12 17)⟩ (.int 1 0 (qz 203 21 22)) (qz 203 12 22))
 (.cons (.ite (.cmp zN (SE.x (v 1 "opens" (qz 204 15 20))) (SE.x (.int 0 0 (qz 204 23 24))) (qz 204 15 24)) (.cons (.ret (.bool false 0 (qz 205 23 28)) (qz 205 16 28))
 .nil) .nil ⟨204,12,205,28⟩)
 .nil)) .nil ⟨202,8,205,28⟩)
 .nil) ⟨200,8,205,28⟩)
 .nil)
def QV:SS (D1.sc nm):=(fr (Ac [⟨2,"pos",(qz 199 8 11)⟩,⟨3,"ch",(qz 199 13 15)⟩] 0 (qz 199 8 15)) (gen 0 "_iter_escaped_chars" [(v 0 "addr" (qz 199 39 43))] (qz 199 19 38) (qz 199 19 44)) zf ⟨199,4,205,28⟩)
def QW:SS (D1.sc nm):=(.ret (.cmp mh (SE.x (v 1 "opens" (qz 206 11 16))) (SE.x (.int 0 0 (qz 206 20 21))) (qz 206 11 21)) (qz 206 4 21))
def c1:SL (D1.sc nm):=
 (.cons QT
 (.cons QU
 (.cons QV
 (.cons QW
 .nil))))
noncomputable abbrev D2:dY:=⟨[("email_header_fields",.local),("accepted_values",.local),("v",.local),("_check_parenthesis",.globalImplicit)],["email_header_fields"],["accepted_values","v"]⟩
def QX:SS (D2.sc nm):=(so ⟨1,"accepted_values",(qz 208 4 19)⟩ (.lst [] (qz 208 22 24)) (qz 208 4 24))
def M0:SL (D2.sc nm):=(.cons (.ite (.neg (uJ (SE.x (call 1 "_check_parenthesis" [(v 2 "v" (qz 210 34 35))] (qz 210 15 33) (qz 210 15 36)))) (qz 210 11 36)) (.cons (st ⟨2,"v",(qz 211 12 13)⟩ (.str "('', '')" 0 (qz 211 16 26)) (qz 211 12 26))
 .nil) .nil ⟨210,8,211,26⟩)
 (.cons (ap 1 "accepted_values" (qz 212 8 23) (qz 212 8 30) (qz 212 8 33) (qz 212 8 33) (v 2 "v" (qz 212 31 32)))
 .nil))
def M1:SS (D2.sc nm):=(fr (rV ⟨2,"v",(qz 209 8 9)⟩) (.lst (v 0 "email_header_fields" (qz 209 13 32))) M0 ⟨209,4,212,33⟩)
def QY:SS (D2.sc nm):=(.ret (v 1 "accepted_values" (qz 213 11 26)) (qz 213 4 26))
def c2:SL (D2.sc nm):=
 (.cons QX
 (.cons M1
 (.freeze 1 (.cons QY
 .nil))))
noncomputable abbrev Me:dY:=⟨[("self",.local),("ws",.local),("S",.local),("T",.local),("count",.local),("b",.local),("n",.local),("nt",.local),("ch",.local),("Whitespace",.globalImplicit),("len",.globalImplicit),("tuple",.globalImplicit)],["self","ws"],["S","T","count","b","n","nt","ch"]⟩
def oK:Ao (Me.sc nm):=ws (asg (v 1 "ws" (qz 219 19 21)) "raw" "self" (qz 219 8 12) (qz 219 8 16) (qz 219 8 21))
 (tr [⟨2,"S",(qz 220 8 9)⟩,⟨3,"T",(qz 220 11 12)⟩] 0 0 (qz 220 8 12) (qz 220 15 43) [(cat 13 "Whitespace" "S" " " (qz 220 16 26) (qz 220 16 28)),(cat 13 "Whitespace" "T" "\t" (qz 220 30 40) (qz 220 30 42))] (qz 220 8 43))
 (so ⟨4,"count",(qz 221 8 13)⟩ (.lst [] (qz 221 16 18)) (qz 221 8 18))
 (sa ⟨5,"b",(qz 222 8 9)⟩ ⟨6,"n",(qz 222 12 13)⟩ [⟨7,"nt",(qz 222 16 18)⟩] (.int 0 0 (qz 222 21 22)) (qz 222 8 22))
 (rV ⟨8,"ch",(qz 223 12 14)⟩) "self" (qz 223 18 22) (qz 223 18 26)
 (.cons (.ite (.cmp mh (SE.x (v 8 "ch" (qz 224 15 17))) (SE.x (v 2 "S" (qz 224 21 22))) (qz 224 15 22)) (.cons (st ⟨6,"n",(qz 225 16 17)⟩ (.bin aX (v 6 "n" (qz 225 20 21)) (.int 1 0 (qz 225 24 25)) (qz 225 20 25)) (qz 225 16 25))
 (.cons (st ⟨5,"b",(qz 226 16 17)⟩ (.bin aX (v 5 "b" (qz 226 20 21)) (.int 1 0 (qz 226 24 25)) (qz 226 20 25)) (qz 226 16 25))
 .nil)) (.cons (.ite (.cmp mh (SE.x (v 8 "ch" (qz 227 17 19))) (SE.x (v 3 "T" (qz 227 23 24))) (qz 227 17 24)) (.cons (st ⟨6,"n",(qz 228 16 17)⟩ (.bin aX (v 6 "n" (qz 228 20 21)) (.int 1 0 (qz 228 24 25)) (qz 228 20 25)) (qz 228 16 25))
 (.cons (st ⟨7,"nt",(qz 229 16 18)⟩ (.bin aX (v 7 "nt" (qz 229 21 23)) (.int 1 0 (qz 229 26 27)) (qz 229 21 27)) (qz 229 16 27))
 (.cons (.ite (.cmp JZ (SE.x (v 5 "b" (qz 230 19 20))) (SE.x (H6 jX (SW.x (ow 4 "count" (qz 230 28 33))) (qz 230 24 27) (qz 230 24 34) iX)) (qz 230 19 34)) (.cons (so ⟨4,"count",(qz 231 20 25)⟩ (.add (ow 4 "count" (qz 231 28 33)) (.bin C8 (.lst [(.int 0 0 (qz 231 37 38))] (qz 231 36 39)) (.bin aX (.bin bN (v 5 "b" (qz 231 43 44)) (H6 jX (SW.x (ow 4 "count" (qz 231 51 56))) (qz 231 47 50) (qz 231 47 57) iX) (qz 231 43 57)) (.int 1 0 (qz 231 60 61)) (qz 231 43 61)) (qz 231 36 62)) (qz 231 28 62)) (qz 231 20 62))
 .nil) .nil ⟨230,16,231,62⟩)
 (.cons (si 4 "count" (qz 232 16 21) (qz 232 16 24) (v 5 "b" (qz 232 22 23)) (.bin aX (.idx (ow 4 "count" (qz 232 27 32)) (v 5 "b" (qz 232 33 34)) (qz 232 27 35)) (.int 1 0 (qz 232 38 39)) (qz 232 27 39)) (qz 232 16 39))
 (.cons (st ⟨5,"b",(qz 233 16 17)⟩ (.int 0 0 (qz 233 20 21)) (qz 233 16 21))
 .nil))))) (.cons (.brk (qz 235 16 21))
 .nil) ⟨227,12,235,21⟩)
 .nil) ⟨224,12,235,21⟩)
 .nil)
 ⟨223,8,235,21⟩
 (asg (v 6 "n" (qz 236 17 18)) "n" "self" (qz 236 8 12) (qz 236 8 14) (qz 236 8 18))
 (asg (v 7 "nt" (qz 237 18 20)) "nt" "self" (qz 237 8 12) (qz 237 8 15) (qz 237 8 20))
 (asg (.tup [(Hz (ow 4 "count" (qz 238 27 32)) (qz 238 21 26) (qz 238 21 33)),(v 5 "b" (qz 238 35 36))] 0 (qz 238 20 37)) "norm" "self" (qz 238 8 12) (qz 238 8 17) (qz 238 8 37))
 (asg (.cmp NT (SE.x (H6 jX (SW.x (ow 4 "count" (qz 239 29 34))) (qz 239 25 28) (qz 239 25 35) iX)) (SE.x (.int 1 0 (qz 239 39 40))) (qz 239 25 40)) "is_simple" "self" (qz 239 8 12) (qz 239 8 22) (qz 239 8 40))
noncomputable abbrev Qo:dY:=⟨[("self",.local),("tabsize",.local),("count",.local),("trailing",.local),("il",.local),("i",.local),("range",.globalImplicit),("len",.globalImplicit)],["self","tabsize"],["count","trailing","il","i"]⟩
def Tj:SL (Qo.sc nm):=
 (.cons (mv true [⟨2,"count",(qz 245 8 13)⟩,⟨3,"trailing",(qz 245 15 23)⟩] 0 (qz 245 8 23) (attr 3 "norm" (v 0 "self" (qz 245 26 30)) (qz 245 26 35)) (qz 245 8 35))
 (.cons (st ⟨4,"il",(qz 246 8 10)⟩ (.int 0 0 (qz 246 13 14)) (qz 246 8 14))
 (.cons (fr (rV ⟨5,"i",(qz 247 12 13)⟩) (V3 (v 1 "tabsize" (qz 247 23 30)) (bi jX [(v 2 "count" (qz 247 36 41))] (qz 247 32 35) (qz 247 32 42)) (qz 247 17 22) (qz 247 17 43)) (.cons (st ⟨4,"il",(qz 248 12 14)⟩ (.bin aX (v 4 "il" (qz 248 17 19)) (.bin dD (.bin ju (v 5 "i" (qz 248 22 23)) (v 1 "tabsize" (qz 248 27 34)) (qz 248 22 34)) (.cJ (v 2 "count" (qz 248 37 42)) (v 5 "i" (qz 248 43 44)) (qz 248 37 45)) (qz 248 22 45)) (qz 248 17 45)) (qz 248 12 45))
 .nil) ⟨247,8,248,45⟩)
 (.cons (.ret (.bin aX (v 3 "trailing" (qz 249 15 23)) (.bin dD (v 1 "tabsize" (qz 249 26 33)) (.bin aX (v 4 "il" (qz 249 37 39)) (attr 2 "nt" (v 0 "self" (qz 249 42 46)) (qz 249 42 49)) (qz 249 37 49)) (qz 249 26 50)) (qz 249 15 50)) (qz 249 8 50))
 .nil))))
noncomputable abbrev Ay:dY:=⟨[("number",.local),("bases",.local),("told",.local),("base",.local)],["number","bases"],["told","base"]⟩
def ME:SS (Ay.sc nm):=(so ⟨2,"told",(qz 264 4 8)⟩ (.lst [] (qz 264 11 13)) (qz 264 4 13))
def H7:SL (Ay.sc nm):=(.cons (ap 2 "told" (qz 266 8 12) (qz 266 8 19) (qz 266 8 34) (qz 266 8 34) (.bin j0 (v 0 "number" (qz 266 20 26)) (v 3 "base" (qz 266 29 33)) (qz 266 20 33)))
 (.cons (st ⟨0,"number",(qz 267 8 14)⟩ (.bin ju (v 0 "number" (qz 267 17 23)) (v 3 "base" (qz 267 27 31)) (qz 267 17 31)) (qz 267 8 31))
 .nil))
def MF:SS (Ay.sc nm):=(fr (rV ⟨3,"base",(qz 265 8 12)⟩) (.lst (v 1 "bases" (qz 265 16 21))) H7 ⟨265,4,267,31⟩)
def MG:SS (Ay.sc nm):=(.ret (v 2 "told" (qz 268 11 15)) (qz 268 4 15))
def JB:SL (Ay.sc nm):=
 (.cons ME
 (.cons MF
 (.freeze 2 (.cons MG
 .nil))))
abbrev Ji:dY:=⟨[("one",.local),("other",.local)],["one","other"],[]⟩
def MH:SS (Ji.sc nm):=(.ret (.bin bN (.bin dD (.cJ (v 0 "one" (qz 270 11 14)) (.int 0 0 (qz 270 15 16)) (qz 270 11 17)) (.cJ (v 1 "other" (qz 270 20 25)) (.int 1 0 (qz 270 26 27)) (qz 270 20 28)) (qz 270 11 28)) (.bin dD (.cJ (v 0 "one" (qz 270 31 34)) (.int 1 0 (qz 270 35 36)) (qz 270 31 37)) (.cJ (v 1 "other" (qz 270 40 45)) (.int 0 0 (qz 270 46 47)) (qz 270 40 48)) (qz 270 31 48)) (qz 270 11 48)) (qz 270 4 48))
def L2:SL (Ji.sc nm):=
 (.cons MH
 .nil)
noncomputable abbrev Az:dY:=⟨[("spot",.local),("white",.cell),("low",.local),("parts",.local),("max",.globalImplicit)],["spot","white"],["low","parts"]⟩
def MJ:SS (Az.sc nm):=(st ⟨2,"low",(qz 272 4 7)⟩ (bi NX [(.int 0 0 (qz 272 14 15)),(.oJ gB (.cJ (v 0 "spot" (qz 272 18 22)) (.int 0 0 (qz 272 23 24)) (qz 272 18 25)) (qz 272 17 25)),(.oJ gB (.cJ (v 0 "spot" (qz 272 28 32)) (.int 1 0 (qz 272 33 34)) (qz 272 28 35)) (qz 272 27 35))] (qz 272 10 13) (qz 272 10 36)) (qz 272 4 36))
def MK:SS (Az.sc nm):=(st ⟨3,"parts",(qz 273 4 9)⟩ (.lst [(.bin aX (.cJ (v 0 "spot" (qz 273 13 17)) (.int 0 0 (qz 273 18 19)) (qz 273 13 20)) (v 2 "low" (qz 273 23 26)) (qz 273 13 26)),(.bin aX (.cJ (v 0 "spot" (qz 273 28 32)) (.int 1 0 (qz 273 33 34)) (qz 273 28 35)) (v 2 "low" (qz 273 38 41)) (qz 273 28 41)),(v 2 "low" (qz 273 43 46))] (qz 273 12 47)) (qz 273 4 47))
def ML:SS (Az.sc nm):=(st ⟨1,"white",(qz 274 4 9)⟩ (.bin j0 (v 1 "white" (qz 274 12 17)) (.bin bN (.int 1025 0 (qz 274 21 25)) (bi NY [(v 3 "parts" (qz 274 32 37))] (qz 274 28 31) (qz 274 28 38)) (qz 274 21 38)) (qz 274 12 39)) (qz 274 4 39))
noncomputable abbrev MO:Scope:=⟨.function,[(".0",.local),("part",.local),("white",.free)],false,false,[]⟩
def MI:Cp (Az.sc nm):=(cp MO (.lst (v 3 "parts" (qz 275 37 42))) (rV ⟨0,"part",(qz 275 29 33)⟩) .all (.bin aX (v 0 "part" (qz 275 12 16)) (v 2 "white" (qz 275 19 24)) (qz 275 12 24)) (qz 275 11 43))
def MM:SS (Az.sc nm):=(.ret (.comp MI) (qz 275 4 43))
def JC:SL (Az.sc nm):=
 (.cons MJ
 (.cons MK
 (.cons ML
 (.cons MM
 .nil))))
noncomputable abbrev xm:dY:=⟨[("before",.local),("last",.local),("told",.local),("problem",.local),("size",.local),("bridged",.local),("left",.local),("int_divmod",.globalImplicit),("ZeroDivisionError",.globalImplicit),("str",.globalImplicit),("abs",.globalImplicit),("Whitespace",.globalImplicit)],["before","last"],["told","problem","size","bridged","left"]⟩
def MQ:SS (xm.sc nm):=(te (.cons (st ⟨2,"told",(qz 278 8 12)⟩ (call 7 "int_divmod" [(.oJ gB (.cJ (v 0 "before" (qz 278 27 33)) (.int 0 0 (qz 278 34 35)) (qz 278 27 36)) (qz 278 26 36)),(.cJ (v 1 "last" (qz 278 38 42)) (.int 0 0 (qz 278 43 44)) (qz 278 38 45))] (qz 278 15 25) (qz 278 15 46)) (qz 278 8 46))
 .nil) (.ExceptHandler (some (.Name "ZeroDivisionError" (qz 279 11 28))) (some "problem") [.Assign [.Name "told" (qz 280 8 12)] (.Call (.Name "str" (qz 280 15 18)) [.Name "problem" (qz 280 19 26)] [] (qz 280 15 27)) (qz 280 8 27)] ⟨279,4,280,27⟩) ⟨277,4,280,27⟩)
def xx:SS (xm.sc nm):=(.ite (.cmp mh (SE.x (.cJ (v 1 "last" (qz 281 7 11)) (.int 0 0 (qz 281 12 13)) (qz 281 7 14))) (SE.x (.int 0 0 (qz 281 18 19))) (qz 281 7 19)) (.cons (.ret (.ite (.cmp mh (SE.x (v 2 "told" (qz 282 38 42))) (SE.x (.str "" 0 (qz 282 46 48))) (qz 282 38 48)) (.bin dD (.cJ (v 0 "before" (qz 282 15 21)) (.int 1 0 (qz 282 22 23)) (qz 282 15 24)) (.cJ (v 1 "last" (qz 282 27 31)) (.int 1 0 (qz 282 32 33)) (qz 282 27 34)) (qz 282 15 34)) (.nn 0 (qz 282 54 58)) (qz 282 15 58)) (qz 282 8 58))
 .nil) .nil ⟨281,4,282,58⟩)
def H8:SS (xm.sc nm):=(st ⟨4,"size",(qz 283 4 8)⟩ (bi Jq [(.cJ (v 1 "last" (qz 283 15 19)) (.int 0 0 (qz 283 20 21)) (qz 283 15 22))] (qz 283 11 14) (qz 283 11 23)) (qz 283 4 23))
def H9:SS (xm.sc nm):=(st ⟨5,"bridged",(qz 284 4 11)⟩ (.bin bN (um 0 "indent_level" (call 13 "Whitespace" [(.bin d7 (.bin iG (.str " " 0 (qz 284 25 28)) (bi Jq [(.cJ (v 0 "before" (qz 284 35 41)) (.int 0 0 (qz 284 42 43)) (qz 284 35 44))] (qz 284 31 34) (qz 284 31 45)) (qz 284 25 45)) (.str "\t" 0 (qz 284 48 52)) (qz 284 25 52))] (qz 284 14 24) (qz 284 14 53)) [(v 4 "size" (qz 284 67 71))] (qz 284 14 66) (qz 284 14 72)) (bi Jq [(.cJ (v 0 "before" (qz 284 79 85)) (.int 0 0 (qz 284 86 87)) (qz 284 79 88))] (qz 284 75 78) (qz 284 75 89)) (qz 284 14 89)) (qz 284 4 89))
def Ia:SS (xm.sc nm):=(st ⟨6,"left",(qz 285 4 8)⟩ (.ite (.cmp JZ (SE.x (.bin dD (.cJ (v 0 "before" (qz 285 29 35)) (.int 0 0 (qz 285 36 37)) (qz 285 29 38)) (.cJ (v 1 "last" (qz 285 41 45)) (.int 0 0 (qz 285 46 47)) (qz 285 41 48)) (qz 285 29 48))) (SE.x (.int 0 0 (qz 285 52 53))) (qz 285 29 53)) (.bin j0 (v 5 "bridged" (qz 285 11 18)) (v 4 "size" (qz 285 21 25)) (qz 285 11 25)) (.bin bN (v 4 "size" (qz 285 59 63)) (v 5 "bridged" (qz 285 66 73)) (qz 285 59 73)) (qz 285 11 73)) (qz 285 4 73))
def Ib:SS (xm.sc nm):=(st ⟨6,"left",(qz 286 4 8)⟩ (.bin ju (.bin dD (v 6 "left" (qz 286 11 15)) (.cJ (v 1 "last" (qz 286 18 22)) (.int 0 0 (qz 286 23 24)) (qz 286 18 25)) (qz 286 11 25)) (v 4 "size" (qz 286 29 33)) (qz 286 11 33)) (qz 286 4 33))
def Ic:SS (xm.sc nm):=(.ret (.ite (.cmp mh (SE.x (v 2 "told" (qz 287 23 27))) (SE.x (.tup [(.bin ju (.bin bN (.oJ gB (.cJ (v 0 "before" (qz 287 34 40)) (.int 0 0 (qz 287 41 42)) (qz 287 34 43)) (qz 287 33 43)) (v 6 "left" (qz 287 46 50)) (qz 287 33 50)) (.cJ (v 1 "last" (qz 287 55 59)) (.int 0 0 (qz 287 60 61)) (qz 287 55 62)) (qz 287 32 62)),(v 6 "left" (qz 287 64 68))] 0 (qz 287 31 69))) (qz 287 23 69)) (.oJ gB (.cJ (v 2 "told" (qz 287 12 16)) (.int 0 0 (qz 287 17 18)) (qz 287 12 19)) (qz 287 11 19)) (.nn 0 (qz 287 75 79)) (qz 287 11 79)) (qz 287 4 79))
def QS:SL (xm.sc nm):=
 (.cons MQ
 (.cons xx
 (.cons H8
 (.cons H9
 (.cons Ia
 (.cons Ib
 (.cons Ic
 .nil)))))))
abbrev bk:dY:=⟨(jN [("script",.local),("sums",.local),("place",.cell),("number",.local),("corner",.local),("gap",.local),("first",.local),("factors",.cell),("right",.local),("up",.local),("white",.local),("dress",.local),("chain",.local),("before",.cell),("last",.cell),("corners",.local),("one",.cell),("two",.cell),("spots",.local),("hues",.local),("rounds",.local),("spot",.local),("parts",.local),("most",.local),("least",.local),("red",.local),("green",.local),("blue",.local),("hue",.local),("share",.local)] (jN [("value",.local),("again",.local),("light",.local),("purity",.local),("painted",.local),("grey",.local),("goal",.local),("seen",.local),("ways",.local),("met",.local),("begin",.local),("end",.local),("hidden",.local),("row",.local),("depth",.local),("lack",.local),("factor",.local),("tail",.local),("closed",.local),("lines",.local),("handed",.local),("more",.cell),("lead",.local),("counts",.local),("behind",.local),("enumerate",.globalImplicit),("_law_figures",.globalImplicit),("range",.globalImplicit),("_law_factor_home",.globalImplicit),("tuple",.globalImplicit)] [("_law_parts",.globalImplicit),("max",.globalImplicit),("min",.globalImplicit),("rgb_to_hsv",.globalImplicit),("rgb_to_hls",.globalImplicit),("hsv_to_rgb",.globalImplicit),("hls_to_rgb",.globalImplicit),("len",.globalImplicit),("_law_cross",.globalImplicit),("list",.globalImplicit),("_pre_parse_validation",.globalImplicit),("Whitespace",.globalImplicit),("sum",.globalImplicit),("int_divmod",.globalImplicit)])),["script"],(jS ["sums","place","number","corner","gap","first","factors","right","up","white","dress","chain","before","last","corners","one","two","spots","hues","rounds","spot","parts","most","least","red","green","blue","hue","share","value"] ["again","light","purity","painted","grey","goal","seen","ways","met","begin","end","hidden","row","depth","lack","factor","tail","closed","lines","handed","more","lead","counts","behind"])⟩
def AX:SS (bk.sc nm):=(so ⟨1,"sums",(qz 289 4 8)⟩ (.lst [(.int 91 0 (qz 289 12 14)),(.int 597 0 (qz 289 16 19)),(.int 24373 0 (qz 289 21 26)),(.int 131881 0 (qz 289 28 34))] (qz 289 11 35)) (qz 289 4 35))
def Ih:SS (bk.sc nm):=(ai jU 1 "sums" (qz 291 8 12) (qz 291 8 23) (.bin j0 (v 2 "place" (qz 291 13 18)) (.int 4 0 (qz 291 21 22)) (qz 291 13 22)) (.bin j0 (v 3 "number" (qz 291 27 33)) (.bin Oe (.int 10 0 (qz 291 36 38)) (.int 6 0 (qz 291 42 43)) (qz 291 36 43)) (qz 291 27 43)) (qz 291 8 43))
def AQ:SL (bk.sc nm):=(.cons Ih
 .nil)
def AY:SS (bk.sc nm):=(fr (Ac [⟨2,"place",(qz 290 8 13)⟩,⟨3,"number",(qz 290 15 21)⟩] 0 (qz 290 8 21)) (Q6 (.slc (.of (v 0 "script" (qz 290 35 41))) none (some (.int 60 0 (qz 290 43 45))) (qz 290 42 45) (qz 290 35 46)) (qz 290 25 34) (qz 290 25 47)) AQ ⟨290,4,291,43⟩)
def xC:SS (bk.sc nm):=(mv false [⟨4,"corner",(qz 292 4 10)⟩,⟨5,"gap",(qz 292 12 15)⟩,⟨6,"first",(qz 292 17 22)⟩] 0 (qz 292 4 22) (call 14 "_law_figures" [(.idx (ow 1 "sums" (qz 292 38 42)) (.int 0 0 (qz 292 43 44)) (qz 292 38 45)),(.lst [(.int 6 0 (qz 292 48 49)),(.int 2 0 (qz 292 51 52)),(.int 12 0 (qz 292 54 56))] (qz 292 47 57))] (qz 292 25 37) (qz 292 25 58)) (qz 292 4 58))
abbrev MS:Scope:=⟨.function,[(".0",.local),("figure",.local)],false,false,[]⟩
def m7:Cp (bk.sc nm):=(cp MS (.lst (call 14 "_law_figures" [(.idx (ow 1 "sums" (qz 293 67 71)) (.int 1 0 (qz 293 72 73)) (qz 293 67 74)),(.lst [(.int 5 0 (qz 293 77 78)),(.int 5 0 (qz 293 80 81)),(.int 5 0 (qz 293 83 84)),(.int 5 0 (qz 293 86 87))] (qz 293 76 88))] (qz 293 54 66) (qz 293 54 89))) (rV ⟨0,"figure",(qz 293 44 50)⟩) .all (.bin bN (v 0 "figure" (qz 293 29 35)) (.int 1 0 (qz 293 38 39)) (qz 293 29 39)) (qz 293 28 90))
def A0:SS (bk.sc nm):=(so ⟨7,"factors",(qz 293 4 11)⟩ (.add (.of (.lst [(.bin bN (v 6 "first" (qz 293 15 20)) (.int 3 0 (qz 293 23 24)) (qz 293 15 24))] (qz 293 14 25))) (.comp m7) (qz 293 14 90)) (qz 293 4 90))
def xD:SS (bk.sc nm):=(mv false [⟨8,"right",(qz 294 4 9)⟩,⟨9,"up",(qz 294 11 13)⟩,⟨10,"white",(qz 294 15 20)⟩] 0 (qz 294 4 20) (call 14 "_law_figures" [(.idx (ow 1 "sums" (qz 294 36 40)) (.int 2 0 (qz 294 41 42)) (qz 294 36 43)),(.lst [(.int 9 0 (qz 294 46 47)),(.int 9 0 (qz 294 49 50)),(.int 900 0 (qz 294 52 55))] (qz 294 45 56))] (qz 294 23 35) (qz 294 23 57)) (qz 294 4 57))
def xE:SS (bk.sc nm):=(st ⟨11,"dress",(qz 295 4 9)⟩ (call 14 "_law_figures" [(.idx (ow 1 "sums" (qz 295 25 29)) (.int 3 0 (qz 295 30 31)) (qz 295 25 32)),(.lst [(.int 6 0 (qz 295 35 36)),(.int 6 0 (qz 295 38 39)),(.int 6 0 (qz 295 41 42)),(.int 6 0 (qz 295 44 45)),(.int 6 0 (qz 295 47 48)),(.int 3 0 (qz 295 50 51)),(.int 2 0 (qz 295 53 54)),(.int 4 0 (qz 295 56 57))] (qz 295 34 58))] (qz 295 12 24) (qz 295 12 59)) (qz 295 4 59))
def A1:SS (bk.sc nm):=(so ⟨12,"chain",(qz 296 4 9)⟩ (.lst [(.tup [(.int 1 0 (qz 296 14 15)),(.int 0 0 (qz 296 17 18))] 0 (qz 296 13 19)),(.tup [(.int 0 0 (qz 296 22 23)),(.int 1 0 (qz 296 25 26))] 0 (qz 296 21 27))] (qz 296 12 28)) (qz 296 4 28))
def Ii:SS (bk.sc nm):=(mv false [⟨13,"before",(qz 298 8 14)⟩,⟨14,"last",(qz 298 16 20)⟩] 0 (qz 298 8 20) (.slc (ow 12 "chain" (qz 298 23 28)) (some (.oJ gB (.int 2 0 (qz 298 30 31)) (qz 298 29 31))) none (qz 298 29 32) (qz 298 23 33)) (qz 298 8 33))
def Ij:SS (bk.sc nm):=(.ite (.Fb [(.cmp Ga (SE.x (v 2 "place" (qz 299 11 16))) (SE.x (.int 5 0 (qz 299 19 20))) (qz 299 11 20)),(.cmp mh (SE.x (.tup [(v 13 "before" (qz 299 26 32)),(v 14 "last" (qz 299 34 38))] 0 (qz 299 25 39))) (SE.x (.tup [(.tup [(.int 1 0 (qz 299 45 46)),(.int 0 0 (qz 299 48 49))] 0 (qz 299 44 50)),(.tup [(.int 0 0 (qz 299 53 54)),(.int 1 0 (qz 299 56 57))] 0 (qz 299 52 58))] 0 (qz 299 43 59))) (qz 299 25 59))] (qz 299 11 59)) (.cons (.brk (qz 300 12 17))
 .nil) .nil ⟨299,8,300,17⟩)
def xF:SS (bk.sc nm):=(.ite (.cmp Ga (SE.x (v 2 "place" (qz 301 11 16))) (SE.x (.int 4 0 (qz 301 19 20))) (qz 301 11 20)) (.cons (Ut 7 "factors" (qz 302 12 19) (qz 302 12 26) (qz 302 12 58) (qz 302 12 58) [(v 13 "before" (qz 302 44 50)),(v 14 "last" (qz 302 52 56))] (qz 302 27 43) (qz 302 27 57))
 (.cons (.ite (.cmp TU (SE.x (.idx (ow 7 "factors" (qz 303 15 22)) (.oJ gB (.int 1 0 (qz 303 24 25)) (qz 303 23 25)) (qz 303 15 26))) (SE.x (.nn 0 (qz 303 30 34))) (qz 303 15 34)) (.cons (.ret (.bool false 0 (qz 304 23 28)) (qz 304 16 28))
 .nil) .nil ⟨303,12,304,28⟩)
 .nil)) .nil ⟨301,8,304,28⟩)
noncomputable abbrev MT:Scope:=⟨.function,[(".0",.local),("side",.local),("before",.free),("factors",.free),("last",.free),("place",.free)],false,false,[]⟩
def xA:Cp (bk.sc nm):=(cp MT (.tup (.tup [(.int 0 0 (qz 305 84 85)),(.int 1 0 (qz 305 87 88))] 0 (qz 305 83 89))) (rV ⟨0,"side",(qz 305 75 79)⟩) .all (.bin bN (.bin dD (.idx (ow 8 "factors" (qz 305 28 35)) (v 3 "place" (qz 305 36 41)) (qz 305 28 42)) (.cJ (v 15 "last" (qz 305 45 49)) (v 0 "side" (qz 305 50 54)) (qz 305 45 55)) (qz 305 28 55)) (.cJ (v 14 "before" (qz 305 58 64)) (v 0 "side" (qz 305 65 69)) (qz 305 58 70)) (qz 305 28 70)) (qz 305 27 90))
def Ik:SS (bk.sc nm):=(ap 12 "chain" (qz 305 8 13) (qz 305 8 20) (qz 305 8 92) (qz 305 8 92) (Hz (.of (.comp xA)) (qz 305 21 26) (qz 305 21 91)))
def iB:SL (bk.sc nm):=(.cons Ii
 (.cons Ij
 (.cons xF
 (.cons Ik
 .nil))))
def A2:SS (bk.sc nm):=(fr (rV ⟨2,"place",(qz 297 8 13)⟩) (T8 (.int 85 0 (qz 297 23 25)) (qz 297 17 22) (qz 297 17 26)) iB ⟨297,4,305,92⟩)
def A3:SS (bk.sc nm):=(st ⟨15,"corners",(qz 306 4 11)⟩ (.lst [(.tup [(.int 1 0 (qz 306 16 17)),(.int 0 0 (qz 306 19 20))] 0 (qz 306 15 21)),(.tup [(.int 1 0 (qz 306 24 25)),(.int 1 0 (qz 306 27 28))] 0 (qz 306 23 29)),(.tup [(.int 0 0 (qz 306 32 33)),(.int 1 0 (qz 306 35 36))] 0 (qz 306 31 37)),(.tup [(.oJ gB (.int 1 0 (qz 306 41 42)) (qz 306 40 42)),(.int 0 0 (qz 306 44 45))] 0 (qz 306 39 46)),(.tup [(.oJ gB (.int 1 0 (qz 306 50 51)) (qz 306 49 51)),(.oJ gB (.int 1 0 (qz 306 54 55)) (qz 306 53 55))] 0 (qz 306 48 56)),(.tup [(.int 0 0 (qz 306 59 60)),(.oJ gB (.int 1 0 (qz 306 63 64)) (qz 306 62 64))] 0 (qz 306 58 65))] (qz 306 14 66)) (qz 306 4 66))
def A4:SS (bk.sc nm):=(tu [⟨16,"one",(qz 307 4 7)⟩,⟨17,"two",(qz 307 9 12)⟩] 0 0 (qz 307 4 12) (qz 307 15 65) [(.idx (.of (v 15 "corners" (qz 307 16 23))) (v 4 "corner" (qz 307 24 30)) (qz 307 16 31)),(.idx (.of (v 15 "corners" (qz 307 33 40))) (.bin j0 (.bin aX (.bin aX (v 4 "corner" (qz 307 42 48)) (v 5 "gap" (qz 307 51 54)) (qz 307 42 54)) (.int 1 0 (qz 307 57 58)) (qz 307 42 58)) (.int 6 0 (qz 307 62 63)) (qz 307 41 63)) (qz 307 33 64))] (qz 307 4 65))
noncomputable abbrev MU:Scope:=⟨.function,[(".0",.local),("a",.local),("b",.local),("one",.free),("two",.free)],false,false,[]⟩
def AU:Cp (bk.sc nm):=(cp MU (.lst (.slc (ow 12 "chain" (qz 308 76 81)) none (some (.oJ gB (.int 1 0 (qz 308 84 85)) (qz 308 83 85))) (qz 308 82 85) (qz 308 76 86))) (Ac [⟨0,"a",(qz 308 68 69)⟩,⟨1,"b",(qz 308 71 72)⟩] 0 (qz 308 68 72)) .all (.tup [(.bin aX (.bin dD (v 0 "a" (qz 308 14 15)) (.cJ (v 18 "one" (qz 308 18 21)) (.int 0 0 (qz 308 22 23)) (qz 308 18 24)) (qz 308 14 24)) (.bin dD (v 1 "b" (qz 308 27 28)) (.cJ (v 19 "two" (qz 308 31 34)) (.int 0 0 (qz 308 35 36)) (qz 308 31 37)) (qz 308 27 37)) (qz 308 14 37)),(.bin aX (.bin dD (v 0 "a" (qz 308 39 40)) (.cJ (v 18 "one" (qz 308 43 46)) (.int 1 0 (qz 308 47 48)) (qz 308 43 49)) (qz 308 39 49)) (.bin dD (v 1 "b" (qz 308 52 53)) (.cJ (v 19 "two" (qz 308 56 59)) (.int 1 0 (qz 308 60 61)) (qz 308 56 62)) (qz 308 52 62)) (qz 308 39 62))] 0 (qz 308 13 63)) (qz 308 12 87))
def AZ:SS (bk.sc nm):=(scp false ⟨18,"spots",(qz 308 4 9)⟩ AU (qz 308 4 87))
def u7:SS (bk.sc nm):=(so ⟨19,"hues",(qz 309 4 8)⟩ (.lst [] (qz 309 11 13)) (qz 309 4 13))
def u9:SS (bk.sc nm):=(st ⟨20,"rounds",(qz 310 4 10)⟩ (.int 0 0 (qz 310 13 14)) (qz 310 4 14))
def xG:SS (bk.sc nm):=(st ⟨22,"parts",(qz 312 8 13)⟩ (call 16 "_law_parts" [(v 21 "spot" (qz 312 27 31)),(.bin aX (v 10 "white" (qz 312 33 38)) (.bin dD (.int 77 0 (qz 312 41 43)) (v 2 "place" (qz 312 46 51)) (qz 312 41 51)) (qz 312 33 51))] (qz 312 16 26) (qz 312 16 52)) (qz 312 8 52))
def Ba:SS (bk.sc nm):=(tr [⟨23,"most",(qz 313 8 12)⟩,⟨24,"least",(qz 313 14 19)⟩] 0 0 (qz 313 8 19) (qz 313 22 46) [(bi NY [(v 22 "parts" (qz 313 27 32))] (qz 313 23 26) (qz 313 23 33)),(bi KD [(v 22 "parts" (qz 313 39 44))] (qz 313 35 38) (qz 313 35 45))] (qz 313 8 46))
abbrev MV:Scope:=⟨.function,[(".0",.local),("part",.local)],false,false,[]⟩
def Ie:Cp (bk.sc nm):=(cp MV (.lst (v 22 "parts" (qz 314 52 57))) (rV ⟨0,"part",(qz 314 44 48)⟩) .all (.bin pn (v 0 "part" (qz 314 28 32)) (.int 1024 0 (qz 314 35 39)) (qz 314 28 39)) (qz 314 27 58))
def Bb:SS (bk.sc nm):=(mv false [⟨25,"red",(qz 314 8 11)⟩,⟨26,"green",(qz 314 13 18)⟩,⟨27,"blue",(qz 314 20 24)⟩] 0 (qz 314 8 24) (.comp Ie) (qz 314 8 58))
def Bc:SS (bk.sc nm):=(mv true [⟨28,"hue",(qz 315 8 11)⟩,⟨29,"share",(qz 315 13 18)⟩,⟨30,"value",(qz 315 20 25)⟩] 0 (qz 315 8 25) (call 11 "rgb_to_hsv" [(v 25 "red" (qz 315 39 42)),(v 26 "green" (qz 315 44 49)),(v 27 "blue" (qz 315 51 55))] (qz 315 28 38) (qz 315 28 56)) (qz 315 8 56))
def Bd:SS (bk.sc nm):=(mv true [⟨31,"again",(qz 316 8 13)⟩,⟨32,"light",(qz 316 15 20)⟩,⟨33,"purity",(qz 316 22 28)⟩] 0 (qz 316 8 28) (call 8 "rgb_to_hls" [(v 25 "red" (qz 316 42 45)),(v 26 "green" (qz 316 47 52)),(v 27 "blue" (qz 316 54 58))] (qz 316 31 41) (qz 316 31 59)) (qz 316 8 59))
def kK:SS (bk.sc nm):=(.ite (.Fb [(.cmp ry (SW.x (ow 19 "hues" (qz 317 11 15))) (SE.x (.lst [] (qz 317 19 21))) (qz 317 11 21)),(.cmp wj (SE.x (v 28 "hue" (qz 317 26 29))) (SE.x (.idx (ow 19 "hues" (qz 317 32 36)) (.oJ gB (.int 1 0 (qz 317 38 39)) (qz 317 37 39)) (qz 317 32 40))) (qz 317 26 40))] (qz 317 11 40)) (.cons (au jU ⟨20,"rounds",(qz 318 12 18)⟩ (.int 1 0 (qz 318 22 23)) (qz 318 12 23))
 .nil) .nil ⟨317,8,318,23⟩)
def vn:SS (bk.sc nm):=(ap 19 "hues" (qz 319 8 12) (qz 319 8 19) (qz 319 8 24) (qz 319 8 24) (v 28 "hue" (qz 319 20 23)))
def vo:SS (bk.sc nm):=(.ite (.VZ [(.cmp KL (SE.x (v 31 "again" (qz 320 11 16))) (SE.x (v 28 "hue" (qz 320 20 23))) (qz 320 11 23)),(.cmp N3 (SE.x (.bin C7 (v 30 "value" (qz 320 27 32)) (.int 1024 0 (qz 320 35 39)) (qz 320 27 39))) (SE.x (v 23 "most" (qz 320 43 47))) (qz 320 27 47)),(.cmp N3 (SE.x (.bin C7 (v 32 "light" (qz 320 51 56)) (.int 2048 0 (qz 320 59 63)) (qz 320 51 63))) (SE.x (.bin aX (v 23 "most" (qz 320 67 71)) (v 24 "least" (qz 320 74 79)) (qz 320 67 79))) (qz 320 51 79))] (qz 320 11 79)) (.cons (.ret (.bool false 0 (qz 321 19 24)) (qz 321 12 24))
 .nil) .nil ⟨320,8,321,24⟩)
def vp:SS (bk.sc nm):=(.ite (.or (.cmp KL (SE.x (v 29 "share" (qz 322 11 16))) (SE.x (.bin pn (.bin bN (v 23 "most" (qz 322 21 25)) (v 24 "least" (qz 322 28 33)) (qz 322 21 33)) (v 23 "most" (qz 322 37 41)) (qz 322 20 41))) (qz 322 11 41)) (.cmp KL (SE.x (v 33 "purity" (qz 322 45 51))) (SE.x (.bin pn (.bin bN (v 23 "most" (qz 322 56 60)) (v 24 "least" (qz 322 63 68)) (qz 322 56 68)) (bi min2 [(.bin aX (v 23 "most" (qz 322 76 80)) (v 24 "least" (qz 322 83 88)) (qz 322 76 88)),(.bin bN (.bin bN (.int 2048 0 (qz 322 90 94)) (v 23 "most" (qz 322 97 101)) (qz 322 90 101)) (v 24 "least" (qz 322 104 109)) (qz 322 90 109))] (qz 322 72 75) (qz 322 72 110)) (qz 322 55 110))) (qz 322 45 110)) (qz 322 11 110)) (.cons (.ret (.bool false 0 (qz 323 19 24)) (qz 323 12 24))
 .nil) .nil ⟨322,8,323,24⟩)
def qI:SS (bk.sc nm):=(st ⟨34,"painted",(qz 324 8 15)⟩ (call 12 "hsv_to_rgb" [(.bin HY (v 28 "hue" (qz 324 29 32)) (v 20 "rounds" (qz 324 35 41)) (qz 324 29 41)),(v 29 "share" (qz 324 43 48)),(v 30 "value" (qz 324 50 55))] (qz 324 18 28) (qz 324 18 56)) (qz 324 8 56))
def m9:SS (bk.sc nm):=(.ite (.cmp mh (SE.x (.bin j0 (v 2 "place" (qz 325 11 16)) (.int 2 0 (qz 325 19 20)) (qz 325 11 20))) (SE.x (.int 1 0 (qz 325 24 25))) (qz 325 11 25)) (.cons (st ⟨34,"painted",(qz 326 12 19)⟩ (call 9 "hls_to_rgb" [(.bin Jc (v 28 "hue" (qz 326 33 36)) (v 20 "rounds" (qz 326 39 45)) (qz 326 33 45)),(v 32 "light" (qz 326 47 52)),(v 33 "purity" (qz 326 54 60))] (qz 326 22 32) (qz 326 22 61)) (qz 326 12 61))
 .nil) .nil ⟨325,8,326,61⟩)
noncomputable abbrev MW:Scope:=⟨.function,[(".0",.local),("part",.local),("int",.globalImplicit)],false,false,[]⟩
def xB:Cp (bk.sc nm):=(cp MW (.tup (v 34 "painted" (qz 327 50 57))) (rV ⟨0,"part",(qz 327 42 46)⟩) .all (.bin ju (bi NJ [(.bin HY (.bin C7 (v 0 "part" (qz 327 16 20)) (.int 2048 0 (qz 327 23 27)) (qz 327 16 27)) (.int 1 0 (qz 327 30 31)) (qz 327 16 31))] (qz 327 12 15) (qz 327 12 32)) (.int 2 0 (qz 327 36 37)) (qz 327 12 37)) (qz 327 11 58))
def qJ:SS (bk.sc nm):=(.ite (.cmp ry (SE.x (.comp xB)) (SE.x (v 22 "parts" (qz 327 62 67))) (qz 327 11 67)) (.cons (.ret (.bool false 0 (qz 328 19 24)) (qz 328 12 24))
 .nil) .nil ⟨327,8,328,24⟩)
def AR:SL (bk.sc nm):=(.cons xG
 (.cons Ba
 (.cons Bb
 (.cons Bc
 (.cons Bd
 (.cons kK
 (.cons vn
 (.cons vo
 (.cons vp
 (.cons qI
 (.cons m9
 (.cons qJ
 .nil))))))))))))
def qi:SS (bk.sc nm):=(fr (Ac [⟨2,"place",(qz 311 8 13)⟩,⟨21,"spot",(qz 311 15 19)⟩] 0 (qz 311 8 19)) (Q6 (v 18 "spots" (qz 311 33 38)) (qz 311 23 32) (qz 311 23 39)) AR ⟨311,4,328,24⟩)
def qj:SS (bk.sc nm):=(st ⟨35,"grey",(qz 329 4 8)⟩ (.M9 (v 10 "white" (qz 329 11 16)) 1024 0 (qz 329 19 23) (qz 329 11 23)) (qz 329 4 23))
def qk:SS (bk.sc nm):=(.ite (.or (.cmp ry (SE.x (call 11 "rgb_to_hsv" [(v 35 "grey" (qz 330 18 22)),(v 35 "grey" (qz 330 24 28)),(v 35 "grey" (qz 330 30 34))] (qz 330 7 17) (qz 330 7 35))) (SE.x (.tup [(.int 0 0 (qz 330 40 41)),(.int 0 0 (qz 330 43 44)),(v 35 "grey" (qz 330 46 50))] 0 (qz 330 39 51))) (qz 330 7 51)) (.cmp ry (SE.x (call 8 "rgb_to_hls" [(v 35 "grey" (qz 330 66 70)),(v 35 "grey" (qz 330 72 76)),(v 35 "grey" (qz 330 78 82))] (qz 330 55 65) (qz 330 55 83))) (SE.x (.tup [(.int 0 0 (qz 330 88 89)),(v 35 "grey" (qz 330 91 95)),(.int 0 0 (qz 330 97 98))] 0 (qz 330 87 99))) (qz 330 55 99)) (qz 330 7 99)) (.cons (.ret (.bool false 0 (qz 331 15 20)) (qz 331 8 20))
 .nil) .nil ⟨330,4,331,20⟩)
def qm:SS (bk.sc nm):=(.ite (.or (.cmp ry (SE.x (call 12 "hsv_to_rgb" [(.idx (ow 19 "hues" (qz 332 18 22)) (.int 1 0 (qz 332 23 24)) (qz 332 18 25)),(.int 0 0 (qz 332 27 28)),(v 35 "grey" (qz 332 30 34))] (qz 332 7 17) (qz 332 7 35))) (SE.x (.tup [(v 35 "grey" (qz 332 40 44)),(v 35 "grey" (qz 332 46 50)),(v 35 "grey" (qz 332 52 56))] 0 (qz 332 39 57))) (qz 332 7 57)) (.cmp ry (SE.x (call 9 "hls_to_rgb" [(.idx (ow 19 "hues" (qz 332 72 76)) (.int 1 0 (qz 332 77 78)) (qz 332 72 79)),(v 35 "grey" (qz 332 81 85)),(.int 0 0 (qz 332 87 88))] (qz 332 61 71) (qz 332 61 89))) (SE.x (.tup [(v 35 "grey" (qz 332 94 98)),(v 35 "grey" (qz 332 100 104)),(v 35 "grey" (qz 332 106 110))] 0 (qz 332 93 111))) (qz 332 61 111)) (qz 332 7 111)) (.cons (.ret (.bool false 0 (qz 333 15 20)) (qz 333 8 20))
 .nil) .nil ⟨332,4,333,20⟩)
def qo:SS (bk.sc nm):=(st ⟨36,"goal",(qz 334 4 8)⟩ (.ite (.cmp ry (SE.x (.tup [(v 8 "right" (qz 334 35 40)),(v 9 "up" (qz 334 42 44))] 0 (qz 334 34 45))) (SE.x (.tup [(.int 4 0 (qz 334 50 51)),(.int 4 0 (qz 334 53 54))] 0 (qz 334 49 55))) (qz 334 34 55)) (.tup [(.bin bN (v 8 "right" (qz 334 12 17)) (.int 4 0 (qz 334 20 21)) (qz 334 12 21)),(.bin bN (v 9 "up" (qz 334 23 25)) (.int 4 0 (qz 334 28 29)) (qz 334 23 29))] 0 (qz 334 11 30)) (.tup [(.int 1 0 (qz 334 62 63)),(.int 0 0 (qz 334 65 66))] 0 (qz 334 61 67)) (qz 334 11 67)) (qz 334 4 67))
abbrev MX:Scope:=⟨.function,[(".0",.local),("part",.local)],false,false,[]⟩
def Ig:Cp (bk.sc nm):=(cp MX (.lst (call 16 "_law_parts" [(v 36 "goal" (qz 335 59 63)),(v 10 "white" (qz 335 65 70))] (qz 335 48 58) (qz 335 48 71))) (rV ⟨0,"part",(qz 335 40 44)⟩) .all (.bin pn (v 0 "part" (qz 335 24 28)) (.int 1024 0 (qz 335 31 35)) (qz 335 24 35)) (qz 335 23 72))
def qp:SS (bk.sc nm):=(mv false [⟨25,"red",(qz 335 4 7)⟩,⟨26,"green",(qz 335 9 14)⟩,⟨27,"blue",(qz 335 16 20)⟩] 0 (qz 335 4 20) (.comp Ig) (qz 335 4 72))
def qq:SS (bk.sc nm):=(st ⟨37,"seen",(qz 336 4 8)⟩ (.cJ (call 8 "rgb_to_hls" [(v 25 "red" (qz 336 22 25)),(v 26 "green" (qz 336 27 32)),(v 27 "blue" (qz 336 34 38))] (qz 336 11 21) (qz 336 11 39)) (.int 0 0 (qz 336 40 41)) (qz 336 11 42)) (qz 336 4 42))
def qt:SS (bk.sc nm):=(st ⟨38,"ways",(qz 337 4 8)⟩ (.int 0 0 (qz 337 11 12)) (qz 337 4 12))
def qu:SS (bk.sc nm):=(st ⟨39,"met",(qz 338 4 7)⟩ (.int 0 0 (qz 338 10 11)) (qz 338 4 11))
def A5:SS (bk.sc nm):=(mv false [⟨40,"begin",(qz 340 8 13)⟩,⟨41,"end",(qz 340 15 18)⟩] 0 (qz 340 8 18) (.slc (ow 19 "hues" (qz 340 21 25)) (some (v 2 "place" (qz 340 26 31))) (some (.bin aX (v 2 "place" (qz 340 32 37)) (.int 2 0 (qz 340 40 41)) (qz 340 32 41))) (qz 340 26 41) (qz 340 21 42)) (qz 340 8 42))
def vq:SS (bk.sc nm):=(.ite (.Fb [(.cmp Ga (SE.x (call 15 "_law_cross" [(v 36 "goal" (qz 341 22 26)),(.idx (.of (v 18 "spots" (qz 341 28 33))) (.bin aX (v 2 "place" (qz 341 34 39)) (.int 1 0 (qz 341 42 43)) (qz 341 34 43)) (qz 341 28 44))] (qz 341 11 21) (qz 341 11 45))) (SE.x (.int 0 0 (qz 341 48 49))) (qz 341 11 49)),(.cmp JZ (SE.x (call 15 "_law_cross" [(.idx (.of (v 18 "spots" (qz 341 65 70))) (v 2 "place" (qz 341 71 76)) (qz 341 65 77)),(v 36 "goal" (qz 341 79 83))] (qz 341 54 64) (qz 341 54 84))) (SE.x (.int 0 0 (qz 341 88 89))) (qz 341 54 89))] (qz 341 11 89)) (.cons (au jU ⟨38,"ways",(qz 342 12 16)⟩ (.int 1 0 (qz 342 20 21)) (qz 342 12 21))
 .nil) .nil ⟨341,8,342,21⟩)
def vt:SS (bk.sc nm):=(.ite (.or (Ti Ks wj (SE.x (v 40 "begin" (qz 343 11 16))) (SE.x (v 37 "seen" (qz 343 20 24))) (SE.x (v 41 "end" (qz 343 27 30))) (qz 343 11 30)) (.Fb [(.cmp wj (SE.x (v 41 "end" (qz 343 35 38))) (SE.x (v 40 "begin" (qz 343 41 46))) (qz 343 35 46)),(.or (.cmp Ra (SE.x (v 37 "seen" (qz 343 52 56))) (SE.x (v 40 "begin" (qz 343 60 65))) (qz 343 52 65)) (.cmp wj (SE.x (v 37 "seen" (qz 343 69 73))) (SE.x (v 41 "end" (qz 343 76 79))) (qz 343 69 79)) (qz 343 52 79))] (qz 343 35 80)) (qz 343 11 81)) (.cons (au jU ⟨39,"met",(qz 344 12 15)⟩ (.int 1 0 (qz 344 19 20)) (qz 344 12 20))
 .nil) .nil ⟨343,8,344,20⟩)
def xy:SL (bk.sc nm):=(.cons A5
 (.cons vq
 (.cons vt
 .nil)))
def qv:SS (bk.sc nm):=(fr (rV ⟨2,"place",(qz 339 8 13)⟩) (T8 (H6 jX (SW.x (ow 7 "factors" (qz 339 27 34))) (qz 339 23 26) (qz 339 23 35) iX) (qz 339 17 22) (qz 339 17 36)) xy ⟨339,4,344,20⟩)
def qw:SS (bk.sc nm):=(.ite (.neg (Ti mh mh (SE.x (v 20 "rounds" (qz 345 11 17))) (SE.x (v 38 "ways" (qz 345 21 25))) (SE.x (v 39 "met" (qz 345 29 32))) (qz 345 11 32)) (qz 345 7 32)) (.cons (.ret (.bool false 0 (qz 346 15 20)) (qz 346 8 20))
 .nil) .nil ⟨345,4,346,20⟩)
def qx:SS (bk.sc nm):=(st ⟨42,"hidden",(qz 347 4 10)⟩ (.lst [(.str "" 0 (qz 347 14 16)),(.str "\\)" 0 (qz 347 18 23)),(.str "\"(\"" 0 (qz 347 25 30)),(.str "\"\\\")\"" 0 (qz 347 32 40)),(.str "\\\\" 0 (qz 347 42 48)),(.str "\\\"" 0 (qz 347 50 55))] (qz 347 13 56)) (qz 347 4 56))
def qy:SS (bk.sc nm):=(st ⟨43,"row",(qz 348 4 7)⟩ (.str "" 0 (qz 348 10 12)) (qz 348 4 12))
def qA:SS (bk.sc nm):=(st ⟨44,"depth",(qz 349 4 9)⟩ (.int 0 0 (qz 349 12 13)) (qz 349 4 13))
def qB:SS (bk.sc nm):=(st ⟨45,"lack",(qz 350 4 8)⟩ (.int 0 0 (qz 350 11 12)) (qz 350 4 12))
def A6:SS (bk.sc nm):=(au IM ⟨43,"row",(qz 352 8 11)⟩ (.bin d7 (.bin d7 (.ite (.cmp zN (SE.x (v 2 "place" (qz 352 40 45))) (SE.x (.int 5 0 (qz 352 48 49))) (qz 352 40 49)) (.idx (.of (v 42 "hidden" (qz 352 16 22))) (.idx (.of (v 11 "dress" (qz 352 23 28))) (v 2 "place" (qz 352 29 34)) (qz 352 23 35)) (qz 352 16 36)) (.str "" 0 (qz 352 55 57)) (qz 352 16 57)) (.bin iG (.str "(" 0 (qz 352 61 64)) (.bin bN (.int 3 0 (qz 352 68 69)) (v 46 "factor" (qz 352 72 78)) (qz 352 68 78)) (qz 352 61 79)) (qz 352 15 79)) (.bin iG (.str ")" 0 (qz 352 82 85)) (.bin bN (v 46 "factor" (qz 352 89 95)) (.int 3 0 (qz 352 98 99)) (qz 352 89 99)) (qz 352 82 100)) (qz 352 15 100)) (qz 352 8 100))
def A8:SS (bk.sc nm):=(au jU ⟨44,"depth",(qz 353 8 13)⟩ (.bin bN (.int 3 0 (qz 353 17 18)) (v 46 "factor" (qz 353 21 27)) (qz 353 17 27)) (qz 353 8 27))
def A9:SS (bk.sc nm):=(st ⟨45,"lack",(qz 354 8 12)⟩ (bi max2 [(v 45 "lack" (qz 354 19 23)),(.oJ gB (v 44 "depth" (qz 354 26 31)) (qz 354 25 31))] (qz 354 15 18) (qz 354 15 32)) (qz 354 8 32))
def sC:SL (bk.sc nm):=(.cons A6
 (.cons A8
 (.cons A9
 .nil)))
def qC:SS (bk.sc nm):=(fr (Ac [⟨2,"place",(qz 351 8 13)⟩,⟨46,"factor",(qz 351 15 21)⟩] 0 (qz 351 8 21)) (Q6 (v 7 "factors" (qz 351 35 42)) (qz 351 25 34) (qz 351 25 43)) sC ⟨351,4,354,32⟩)
def qD:SS (bk.sc nm):=(st ⟨47,"tail",(qz 355 4 8)⟩ (.idx (.of (.lst [(.str ")" 0 (qz 355 12 15)),(.str "\")" 0 (qz 355 17 21)),(.str ")\\" 0 (qz 355 23 28))] (qz 355 11 29))) (.idx (.of (v 11 "dress" (qz 355 30 35))) (.int 5 0 (qz 355 36 37)) (qz 355 30 38)) (qz 355 11 39)) (qz 355 4 39))
def qE:SS (bk.sc nm):=(st ⟨48,"closed",(qz 356 4 10)⟩ (.bin d7 (.bin d7 (.bin d7 (.bin iG (.str "(" 0 (qz 356 13 16)) (v 45 "lack" (qz 356 19 23)) (qz 356 13 23)) (v 43 "row" (qz 356 26 29)) (qz 356 13 29)) (.bin iG (.str ")" 0 (qz 356 32 35)) (.bin bN (.bin aX (v 45 "lack" (qz 356 39 43)) (.bin dD (.int 12 0 (qz 356 46 48)) (v 20 "rounds" (qz 356 51 57)) (qz 356 46 57)) (qz 356 39 57)) (.int 1 0 (qz 356 60 61)) (qz 356 39 61)) (qz 356 32 62)) (qz 356 13 62)) (v 47 "tail" (qz 356 65 69)) (qz 356 13 69)) (qz 356 4 69))
def qF:SS (bk.sc nm):=(so ⟨49,"lines",(qz 357 4 9)⟩ (.lst [(v 48 "closed" (qz 357 13 19)),(.idx (.of (.lst [(.bin d7 (.bin d7 (.str ")" 0 (qz 357 22 25)) (v 48 "closed" (qz 357 28 34)) (qz 357 22 34)) (.str "(" 0 (qz 357 37 40)) (qz 357 22 40)),(.bin d7 (.str "(" 0 (qz 357 42 45)) (v 48 "closed" (qz 357 48 54)) (qz 357 42 54))] (qz 357 21 55))) (.idx (.of (v 11 "dress" (qz 357 56 61))) (.int 6 0 (qz 357 62 63)) (qz 357 56 64)) (qz 357 21 65))] (qz 357 12 66)) (qz 357 4 66))
def m8:SS (bk.sc nm):=(.ite (.cmp Ga (SE.x (v 45 "lack" (qz 358 7 11))) (SE.x (.int 0 0 (qz 358 14 15))) (qz 358 7 15)) (.cons (ap 49 "lines" (qz 359 8 13) (qz 359 8 20) (qz 359 8 84) (qz 359 8 84) (.bin d7 (.bin d7 (.bin d7 (.bin iG (.str "(" 0 (qz 359 21 24)) (.bin bN (v 45 "lack" (qz 359 28 32)) (.int 1 0 (qz 359 35 36)) (qz 359 28 36)) (qz 359 21 37)) (v 43 "row" (qz 359 40 43)) (qz 359 21 43)) (.bin iG (.str ")" 0 (qz 359 46 49)) (.bin bN (.bin aX (v 45 "lack" (qz 359 53 57)) (.bin dD (.int 12 0 (qz 359 60 62)) (v 20 "rounds" (qz 359 65 71)) (qz 359 60 71)) (qz 359 53 71)) (.int 2 0 (qz 359 74 75)) (qz 359 53 75)) (qz 359 46 76)) (qz 359 21 76)) (v 47 "tail" (qz 359 79 83)) (qz 359 21 83)))
 .nil) .nil ⟨358,4,359,84⟩)
def qG:SS (bk.sc nm):=(st ⟨50,"handed",(qz 360 4 10)⟩ (VO (ow 49 "lines" (qz 360 18 23)) (qz 360 13 17) (qz 360 13 24)) (qz 360 4 24))
def qH:SS (bk.sc nm):=(.ite (.or (.cmp ry (SE.x (call 2 "_pre_parse_validation" [(v 50 "handed" (qz 361 29 35))] (qz 361 7 28) (qz 361 7 36))) (SE.x (.bin MA (.lst [(v 48 "closed" (qz 361 41 47))] (qz 361 40 48)) (.bin C8 (.lst [(.str "('', '')" 0 (qz 361 52 62))] (qz 361 51 63)) (.bin bN (H6 jX (SW.x (ow 49 "lines" (qz 361 71 76))) (qz 361 67 70) (qz 361 67 77) iX) (.int 1 0 (qz 361 80 81)) (qz 361 67 81)) (qz 361 51 82)) (qz 361 40 82))) (qz 361 7 82)) (.cmp ry (SE.x (v 50 "handed" (qz 361 86 92))) (SW.x (ow 49 "lines" (qz 361 96 101))) (qz 361 86 101)) (qz 361 7 101)) (.cons (.ret (.bool false 0 (qz 362 15 20)) (qz 362 8 20))
 .nil) .nil ⟨361,4,362,20⟩)
def vc:SS (bk.sc nm):=(st ⟨51,"more",(qz 363 4 8)⟩ (bi max2 [(.idx (.of (v 11 "dress" (qz 363 15 20))) (.int 7 0 (qz 363 21 22)) (qz 363 15 23)),(.oJ gB (bi KD [(v 7 "factors" (qz 363 30 37))] (qz 363 26 29) (qz 363 26 38)) (qz 363 25 38))] (qz 363 11 14) (qz 363 11 39)) (qz 363 4 39))
noncomputable abbrev MY:Scope:=⟨.function,[(".0",.local),("factor",.local),("more",.free)],false,false,[]⟩
def AV:Cp (bk.sc nm):=(cp MY (.lst (v 7 "factors" (qz 364 63 70))) (rV ⟨0,"factor",(qz 364 53 59)⟩) .all (.bin d7 (.bin iG (.str " " 0 (qz 364 20 23)) (.bin aX (v 0 "factor" (qz 364 27 33)) (v 52 "more" (qz 364 36 40)) (qz 364 27 40)) (qz 364 20 41)) (.str "\t" 0 (qz 364 44 48)) (qz 364 20 48)) (qz 364 19 71))
def vf:SS (bk.sc nm):=(st ⟨52,"lead",(qz 364 4 8)⟩ (me joinM (SE.x (.str "" 0 (qz 364 11 13))) [(SE.x (.comp AV))] (qz 364 11 18) (qz 364 11 72)) (qz 364 4 72))
def vg:SS (bk.sc nm):=(mv true [⟨53,"counts",(qz 365 4 10)⟩,⟨54,"behind",(qz 365 12 18)⟩] 0 (qz 365 4 18) (attr 3 "norm" (call 13 "Whitespace" [(.bin d7 (.bin d7 (v 52 "lead" (qz 365 32 36)) (.bin iG (.str " " 0 (qz 365 39 42)) (.idx (.of (v 11 "dress" (qz 365 45 50))) (.int 7 0 (qz 365 51 52)) (qz 365 45 53)) (qz 365 39 53)) (qz 365 32 53)) (.str "x \t" 0 (qz 365 56 62)) (qz 365 32 62))] (qz 365 21 31) (qz 365 21 63)) (qz 365 21 68)) (qz 365 4 68))
noncomputable abbrev MZ:Scope:=⟨.function,[(".0",.local),("run",.local),("many",.local),("more",.free)],false,false,[]⟩
def AW:Cp (bk.sc nm):=(cp MZ (Q7 (v 53 "counts" (qz 366 85 91)) (qz 366 75 84) (qz 366 75 92)) (Ac [⟨0,"run",(qz 366 62 65)⟩,⟨1,"many",(qz 366 67 71)⟩] 0 (qz 366 62 71)) .all (.bin dD (.bin bN (.bin aX (.int 3 0 (qz 366 35 36)) (v 53 "more" (qz 366 39 43)) (qz 366 35 43)) (v 0 "run" (qz 366 46 49)) (qz 366 35 49)) (v 1 "many" (qz 366 53 57)) (qz 366 34 57)) (qz 366 33 93))
def vh:SS (bk.sc nm):=(.ite (.or (.cmp ry (SE.x (v 54 "behind" (qz 366 7 13))) (SE.x (.idx (.of (v 11 "dress" (qz 366 17 22))) (.int 7 0 (qz 366 23 24)) (qz 366 17 25))) (qz 366 7 25)) (.cmp ry (SE.x (bi Sk [(.comp AW)] (qz 366 29 32) (qz 366 29 94))) (SE.x (.bin dD (.int 12 0 (qz 366 98 100)) (v 20 "rounds" (qz 366 103 109)) (qz 366 98 109))) (qz 366 29 109)) (qz 366 7 109)) (.cons (.ret (.bool false 0 (qz 367 15 20)) (qz 367 8 20))
 .nil) .nil ⟨366,4,367,20⟩)
def vm:SS (bk.sc nm):=(.ret (.cmp mh (SE.x (call 7 "int_divmod" [(v 44 "depth" (qz 368 22 27)),(.int 12 0 (qz 368 29 31))] (qz 368 11 21) (qz 368 11 32))) (SE.x (.tup [(v 20 "rounds" (qz 368 37 43)),(.int 0 0 (qz 368 45 46))] 0 (qz 368 36 47))) (qz 368 11 47)) (qz 368 4 47))
def MR:SL (bk.sc nm):=
 (.cons AX
 (.cons AY
 (.cons xC
 (.cons A0
 (.cons xD
 (.cons xE
 (.cons A1
 (.cons A2
 (.cons A3
 (.cons A4
 (.cons AZ
 (.cons u7
 (.cons u9
 (.cons qi
 (.cons qj
 (.cons qk
 (.cons qm
 (.cons qo
 (.cons qp
 (.cons qq
 (.cons qt
 (.cons qu
 (.cons qv
 (.cons qw
 (.cons qx
 (.cons qy
 (.cons qA
 (.cons qB
 (.freeze 7 (.cons qC
 (.cons qD
 (.cons qE
 (.cons qF
 (.cons m8
 (.cons qG
 (.cons qH
 (.cons vc
 (.cons vf
 (.cons vg
 (.cons vh
 (.cons vm
 .nil)))))))))))))))))))))))))))))))))))))))))
def eO:Jo:=⟨[aG D0 c0,aG D1 c1,aG D2 c2,aG D3 c3,λ_=>nF D4 c4 18 jo,λ_=>nE D5 c5 18 jo,aG D6 c6,aG D7 c7,aG D8 c8,aG D9 c9,aG LY JA,aG HU AP,aG Jh c12,EK Me oK 188,aG Ay JB,aG Ji L2,aG Az JC,aG xm QS],[aG Qo Tj],[tE Qn Aq]⟩
noncomputable def loose:List Str:=["_wall","_iter_escaped_chars","_strip_quoted_realnames","_check_parenthesis","_pre_parse_validation","_DIV_LIMIT","_div2n1n","_div3n2n","_int2digits","_digits2int","_divmod_pos","int_divmod","ONE_THIRD","ONE_SIXTH","TWO_THIRD","rgb_to_hls","hls_to_rgb","_v","rgb_to_hsv","hsv_to_rgb","Whitespace","_law_figures","_law_cross","_law_parts","_law_factor_home"]
abbrev q:Program:=view P [30]
noncomputable def tI:Tab:=⟨41,37,⟨35,4,44,28⟩,"_int2digits.<locals>.inner"⟩
noncomputable def tD:Tab:=⟨48,44,⟨50,4,55,55⟩,"_digits2int.<locals>.inner"⟩
noncomputable def addrs:List Addr:=[112,119,126,28,42,49,56,63,70,77,84,91,98,188,199,206,211,218]
noncomputable def dP:List Addr:=[112,119,126,28,42,49,56,63,70,77,84,91,98,143,199,206,211,218,105,157,223]
def iD:List (Option Face):=[some (D0.face false c0.sts),some (D1.face false c1.sts),some (D2.face false c2.sts),some (D3.face false c3.sts),some (D4.face false c4.sts),some (D5.face false c5.sts),some (D6.face false c6.sts),some (D7.face false c7.sts),some (D8.face false c8.sts),some (D9.face false c9.sts),some (LY.face false JA.sts),some (HU.face false AP.sts),some (Jh.face false c12.sts),some (Me.face false oK.sts),some (Ay.face false JB.sts),some (Ji.face false L2.sts),some (Az.face false JC.sts),some (xm.face false QS.sts),some (Qn.face true Aq.sts),some (Qo.face false Tj.sts),some (bk.face false MR.sts)]
def fY(K:Frag):Bool:=(dP.all (codeB K)&&(tY K 42 tI "inner"&&tY K 49 tD "inner"))&&((Qj K 188 143&&Dd nm K (addrs++[223]) [105] [157])&&([tI,tD].all (λt=>codeHdIn K t.c t.P)&&rC K "law" 223))
def told(s:Shared):List (Option Face)×Bool×Option Obj×Option Obj:=(dP.map (dB (pick (List.range 240) s.heap)),fY (pick (List.range 240) s.heap),s.heap.get? 37,s.heap.get? 44)
def wanted:List (Option Face)×Bool×Option Obj×Option Obj:=(iD,true,some (tabObj #[]),some (tabObj #[]))
theorem Ot:PySem.Challenge.rw_ux0036_01.wellSaid=true:=by decide+kernel
theorem left:LeftO P q loose (recOk PySem.Challenge.rw_ux0036_01.row.records) told (λ_=>wanted) 2830:=LeftO.of_split "special-get-raises" λw=>by kernel_rfl
abbrev fX:List Addr:=addrs++[223]
section
variable{X:Cx}{K:Frag}
theorem mH(hf:dP.map (dB K)=iD):∀(i:Nat) {a:Addr} {F:Face},(dP[i]?=some a/\iD[i]?=some (some F))->dB K a=some F:=λi a F h=>by
 have:=congrArg (λl:List (Option Face)=>l[i]?) hf
 rw[List.getElem?_map,h.1,h.2]at this
 exact aq this
theorem iT(hc:fY K=true):∀a,a∈dP->codeB K a=true:=λa m=>List.all_eq_true.mp (both (both hc).1).1 a m
theorem Kv(hK:∀h,X.G h->K.In h)(hnm:X.nm=nm)(hv:∀f,X.fv f=.ref (fX.getD f 0))(hm:∀f,X.mv f=.ref (([157]:List Addr).getD f 0))(hg:∀f,X.gv f=.ref (([105]:List Addr).getD f 0))(hf:dP.map (dB K)=iD)(hc:fY K=true)(mk:∀t∈[tI,tD],∀name params body scope,mU X (.ref t.c) name params body scope t.pos t.qual):HW X eO:=by
 have face:=mH hf
 have code:=iT hc
 obtain⟨c1,c2⟩:=both hc
 obtain⟨hI,hD⟩:=both (both c1).2
 obtain⟨hW,hN⟩:=both (both c2).1
 have hv':X.fv=λf=>.ref (fX.getD f 0):=funext hv
 refine⟨λf ev e=>?_,λf ev e=>?_,λf ev e=>?_⟩
 ·rw[hv']
  have:=Js (X:=X) (val:=λf=>.ref (fX.getD f 0)) (n:=0) (l:=eO.fn) ⟨cG hK hnm (face 0 ⟨rfl,rfl⟩) (code 112 (by decide)) (by kernel_rfl),
  cG hK hnm (face 1 ⟨rfl,rfl⟩) (code 119 (by decide)) (by kernel_rfl),
  cG hK hnm (face 2 ⟨rfl,rfl⟩) (code 126 (by decide)) (by kernel_rfl),
  cG hK hnm (face 3 ⟨rfl,rfl⟩) (code 28 (by decide)) (by kernel_rfl),
  GF (t:=tI) hK hnm (by kernel_rfl) (by rfl) ⟨"a",by decide,by kernel_rfl⟩ hI (by rfl) (mk tI (by simp)) (face 4 ⟨rfl,rfl⟩) (code 42 (by decide)) (by kernel_rfl),
  GD (t:=tD) hK hnm (by kernel_rfl) (by rfl) hD (by rfl) (mk tD (by simp)) (face 5 ⟨rfl,rfl⟩) (code 49 (by decide)) (by kernel_rfl),
  cG hK hnm (face 6 ⟨rfl,rfl⟩) (code 56 (by decide)) (by kernel_rfl),
  cG hK hnm (face 7 ⟨rfl,rfl⟩) (code 63 (by decide)) (by kernel_rfl),
  cG hK hnm (face 8 ⟨rfl,rfl⟩) (code 70 (by decide)) (by kernel_rfl),
  cG hK hnm (face 9 ⟨rfl,rfl⟩) (code 77 (by decide)) (by kernel_rfl),
  cG hK hnm (face 10 ⟨rfl,rfl⟩) (code 84 (by decide)) (by kernel_rfl),
  cG hK hnm (face 11 ⟨rfl,rfl⟩) (code 91 (by decide)) (by kernel_rfl),
  cG hK hnm (face 12 ⟨rfl,rfl⟩) (code 98 (by decide)) (by kernel_rfl),
  NZ hK hnm (by kernel_rfl) hW (face 13 ⟨rfl,rfl⟩) (code 143 (by decide)) (by kernel_rfl),
  cG hK hnm (face 14 ⟨rfl,rfl⟩) (code 199 (by decide)) (by kernel_rfl),
  cG hK hnm (face 15 ⟨rfl,rfl⟩) (code 206 (by decide)) (by kernel_rfl),
  cG hK hnm (face 16 ⟨rfl,rfl⟩) (code 211 (by decide)) (by kernel_rfl),
  cG hK hnm (face 17 ⟨rfl,rfl⟩) (code 218 (by decide)) (by kernel_rfl),trivial⟩ e
  rw[Nat.zero_add]at this
  exact this
 ·match f,e with
  |0,e=>
   obtain rfl:=aq e
   rw[hm]
   exact cG hK hnm (face 19 ⟨rfl,rfl⟩) (code 157 (by decide)) (by kernel_rfl)
  |n+1,e=>exact nomatch e
 ·match f,e with
  |0,e=>
   obtain rfl:=aq e
   rw[hg]
   exact KG hK hnm (face 18 ⟨rfl,rfl⟩) (code 105 (by decide)) (by kernel_rfl)
  |n+1,e=>exact nomatch e
def MP:SL (xm.sc nm):=.cons xx (.cons H8 (.cons H9 (.cons Ia (.cons Ib (.cons Ic .nil)))))
theorem zY(Φ:bO)(b0 b1 l1:Int)(h:sm b1=true):MP.ex Φ (gr (.tup [.int b0,.int b1]) (.tup [.int 0,.int l1]))=some (.ret (.int (b1*l1))):=by
 have:xx.ex Φ (gr (.tup [.int b0,.int b1]) (.tup [.int 0,.int l1]))=f7 (Option.map Out.ret (bif sm b1 then some (PV.int (b1*l1))else none)) ((SL.nil (sc:=xm.sc nm)).ex Φ):=by
  kernel_rfl
 show f7 (xx.ex Φ _) _=_
 rw[this,h];rfl
theorem Gi(hK:∀h,X.G h->K.In h)(hnm:X.nm=nm)(hv:∀f,X.fv f=.ref (fX.getD f 0))(hf:dP.map (dB K)=iD)(hc:fY K=true){fT:bO}{d:Nat}(P:∀Ar,bD Ar d->Pf X fT Ar d){Ar:Around}:kI X Ar (d+2):=by
 obtain⟨FU,_,Ql,Qx⟩:=jr (D:=xm) (sts:=QS.sts) hK (mH hf 17 ⟨rfl,rfl⟩) (iT hc 218 (by decide)) (by kernel_rfl)
 obtain⟨P8,_,A7,O7⟩:=jr (D:=D7) (sts:=c7.sts) hK (mH hf 7 ⟨rfl,rfl⟩) (iT hc 63 (by decide)) (by kernel_rfl)
 exact Gh (nm:=nm) (names:=xm.names) (D7:=D7) (rest:=MP) (t7:=.cmp mh (SE.x (v 1 "b" (qz 69 7 8))) (SE.x (.int 0 0 (qz 69 12 13))) (qz 69 7 13))
  (x0:=.oJ gB (.cJ (v 0 "before" (qz 278 27 33)) (.int 0 0 (qz 278 34 35)) (qz 278 27 36)) (qz 278 26 36)) (x1:=.cJ (v 1 "last" (qz 278 38 42)) (.int 0 0 (qz 278 43 44)) (qz 278 38 45))
  hnm (hv 17) Ql Qx (hv 7) A7 O7 rfl (by decide) (by kernel_rfl) (by kernel_rfl) (by kernel_rfl) rfl (λ_ _ _ _=>⟨rfl,rfl⟩) (λ_ _=>by rfl) zY P
end
abbrev F8:bO:={eO.d9 8 with hz:=true}
def Pure:Prop:=∀ns:List Int,ns.length<=63->aG bk MR F8 [.lst (ns.map .int)]=some (.bool true)
noncomputable abbrev Tl:Heap->Prop:=Told dP iD fY [tI,tD]
theorem Hx{s:Shared}(e:told s=wanted):Tl s.heap:=
 ⟨pick (List.range 240) s.heap,λa o e=>GU e,congrArg (·.1) e,congrArg (·.2.1) e,λt m=>by
  rcases eX m with rfl|m
  ·exact congrArg (·.2.2.1) e
  ·rcases eX m with rfl|m
   ·exact congrArg (·.2.2.2) e
   ·exact nomatch m⟩
theorem apart:∀t∈[tI,tD],∀t'∈[tI,tD],t.P=t'.P->t=t':=by
 intro t h t' h' e
 simp only[List.mem_cons,List.not_mem_nil,or_false]at h h'
 rcases h with rfl|rfl<;>rcases h' with rfl|rfl<;>first|rfl|(exact absurd e (by decide))
theorem Ir:(defOf q PySem.Challenge.rw_ux0036_01.row.name).isSome=true:=by kernel_rfl
def dk:DefRec×List (Str×Expr):=(defOf q PySem.Challenge.rw_ux0036_01.row.name).get Ir
theorem RS(H:Pure):PySem.Challenge.rw_ux0036_01.Holds:=holds_law Ot λsd=>by
 refine holds_open (q:=q) (loose:=loose) (Xt:=recOk PySem.Challenge.rw_ux0036_01.row.records) (XP:=λ_ _=>True) (Yf:=told) (Ya:=λ_=>wanted) (YP:=λ_ h=>Tl h) (N:=2830) left (λ_ s e=>Hx e) (λ_ _ _ x k=>x.keeps k) (λ_ _=>trivial) (λ_ _ _ _ _=>trivial) (d:=dk.1) (kwd:=dk.2) (Option.some_get Ir).symm (by kernel_rfl) (by kernel_rfl) (λs e=>recFacts_of e) (by first|rfl|decide+kernel) (by first|assumption|decide+kernel) (by decide+kernel) ⟨rfl,rfl,rfl,rfl,rfl,by decide+kernel⟩ ?_ ?_
 ·w_witness2
 intro w s₀ s₁ mg mb G Y fa o pm cd doc dV kV ho hd hcd hD hmg hg args vals as hpre hlay hrd hwl hlo
 clear hd hcd
 obtain⟨K,TN,hf,hc,hT⟩:=Y
 have KX:K.In s₁.heap:=λa o e=>(TN a o e).1
 refine Ground.open G ?_
 intro T B D TE TW
 obtain⟨c1,c2⟩:=both hc
 obtain⟨Vp,c2⟩:=both c2
 obtain⟨hW,hN⟩:=both Vp
 obtain⟨VA,RA⟩:=both c2
 have Vv:=(lB KX T.g RA).1
 try (refine guard_noD D (by decide+kernel) ?_;clear D)
 wrow_args hpre hlay hrd hwl hlo
 rename_i ns _ _ _ _ _ _ _ l vs _ hL _ w1 _ hI _ hlen _
 have NG:mg "law"=some (.ref fa):=hmg
 rw[Vv]at NG
 cases NG
 obtain⟨N,Rq⟩:=Em ⟨_,_,ho⟩
 have O:jC (gT PySem.Challenge.rw_ux0036_01.row.prog w s₁.heap N l [tI,tD] K mg mb nm fX [105] [157]) 143:=
  wu Rq TN T.g T.b T.nolimit T.builtins T.bmain hT VA apart hW hN
 obtain⟨n,hl⟩:=Gw (show Well w.params s₁.heap (.ref l) (.list _)from w1) hL
 have hlt:∀t∈[tI,tD],l≠t.P:=λt ht q=>by
  have:=hT t ht
  rw[<-q,hl]at this
  exact nomatch (show Value.type "list"=.none from congrArg Obj.cls (aq this))
 have LO:=Kv (X:=(gT PySem.Challenge.rw_ux0036_01.row.prog w s₁.heap N l [tI,tD] K mg mb nm fX [105] [157]).X) (λh g=>Base.Gq g O.S) rfl (λf=>rfl) (λf=>rfl) (λf=>rfl) hf hc (λt ht name params body scope=>Dt O ht name params body scope hlt)
 have R:bD callerA 163:=⟨rfl,by decide,by decide⟩
 obtain⟨Wv,_,Al,Ol⟩:=jr (D:=bk) (sts:=MR.sts) (X:=(gT PySem.Challenge.rw_ux0036_01.row.prog w s₁.heap N l [tI,tD] K mg mb nm fX [105] [157]).X) (λh g=>Base.Gq g O.S) (mH hf 20 ⟨rfl,rfl⟩) (iT hc 223 (by decide)) (by kernel_rfl)
 have PF:∀Ar,bD Ar 162->Pf (gT PySem.Challenge.rw_ux0036_01.row.prog w s₁.heap N l [tI,tD] K mg mb nm fX [105] [157]).X F8 Ar 162:=λAr R=>
  have P:=(CX LO 8 Ar (R.less (by decide))).more (show 20*8<=162 by decide)
  ⟨λf vs ps r s B e V rl=>P.fn f vs ps r s B e (V.less (Nat.le_refl _)) rl,λf vs ps r s B e V rl=>P.me f vs ps r s B e (V.less (Nat.le_refl _)) rl,λf vs ps xs s B e V rl K tp hK Q E q=>P.gen f vs ps xs s B e (V.less (Nat.le_refl _)) rl K tp hK Q E λit W S s₁ x I=>q it W S s₁ x ⟨I.new,I.lz,I.start,I.keep,I.item,I.done,I.self⟩,
   λ_=>Gi (λh g=>Base.Gq g O.S) rfl (λf=>rfl) hf hc (fT:=eO.d9 8) (d:=160) (λAr R=>CX LO 8 Ar R)⟩
 have V:Bs (Fr.of (gT PySem.Challenge.rw_ux0036_01.row.prog w s₁.heap N l [tI,tD] K mg mb nm fX [105] [157]).X F8 callerA 163 λa=>N<=a\/a=l) s₁:=
  ⟨Du O,R,Base.start O.S,λa n _=>.inl n,λa q=>q⟩
 refine BG (Z:=Fr.of (gT PySem.Challenge.rw_ux0036_01.row.prog w s₁.heap N l [tI,tD] K mg mb nm fX [105] [157]).X F8 callerA 163 λa=>N<=a\/a=l) (d:=162) (ps:=[.lst (ns.map .int)]) (vs:=[.ref l]) (r:=.bool true) V Al Ol rfl rfl PF (af.cons (Rep.oi (.inr rfl) hl (ints_rep hI)) af.nil) (H ns (by omega)) (λ_=>rfl) _ _ λv s' x r=>?_
 obtain rfl:v=.bool true:=r
 exact⟨.inl ⟨.bool true,.bool true,[],rfl,λ_=>rfl,.bool _,by kernel_rfl,λ_=>⟨List.nodup_nil,λa h=>nomatch h⟩⟩,Cc O rfl hg x⟩
end L
end Mine.Internal
end
section
namespace Mine.Internal
namespace Q1
section
open PySem PySem.Float64
theorem AE:∀(K q:Nat),q<=2^53->∃t,V t=q*2^K:=by
 intro w
 induction w with
 |zero=>intro q h;exact⟨q,by have e:=V_at (k:=0) (q:=q) h (.inr rfl);rw[Nat.zero_mul,Nat.zero_add]at e;exact e⟩
 |succ K ih=>
  intro q h
  by_cases h2:2^52<=q
  ·exact⟨(K+1)*2^52+q,V_at h (.inl h2)⟩
  ·obtain⟨t,ht⟩:=ih (2*q) (by lia)
   exact⟨t,by rw[ht,Nat.pow_succ];ac_rfl⟩
theorem big:(2:Nat)^1087<(2^54-1)*2^2045:=by decide+kernel
theorem qR{W X:Nat}(h:W<=X):dist W X=X-W:=by unfold dist;rw[Nat.sub_eq_zero_of_le h,Nat.zero_add]
theorem jM{W X:Nat}(h:X<=W):dist W X=W-X:=by unfold dist;rw[Nat.sub_eq_zero_of_le h];rfl
theorem zv{W X B:Nat}(h:dist W X<=B):W<=X+B/\X<=W+B:=by
 rcases Nat.le_total W X with q|q
 ·rw[qR q]at h;exact⟨Nat.le_trans q (Nat.le_add_right ..),Nat.sub_le_iff_le_add'.mp h⟩
 ·rw[jM q]at h;exact⟨Nat.sub_le_iff_le_add'.mp h,Nat.le_trans q (Nat.le_add_right ..)⟩
theorem JK{W X:Nat}(h:dist W X=0):W=X:=Nat.le_antisymm (Nat.le_of_sub_eq_zero (Nat.eq_zero_of_add_eq_zero_right h)) (Nat.le_of_sub_eq_zero (Nat.eq_zero_of_add_eq_zero_left h))
theorem wN{r:UInt64}{ng:Bool}{W D:Nat}(h:Right r ng W D)(hD:0<D)(hW:W<=D*2^1086):∃t,r=pack ng t/\t<infMag/\dist W (D*V t)<=D*2^1034/\∀q,q<=2^53->W=D*(q*2^1034)->V t=q*2^1034:=by
 obtain⟨t,e,le,inf,k⟩:=h
 have hlt:t<infMag:=by
  refine Nat.lt_of_le_of_ne le λq=>?_
  have h1:=inf.mp q
  have h2:D*2^1087<D*((2^54-1)*2^2045):=Nat.mul_lt_mul_of_pos_left big hD
  have h3:(2:Nat)^1087=2^1086*2:=by rw[<-Nat.pow_succ]
  rw[h3,<-Nat.mul_assoc]at h2
  generalize D*2^1086=A at *
  generalize D*((2^54-1)*2^2045)=B at *
  lia
 have k:=k hlt
 refine⟨t,e,hlt,?_,λq hq hW=>?_⟩
 ·have NB:=Nat.div_add_mod W (D*2^1034)
  have hm:=Nat.mod_lt W (show 0<D*2^1034 from Nat.mul_pos hD (Nat.two_pow_pos _))
  have hq:W/(D*2^1034)<=2^53:=by
   have h3:(2:Nat)^1086=2^1034*2^52:=by rw[<-Nat.pow_add]
   rw[h3,<-Nat.mul_assoc]at hW
   exact Nat.le_trans (Nat.div_le_of_le_mul hW) (by decide)
  obtain⟨t',ht⟩:=AE 1034 _ hq
  refine Nat.le_trans (k t').1 ?_
  have e1:D*V t'=D*2^1034*(W/(D*2^1034)):=by rw[ht];ac_rfl
  rw[e1]
  rw[jM (Nat.mul_div_le ..)]
  exact Nat.le_of_lt (by rw[Nat.sub_eq_of_eq_add' NB.symm];exact hm)
 ·obtain⟨t',ht⟩:=AE 1034 q hq
  have:=(k t').1
  rw[ht,<-hW]at this
  rw[jM (Nat.le_refl W),Nat.sub_self]at this
  have:=JK (Nat.le_zero.mp this)
  rw[hW]at this
  exact(Nat.eq_of_mul_eq_mul_left hD this).symm
theorem KC{W A B C:Nat}(h3:A<C)(h4:C<B)(e:dist W A=dist W B)(h5:dist W A<=dist W C):False:=by
 rcases Nat.le_total W C with q|q
 ·rw[e,qR q,qR (Nat.le_trans q (Nat.le_of_lt h4))]at h5
  exact Nat.not_le_of_gt (Nat.sub_lt_sub_right q h4) h5
 ·rw[jM q,jM (Nat.le_trans (Nat.le_of_lt h3) q)]at h5
  exact Nat.not_le_of_gt (Nat.sub_lt_sub_left (Nat.lt_of_lt_of_le h3 q) h3) h5
theorem pQ{r r':UInt64}{ng:Bool}{W D W' D':Nat}(h:Right r ng W D)(h':Right r' ng W' D')(hD:0<D)(Qd:0<D')(e:W*D'=W'*D):r=r':=by
 obtain⟨t,rfl,le,inf,k⟩:=h
 obtain⟨t',rfl,le',RL,k'⟩:=h'
 have key:∀v v',dist W (D*v)<=dist W (D*v')↔dist W' (D'*v)<=dist W' (D'*v'):=λv v'=>by
  have s:∀v,D'*dist W (D*v)=D*dist W' (D'*v):=λv=>by
   rw[<-dist_mul,<-dist_mul,Nat.mul_comm D' W,e,Nat.mul_comm W' D]
   congr 1
   ac_rfl
  constructor
  ·intro h
   exact Nat.le_of_mul_le_mul_left (by rw[<-s,<-s];exact Nat.mul_le_mul_left _ h) hD
  ·intro h
   exact Nat.le_of_mul_le_mul_left (by rw[s,s];exact Nat.mul_le_mul_left _ h) Qd
 have hi:t=infMag↔t'=infMag:=by
  rw[inf,RL]
  generalize((2:Nat)^54-1)*2^2045=B
  constructor
  ·intro h
   have h1:D'*(D*B)<=D'*(2*W):=Nat.mul_le_mul_left _ h
   refine Nat.le_of_mul_le_mul_left (c:=D) ?_ hD
   calc D*(D'*B)=D'*(D*B):=by ac_rfl
    _<=D'*(2*W):=h1
    _=2*(W*D'):=by ac_rfl
    _=2*(W'*D):=by rw[e]
    _=D*(2*W'):=by ac_rfl
  ·intro h
   have h1:D*(D'*B)<=D*(2*W'):=Nat.mul_le_mul_left _ h
   refine Nat.le_of_mul_le_mul_left (c:=D') ?_ Qd
   calc D'*(D*B)=D*(D'*B):=by ac_rfl
    _<=D*(2*W'):=h1
    _=2*(W'*D):=by ac_rfl
    _=2*(W*D'):=by rw[e]
    _=D'*(2*W):=by ac_rfl
 by_cases hq:t=infMag
 ·rw[hq,hi.mp hq]
 have hq':¬t'=infMag:=λh=>hq (hi.mpr h)
 have k:=k (by lia)
 have k':=k' (by lia)
 by_cases hv:V t=V t'
 ·have:t=t':=by
   rcases Nat.lt_trichotomy t t' with h|h|h
   ·have:=V_lt h;lia
   ·exact h
   ·have:=V_lt h;lia
  rw[this]
 have a1:=(k t').1
 have a2:=(key (V t') (V t)).mpr (k' t).1
 have eq1:dist W (D*V t)=dist W (D*V t'):=by lia
 have p1:=(k t').2 (λh=>hv h.symm) eq1
 have eq2:dist W' (D'*V t')=dist W' (D'*V t):=by
  have b1:=(key (V t) (V t')).mp a1
  have b2:=(k' t).1
  lia
 have p2:=(k' t).2 (λh=>hv h) eq2
 exfalso
 have mid:∀a b,a<b->a % 2=0->b % 2=0->dist W (D*V a)=dist W (D*V b)->(∀c,dist W (D*V a)<=dist W (D*V c))->False:=λa b h ha hb he hc=>
  KC (Nat.mul_lt_mul_of_pos_left (V_lt (Nat.lt_succ_self a)) hD) (Nat.mul_lt_mul_of_pos_left (V_lt (show a+1<b by lia)) hD) he (hc (a+1))
 rcases Nat.lt_trichotomy t t' with h|h|h
 ·exact mid t t' h p1 p2 eq1 λc=>(k c).1
 ·exact hv (by rw[h])
 ·exact mid t' t h p2 p1 eq1.symm λc=>by rw[<-eq1];exact(k c).1
end
end Q1
end Mine.Internal
end
section
section
set_option exponentiation.threshold 3000
namespace Mine.Internal
namespace Q1
open PySem PySem.Float64
noncomputable def KK:Nat:=2^1034
theorem AB:0<KK:=Nat.two_pow_pos _
theorem Qw:(2:Nat)^1074=KK*2^40:=(Nat.pow_add 2 1034 40)
theorem Qv:(2:Nat)^1086=KK*2^52:=(Nat.pow_add 2 1034 52)
def R(x:UInt64):Rat:=(val x:Rat)/((KK:Rat)*2^40)
def Fn(x:UInt64):Prop:=∃a m e,decode x=.fin a m e
def ab(x:Rat):Rat:=if 0<=x then x else-x
theorem bH{x c:Rat}(h1:x<=c)(h2:-c<=x):ab x<=c:=by unfold ab;split<;>grind
theorem gZ{x c:Rat}(h:ab x<=c):x<=c/\-c<=x:=by
 unfold ab at h
 by_cases k:0<=x
 ·rw[if_pos k]at h;exact⟨h,by grind⟩
 ·rw[if_neg k]at h;exact⟨by grind,by grind⟩
theorem jB:(0:Rat)<(KK:Rat):=by
 have:=AB
 exact_mod_cast this
theorem dh(x:UInt64):R x*((KK:Rat)*2^40)=(val x:Rat):=by
 have h:=jB
 unfold R
 grind
structure Rd(r:UInt64)(w:Rat):Prop where
 fn:Fn r
 near:ab (R r-w)<=1/2^40
 Ci:∀g:Int,w=(g:Rat)/2^40->R r=w
theorem cX(ng:Bool)(W:Nat):((sgn ng W:Int):Rat)=(if ng then-1 else 1)*(W:Rat):=by
 unfold sgn
 cases ng
 ·show((W:Int):Rat)=1*(W:Rat)
  have:((W:Int):Rat)=(W:Rat):=rfl
  grind
 ·show((-(W:Int):Int):Rat)=-1*(W:Rat)
  have:((-(W:Int):Int):Rat)=-((W:Int):Rat):=by norm_cast
  have:((W:Int):Rat)=(W:Rat):=rfl
  grind
theorem N1(a b c:Nat):a*(b*c)=b*(a*c):=by ac_rfl
theorem Jr{g:Int}(h1:g<=4503599627370496)(h2:-4503599627370496<=g):g.natAbs<=2^53:=by lia
theorem iJ{r:UInt64}{ng:Bool}{W D:Nat}{w:Rat}(h:Right r ng W D)(hD:0<D)(hw:w*((D:Rat)*((KK:Rat)*2^40))=((sgn ng W:Int):Rat))(hb:ab w<=4096):Rd r w:=by
 have hK:=jB
 have Vn:(0:Rat)<(D:Rat):=by exact_mod_cast hD
 have Ww:(0:Rat)<(D:Rat)*(KK:Rat):=Rat.mul_pos Vn hK
 have hS:(0:Rat)<(D:Rat)*((KK:Rat)*2^40):=by grind
 have hb:=gZ hb
 have b1:w*((D:Rat)*(KK:Rat))<=4096*((D:Rat)*(KK:Rat)):=Rat.mul_le_mul_of_nonneg_right hb.1 (by grind)
 have b2:-4096*((D:Rat)*(KK:Rat))<=w*((D:Rat)*(KK:Rat)):=Rat.mul_le_mul_of_nonneg_right hb.2 (by grind)
 have e1:w*((D:Rat)*((KK:Rat)*2^40))=w*((D:Rat)*(KK:Rat))*2^40:=by grind
 rw[cX]at hw
 have Vq:(W:Rat)<=(D:Rat)*((KK:Rat)*2^52):=by
  have e2:(D:Rat)*((KK:Rat)*2^52)=(D:Rat)*(KK:Rat)*2^52:=by grind
  rw[e2]
  rw[e1]at hw
  generalize(D:Rat)*(KK:Rat)=dk at *
  cases ng
  ·simp only[Bool.false_eq_true,if_false]at hw;grind
  ·simp only[if_true]at hw;grind
 have Vr:W<=D*2^1086:=by
  rw[Qv]
  exact_mod_cast Vq
 obtain⟨t,rfl,ht,hd,hg⟩:=wN h hD Vr
 have hd:dist W (D*V t)<=D*KK:=hd
 have hR:R (pack ng t)*((KK:Rat)*2^40)=(if ng then-1 else 1)*(V t:Rat):=by rw[dh,val_pack ng ht,cX]
 have Ny:R (pack ng t)*((D:Rat)*((KK:Rat)*2^40))=(if ng then-1 else 1)*((D:Rat)*(V t:Rat)):=by
  have:R (pack ng t)*((D:Rat)*((KK:Rat)*2^40))=(D:Rat)*(R (pack ng t)*((KK:Rat)*2^40)):=by grind
  rw[this,hR];grind
 obtain⟨d1,d2⟩:=zv hd
 have d1:(W:Rat)<=(D:Rat)*(V t:Rat)+(D:Rat)*(KK:Rat):=by exact_mod_cast d1
 have d2:(D:Rat)*(V t:Rat)<=(W:Rat)+(D:Rat)*(KK:Rat):=by exact_mod_cast d2
 have e3:1/2^40*((D:Rat)*((KK:Rat)*2^40))=(D:Rat)*(KK:Rat):=by grind
 have e4:-(1/2^40)*((D:Rat)*((KK:Rat)*2^40))=-((D:Rat)*(KK:Rat)):=by grind
 have e5:(R (pack ng t)-w)*((D:Rat)*((KK:Rat)*2^40))=R (pack ng t)*((D:Rat)*((KK:Rat)*2^40))-w*((D:Rat)*((KK:Rat)*2^40)):=by grind
 refine⟨?_,bH (Rat.le_of_mul_le_mul_right (c:=(D:Rat)*((KK:Rat)*2^40)) ?_ hS) (Rat.le_of_mul_le_mul_right (c:=(D:Rat)*((KK:Rat)*2^40)) ?_ hS),λg e=>?_⟩
 ·obtain⟨m,e,h1,_⟩:=decode_pack ng ht;exact⟨ng,m,e,h1⟩
 ·rw[e3,e5,Ny,hw]
  cases ng
  ·simp only[Bool.false_eq_true,if_false];grind
  ·simp only[if_true];grind
 ·rw[e4,e5,Ny,hw]
  cases ng
  ·simp only[Bool.false_eq_true,if_false];grind
  ·simp only[if_true];grind
 ·have hn:((sgn ng W:Int):Rat)=((g*((D*KK:Nat):Int):Int):Rat):=by
   rw[cX,<-hw,e]
   have:((g*((D*KK:Nat):Int):Int):Rat)=(g:Rat)*((D:Rat)*(KK:Rat)):=by norm_cast
   rw[this];grind
  have hn:sgn ng W=g*((D*KK:Nat):Int):=by exact_mod_cast hn
  have hW:W=g.natAbs*(D*KK):=by
   have:=congrArg Int.natAbs hn
   rw[sgn_natAbs,Int.natAbs_mul,Int.natAbs_natCast]at this
   exact this
  have Vx:g.natAbs<=2^53:=by
   have g1:(g:Rat)<=((4503599627370496:Int):Rat):=by
    have:((4503599627370496:Int):Rat)=2^52:=by decide+kernel
    rw[this];grind
   have g2:((-4503599627370496:Int):Rat)<=(g:Rat):=by
    have:((-4503599627370496:Int):Rat)=-2^52:=by decide+kernel
    rw[this];grind
   have g1:g<=4503599627370496:=Rat.intCast_le_intCast.mp g1
   have g2:-4503599627370496<=g:=Rat.intCast_le_intCast.mp g2
   exact Jr g1 g2
  have hv:V t=g.natAbs*KK:=hg g.natAbs Vx (by rw[hW];exact N1 _ _ _)
  have Rp:D*V t=W:=by rw[hv,hW];ac_rfl
  have Rp:(D:Rat)*(V t:Rat)=(W:Rat):=by exact_mod_cast Rp
  rw[Rp,<-hw]at Ny
  exact Rat.le_antisymm (Rat.le_of_mul_le_mul_right (by rw[Ny];exact Rat.le_refl) hS) (Rat.le_of_mul_le_mul_right (by rw[Ny];exact Rat.le_refl) hS)
section
variable{x y:UInt64}
theorem kr{a:Bool}{m:Nat}{e:Int}(h:decode x=.fin a m e):val x=sgn a (val x).natAbs:=by rw[val_natAbs h,val_eq h]
theorem oz(a b:Bool)(m n:Nat):sgn (a !=b) (m*n)=sgn a m*sgn b n:=by
 unfold sgn
 cases a<;>cases b<;>simp[Int.neg_mul,Int.mul_neg]
theorem kq(i:Int):sgn (decide (i<0)) i.natAbs=i:=by
 unfold sgn
 by_cases h:i<0
 ·rw[eT h];simp;lia
 ·rw[eE h];simp;lia
theorem rG(s:Bool):Rd (zero s) 0:=by
 have h:R (zero s)=0:=by
  have:val (zero s)=0:=by cases s<;>decide+kernel
  unfold R;rw[this];grind
 refine⟨?_,by rw[h];exact bH (by grind) (by grind),λ_ _=>h⟩
 obtain⟨m,e,h,_⟩:=decode_pack s (t:=0) (by decide)
 exact⟨s,m,e,h⟩
theorem mP(w:Rat):w*(((1:Nat):Rat)*((KK:Rat)*2^40))=w*((KK:Rat)*2^40):=by
 have:((1:Nat):Rat)=1:=rfl
 rw[this];grind
theorem AG(hx:Fn x)(hy:Fn y)(hb:ab (R x+R y)<=4096):Rd (add x y) (R x+R y):=by
 obtain⟨a,m,e,hx⟩:=hx
 obtain⟨b,k,f,hy⟩:=hy
 have h:=add_right hx hy
 have hv:(R x+R y)*((KK:Rat)*2^40)=((val x+val y:Int):Rat):=by
  have:((val x+val y:Int):Rat)=(val x:Rat)+(val y:Rat):=by norm_cast
  rw[this,<-dh,<-dh];grind
 by_cases h0:val x+val y=0
 ·rw[h.1 h0]
  rw[h0]at hv
  have hK:=jB
  have:R x+R y=0:=by
   have z:((0:Int):Rat)=0:=rfl
   rw[z]at hv
   grind
  rw[this];exact rG _
 ·exact iJ (h.2 h0) (by decide) (by rw[kq,mP,hv]) hb
theorem Eh(hx:Fn x)(hy:Fn y)(hb:ab (R x-R y)<=4096):Rd (sub x y) (R x-R y):=by
 obtain⟨a,m,e,hx⟩:=hx
 obtain⟨b,k,f,hy⟩:=hy
 have h:=sub_right hx hy
 have hv:(R x-R y)*((KK:Rat)*2^40)=((val x-val y:Int):Rat):=by
  have:((val x-val y:Int):Rat)=(val x:Rat)-(val y:Rat):=by norm_cast
  rw[this,<-dh,<-dh];grind
 by_cases h0:val x-val y=0
 ·rw[h.1 h0]
  rw[h0]at hv
  have hK:=jB
  have:R x-R y=0:=by
   have z:((0:Int):Rat)=0:=rfl
   rw[z]at hv
   grind
  rw[this];exact rG _
 ·exact iJ (h.2 h0) (by decide) (by rw[kq,mP,hv]) hb
theorem E0(n:Nat)(h:n=KK*2^40):(n:Rat)=(KK:Rat)*2^40:=by
 subst h
 rw[Rat.natCast_mul];rfl
theorem iu:((2^1074:Nat):Rat)=(KK:Rat)*2^40:=E0 _ Qw
theorem C9(hx:Fn x)(hy:Fn y)(hb:ab (R x*R y)<=4096):Rd (mul x y) (R x*R y):=by
 obtain⟨a,m,e,hx⟩:=hx
 obtain⟨b,k,f,hy⟩:=hy
 refine iJ (mul_right hx hy) (Nat.two_pow_pos _) ?_ hb
 rw[oz,<-kr hx,<-kr hy,iu]
 have:((val x*val y:Int):Rat)=(val x:Rat)*(val y:Rat):=by norm_cast
 rw[this,<-dh,<-dh];grind
theorem pq(hx:Fn x)(hy:Fn y)(h0:R y≠0)(hb:ab (R x/R y)<=4096):Rd (div x y) (R x/R y):=by
 obtain⟨a,m,e,hx⟩:=hx
 obtain⟨b,k,f,hy⟩:=hy
 have hK:=jB
 have TS:val y≠0:=λq=>h0 (by unfold R;rw[q];have z:((0:Int):Rat)=0:=rfl;rw[z];grind)
 have hk:k≠0:=λq=>TS (by rw[val_eq hy,q,Nat.zero_mul];cases b<;>rfl)
 refine iJ (div_right hx hy hk) (Int.natAbs_pos.mpr TS) ?_ hb
 have e1:((sgn (a !=b) ((val x).natAbs*2^1074):Int):Rat)=(val x:Rat)*((if b then-1 else 1)*((KK:Rat)*2^40)):=by
  rw[oz,<-kr hx,<-iu,<-cX]
  exact Rat.intCast_mul _ _
 have e2:R y*((KK:Rat)*2^40)=(if b then-1 else 1)*((val y).natAbs:Rat):=by rw[<-cX,<-kr hy,dh]
 rw[e1,<-dh x]
 have e3:((val y).natAbs:Rat)=(if b then-1 else 1)*(R y*((KK:Rat)*2^40)):=by rw[e2];cases b<;>simp<;>grind
 rw[e3]
 generalize(if b then(-1:Rat)else 1)=sb
 grind
end
end Q1
end Mine.Internal
end
section
set_option exponentiation.threshold 3000
namespace Mine.Internal
namespace Q1
open PySem PySem.Float64
section
variable{x y:UInt64}
theorem E6:R x<R y↔val x<val y:=by
 have hK:=jB
 have hS:(0:Rat)<(KK:Rat)*2^40:=by grind
 have h1:=dh x
 have h2:=dh y
 constructor
 ·intro h
  have:=(Rat.mul_lt_mul_right hS).mpr h
  rw[h1,h2]at this
  exact Rat.intCast_lt_intCast.mp this
 ·intro h
  have:=lW h
  rw[<-h1,<-h2]at this
  exact(Rat.mul_lt_mul_right hS).mp this
theorem Mn:R x=R y↔val x=val y:=by
 constructor
 ·intro h
  have:(val x:Rat)=(val y:Rat):=by rw[<-dh,<-dh,h]
  exact_mod_cast this
 ·intro h;unfold R;rw[h]
theorem mq(hx:Fn x)(hy:Fn y):(cmp x y==some .lt)=decide (R x<R y):=by
 obtain⟨a,m,e,hx⟩:=hx
 obtain⟨b,k,f,hy⟩:=hy
 rw[cmp_right hx hy]
 by_cases h:R x<R y
 ·rw[eT h,Int.compare_eq_lt.mpr (E6.mp h)];rfl
 ·rw[eE h]
  have:¬val x<val y:=λq=>h (E6.mpr q)
  rcases Int.lt_trichotomy (val x) (val y)with q|q|q
  ·exact absurd q this
  ·rw[q];simp
  ·rw[Int.compare_eq_gt.mpr q];rfl
theorem Np(hx:Fn x)(hy:Fn y):(cmp x y==some .gt)=decide (R y<R x):=by
 obtain⟨a,m,e,hx⟩:=hx
 obtain⟨b,k,f,hy⟩:=hy
 rw[cmp_right hx hy]
 by_cases h:R y<R x
 ·rw[eT h,Int.compare_eq_gt.mpr (E6.mp h)];rfl
 ·rw[eE h]
  have:¬val y<val x:=λq=>h (E6.mpr q)
  rcases Int.lt_trichotomy (val x) (val y)with q|q|q
  ·rw[Int.compare_eq_lt.mpr q];rfl
  ·rw[q];simp
  ·exact absurd q this
theorem sR(hx:Fn x)(hy:Fn y):(cmp x y==some .eq)=decide (R x=R y):=by
 obtain⟨a,m,e,hx⟩:=hx
 obtain⟨b,k,f,hy⟩:=hy
 rw[cmp_right hx hy]
 by_cases h:R x=R y
 ·rw[eT h,Mn.mp h];simp
 ·rw[eE h]
  have:¬val x=val y:=λq=>h (Mn.mpr q)
  rcases Int.lt_trichotomy (val x) (val y)with q|q|q
  ·rw[Int.compare_eq_lt.mpr q];rfl
  ·exact absurd q this
  ·rw[Int.compare_eq_gt.mpr q];rfl
theorem kQ{a b:Int}(hb:b≠0)(h:ab ((a:Rat)/(b:Rat))<=4096):Rd (ofFrac (decide (a<0) !=decide (b<0)) a.natAbs b.natAbs) ((a:Rat)/(b:Rat)):=by
 have hb':=Int.natAbs_pos.mpr hb
 refine iJ (ofFrac_right (W:=a.natAbs*2^1074) (D:=b.natAbs) hb' rfl hb') hb' ?_ h
 rw[oz,kq]
 have e0:((a*sgn (decide (b<0)) (2^1074):Int):Rat)=(a:Rat)*((if decide (b<0)then-1 else 1)*((KK:Rat)*2^40)):=by
  rw[<-iu,<-cX]
  exact Rat.intCast_mul _ _
 rw[e0]
 have e1:(b:Rat)=(if decide (b<0)then-1 else 1)*(b.natAbs:Rat):=by rw[<-cX,kq]
 have hb':(b:Rat)≠0:=λq=>hb (by exact_mod_cast q)
 revert e1
 generalize(b.natAbs:Rat)=bn
 cases decide (b<0)
 ·simp only[Bool.false_eq_true,if_false];intro e1;grind
 ·simp only[if_true];intro e1;grind
theorem CM{i:Int}(h:-4096<=i/\i<=4096):Fn (ofInt i)/\R (ofInt i)=(i:Rat):=by
 have h1:(i:Rat)<=4096:=fK h.2
 have h2:(-4096:Rat)<=(i:Rat):=fK h.1
 have q:Rd (ofInt i) (i:Rat):=by
  refine iJ (ofInt_right i) (by decide) ?_ (bH h1 h2)
  have e0:((sgn (decide (i<0)) (i.natAbs*2^1074):Int):Rat)=(i:Rat)*((KK:Rat)*2^40):=by
   rw[sgn_mul,kq,<-iu]
   exact Rat.intCast_mul _ _
  rw[e0,mP]
 refine⟨q.fn,q.Ci (i*2^40) ?_⟩
 have:((i*2^40:Int):Rat)=(i:Rat)*((2^40:Int):Rat):=Rat.intCast_mul _ _
 have e:((2^40:Int):Rat)=2^40:=by decide+kernel
 rw[this,e];grind
end
end Q1
end Mine.Internal
end
section
set_option exponentiation.threshold 3000
namespace Mine.Internal
namespace Q1
open PySem PySem.Float64
section
variable{x y:UInt64}
theorem ofBin_right{ng:Bool}{m:Nat}{e:Int}(he:-1074<=e):Right (ofBin ng m e) ng (m*2^(e+1074).toNat) 1:=by
 unfold ofBin
 refine ofFrac_right (shift_pos _ _ _ (by decide)) ?_ (by decide)
 have:=shift_one m e 1074 (by lia)
 rw[Nat.mul_one]
 exact this
theorem toNat_add{e m:Int}(h1:m<=e)(h2:-1074<=m):(e+1074).toNat=(e-m).toNat+(m+1074).toNat:=by
 rw[<-Int.toNat_add (Int.sub_nonneg_of_le h1) (by lia),<-Int.add_assoc,Int.sub_add_cancel]
theorem nL{a b:Bool}{m k:Nat}{e f:Int}(hx:decode x=.fin a m e)(hy:decode y=.fin b k f)(hk:k≠0):Right (fmod x y) a ((val x).natAbs % (val y).natAbs) 1:=by
 have he:=decode_ge hx
 have hf:=decode_ge hy
 have hq:fmod x y=ofBin a ((m*2^(e-min e f).toNat) % (k*2^(f-min e f).toNat)) (min e f):=by
  unfold fmod
  rw[hx,hy]
  simp only
  rw[if_neg (by simpa using hk)]
  rfl
 rw[hq,val_natAbs hx,val_natAbs hy]
 have hm:=Int.le_min.mpr ⟨he,hf⟩
 rw[toNat_add (Int.min_le_left e f) hm,toNat_add (Int.min_le_right e f) hm,Nat.pow_add,Nat.pow_add,<-Nat.mul_assoc,<-Nat.mul_assoc,Nat.mul_mod_mul_right]
 exact ofBin_right hm
theorem mQ:val one=((2^1074:Nat):Int):=by
 have h:val (pack false (1023*2^52))=sgn false (V (1023*2^52)):=val_pack false (by decide)
 have h2:V (1023*2^52)=2^52*2^1022:=V_at (k:=1022) (q:=2^52) (by decide) (.inl (Nat.le_refl _))
 rw[show one=pack false (1023*2^52)from rfl,h,h2,<-Nat.pow_add]
 rfl
theorem wG:Fn one:=by
 obtain⟨m,e,h,_⟩:=decode_pack false (t:=1023*2^52) (by decide)
 exact⟨_,m,e,h⟩
theorem Gr(n:Nat):(((n:Nat):Int):Rat)=(n:Rat):=rfl
theorem I0:R one=1:=by
 have h:=dh one
 have hK:=jB
 rw[mQ,Gr,iu]at h
 grind
theorem fmod_one(hx:Fn x):∃n:Int,Rd (fmod x one) (R x-(n:Rat))/\ab (R x-(n:Rat))<=1:=by
 have hK:=jB
 have hS:(0:Rat)<(KK:Rat)*2^40:=by grind
 obtain⟨a,m,e,hx⟩:=hx
 obtain⟨b,k,f,hy⟩:=wG
 have hk:k≠0:=λq=>by
  have h1:=mQ
  rw[val_eq hy,q,Nat.zero_mul]at h1
  have h2:sgn b 0=0:=by cases b<;>rfl
  rw[h2]at h1
  have:=Nat.two_pow_pos 1074
  revert h1 this
  generalize(2:Nat)^1074=T
  intro h1 h2
  lia
 have h:=nL hx hy hk
 rw[mQ,Int.natAbs_natCast]at h
 have hv:=kr hx
 have hR:=dh x
 revert h hv
 generalize hT:(2:Nat)^1074=T
 generalize(val x).natAbs=A at *
 intro h hv
 have J6:(T:Rat)=(KK:Rat)*2^40:=by rw[<-hT];exact iu
 have Rt:0<T:=by rw[<-hT];exact Nat.two_pow_pos _
 have NB:=Nat.div_add_mod A T
 have hlt:=Nat.mod_lt A Rt
 have dm:(T:Rat)*((A/T:Nat):Rat)+((A % T:Nat):Rat)=(A:Rat):=by
  rw[<-Rat.natCast_mul,<-Rat.natCast_add,NB]
 have lt':((A % T:Nat):Rat)<=(T:Rat):=by exact_mod_cast Nat.le_of_lt hlt
 have Vb:(0:Rat)<=((A % T:Nat):Rat):=by exact_mod_cast Nat.zero_le _
 rw[hv,cX]at hR
 have hw:(R x-((sgn a (A/T):Int):Rat))*(T:Rat)=(if a then-1 else 1)*((A % T:Nat):Rat):=by
  rw[cX]
  have:(R x-(if a then-1 else 1)*((A/T:Nat):Rat))*(T:Rat)=R x*(T:Rat)-(if a then-1 else 1)*((T:Rat)*((A/T:Nat):Rat)):=by grind
  rw[this,J6,hR,<-J6,<-dm];grind
 have IE:(0:Rat)<(T:Rat):=by rw[J6];exact hS
 have hab:ab (R x-((sgn a (A/T):Int):Rat))<=1:=by
  refine bH (Rat.le_of_mul_le_mul_right (c:=(T:Rat)) ?_ IE) (Rat.le_of_mul_le_mul_right (c:=(T:Rat)) ?_ IE)
  ·rw[hw];cases a
   ·simp only[Bool.false_eq_true,if_false];grind
   ·simp only[if_true];grind
  ·rw[hw];cases a
   ·simp only[Bool.false_eq_true,if_false];grind
   ·simp only[if_true];grind
 refine⟨sgn a (A/T),iJ h (by decide) ?_ (by have:=gZ hab;exact bH (by grind) (by grind)),hab⟩
 rw[mP,<-J6,hw,cX]
theorem lJ(s:Bool):Fn (zero s)/\R (zero s)=0:=by
 have q:=rG s
 exact⟨q.fn,q.Ci 0 (by have:((0:Int):Rat)=0:=rfl;rw[this];grind)⟩
theorem tP(hx:Fn x)(h:isZero x=true):R x=0:=by
 obtain⟨a,m,e,hx⟩:=hx
 have hm:m=0:=by
  unfold isZero at h
  rw[hx]at h
  cases m with
  |zero=>rfl
  |succ n=>exact nomatch h
 have:val x=0:=by rw[val_eq hx,hm,Nat.zero_mul];cases a<;>rfl
 unfold R;rw[this]
 have z:((0:Int):Rat)=0:=rfl
 rw[z];grind
theorem yu(x:UInt64):(divmod x one).2=if isZero (fmod x one)then zero false else if lt (fmod x one) (zero false)then add (fmod x one) one else fmod x one:=by
 unfold divmod
 simp only
 have e1:copysign (zero false) one=zero false:=by decide+kernel
 have e2:lt one (zero false)=false:=by decide+kernel
 rw[e1,e2]
 by_cases h1:isZero (fmod x one)=true
 ·rw[if_pos h1,if_pos h1]
 ·rw[if_neg h1,if_neg h1]
  cases h2:lt (fmod x one) (zero false)with
  |true=>rfl
  |false=>rfl
theorem KH(hx:Fn x):∃n:Int,Fn (divmod x one).2/\ab (R (divmod x one).2-(R x-(n:Rat)))<=1/2^38/\-1/2^38<=R (divmod x one).2/\R (divmod x one).2<=1+1/2^38:=by
 obtain⟨n,h,hb⟩:=fmod_one hx
 have hn:=gZ h.near
 have hb:=gZ hb
 rw[yu]
 by_cases h1:isZero (fmod x one)=true
 ·rw[if_pos h1]
  have hz:=tP h.fn h1
  have z:=lJ false
  exact⟨n,z.1,by rw[z.2];exact bH (by grind) (by grind),by rw[z.2];grind,by rw[z.2];grind⟩
 ·rw[if_neg h1]
  have hl:lt (fmod x one) (zero false)=decide (R (fmod x one)<R (zero false)):=mq h.fn (lJ false).1
  rw[(lJ false).2]at hl
  by_cases h2:R (fmod x one)<0
  ·rw[hl,eT h2,if_pos rfl]
   have hh:=AG h.fn wG (by rw[I0];exact bH (by grind) (by grind))
   rw[I0]at hh
   have hq:=gZ hh.near
   refine⟨n-1,hh.fn,bH ?_ ?_,?_,?_⟩
   ·have:((n-1:Int):Rat)=(n:Rat)-1:=by rw[Rat.intCast_sub];rfl
    rw[this];grind
   ·have:((n-1:Int):Rat)=(n:Rat)-1:=by rw[Rat.intCast_sub];rfl
    rw[this];grind
   ·grind
   ·grind
  ·rw[hl,eE h2,if_neg (by decide)]
   exact⟨n,h.fn,bH (by grind) (by grind),by grind,by grind⟩
theorem pD{m:Nat}{e:Int}(he:-1074<=e):floorOf false m e=((m*2^(e+1074).toNat/2^1074:Nat):Int):=by
 have h0:∀n:Nat,sgn false n=(n:Int):=λ_=>rfl
 have h2:(2:Int)=((2:Nat):Int):=rfl
 unfold floorOf
 split
 ·rename_i h
  have e1:(e+1074).toNat=e.toNat+1074:=Int.toNat_add h (by decide)
  rw[e1,Nat.pow_add,<-Nat.mul_assoc,Nat.mul_div_cancel _ (Nat.two_pow_pos _),h0,h2,<-Int.natCast_pow,<-Int.natCast_mul]
 ·rename_i h
  have e1:1074=(e+1074).toNat+(-e).toNat:=by
   rw[<-Int.toNat_add (by lia) (by lia),Int.add_comm e,Int.add_neg_cancel_right];rfl
  have e2:(2:Nat)^1074=2^(e+1074).toNat*2^(-e).toNat:=by rw[<-Nat.pow_add,<-e1]
  rw[e2,Nat.mul_comm m,Nat.mul_div_mul_left _ _ (Nat.two_pow_pos _),h0,h2,<-Int.natCast_pow,Int.fdiv_eq_ediv_of_nonneg _ (Int.natCast_nonneg _)]
  rfl
theorem Af{a:Bool}{m:Nat}{e:Int}(he:-1074<=e):truncOf a m e=sgn a (m*2^(e+1074).toNat/2^1074):=by
 unfold truncOf ceilOf
 cases a
 ·exact pD he
 ·simp only[if_true,Bool.not_true]
  rw[pD he];rfl
theorem yR(hx:Fn x):∃i:Int,(∃a m e,decode x=.fin a m e/\truncOf a m e=i)/\(0<=R x->(i:Rat)<=R x/\R x<(i:Rat)+1)/\(R x<=0->(i:Rat)-1<R x/\R x<=(i:Rat)):=by
 have hK:=jB
 have hS:(0:Rat)<(KK:Rat)*2^40:=by grind
 have hR:=dh x
 obtain⟨a,m,e,hx⟩:=hx
 have he:=decode_ge hx
 refine⟨_,⟨a,m,e,hx,rfl⟩,?_⟩
 rw[Af he]
 rw[val_eq hx,cX]at hR
 rw[cX]
 revert hR
 generalize m*2^(e+1074).toNat=A
 generalize hT:(2:Nat)^1074=T
 intro hR
 have J6:(T:Rat)=(KK:Rat)*2^40:=by rw[<-hT];exact iu
 have Rt:0<T:=by rw[<-hT];exact Nat.two_pow_pos _
 have IE:(0:Rat)<(T:Rat):=by rw[J6];exact hS
 have NB:=Nat.div_add_mod A T
 have hlt:=Nat.mod_lt A Rt
 have dm:(T:Rat)*((A/T:Nat):Rat)+((A % T:Nat):Rat)=(A:Rat):=by
  rw[<-Rat.natCast_mul,<-Rat.natCast_add,NB]
 have lt':((A % T:Nat):Rat)<(T:Rat):=by exact_mod_cast hlt
 have Vb:(0:Rat)<=((A % T:Nat):Rat):=by exact_mod_cast Nat.zero_le _
 have Va:(0:Rat)<=((A/T:Nat):Rat):=by exact_mod_cast Nat.zero_le _
 have gA:(0:Rat)<=(A:Rat):=by exact_mod_cast Nat.zero_le _
 rw[<-J6,<-dm]at hR
 generalize((A/T:Nat):Rat)=d at *
 generalize((A % T:Nat):Rat)=q at *
 generalize(T:Rat)=t at *
 have key:0<=d*t:=Rat.mul_nonneg Va (Rat.le_of_lt IE)
 cases a
 ·simp only[Bool.false_eq_true,if_false]at hR⊢
  have e1:(R x-d)*t=q:=by grind
  have u1:0<=R x-d:=Rat.le_of_mul_le_mul_right (c:=t) (by rw[e1];grind) IE
  have u2:R x-d<1:=(Rat.mul_lt_mul_right IE).mp (by rw[e1];grind)
  exact⟨λ_=>⟨by grind,by grind⟩,λh=>⟨by grind,by grind⟩⟩
 ·simp only[if_true]at hR⊢
  have e1:(-R x-d)*t=q:=by grind
  have u1:0<=-R x-d:=Rat.le_of_mul_le_mul_right (c:=t) (by rw[e1];grind) IE
  have u2:-R x-d<1:=(Rat.mul_lt_mul_right IE).mp (by rw[e1];grind)
  exact⟨λh=>⟨by grind,by grind⟩,λh=>⟨by grind,by grind⟩⟩
end
end Q1
end Mine.Internal
end
end
section
namespace Mine.Internal
namespace Q1
section
open PySem PySem.Float64
structure Nr(x:UInt64)(w e:Rat):Prop where
 fn:Fn x
 lo:-e<=R x-w
 hi:R x-w<=e
structure Ex(x:UInt64)(w:Rat):Prop where
 fn:Fn x
 eq:R x=w
section
variable{x y:UInt64}{p q e f:Rat}
theorem Ex.nr(h:Ex x p):Nr x p 0:=⟨h.fn,by rw[h.eq];grind,by rw[h.eq];grind⟩
theorem Nr.weak(h:Nr x p e)(hf:e<=f):Nr x p f:=⟨h.fn,by have:=h.lo;grind,by have:=h.hi;grind⟩
theorem Rd.nr(h:Rd x p):Nr x p (1/2^40):=by
 have:=gZ h.near
 exact⟨h.fn,by grind,by grind⟩
theorem Rd.ex(h:Rd x p)(g:Int)(e:p=(g:Rat)/2^40):Ex x p:=⟨h.fn,h.Ci g e⟩
theorem Nr.add(hx:Nr x p e)(hy:Nr y q f)(b1:-4000<=p+q)(b2:p+q<=4000)(be:e+f<=1):Nr (add x y) (p+q) (e+f+1/2^40):=by
 obtain⟨h1,h2,h3⟩:=hx
 obtain⟨h4,h5,h6⟩:=hy
 have h:=AG h1 h4 (bH (by grind) (by grind))
 have n:=gZ h.near
 exact⟨h.fn,by grind,by grind⟩
theorem Nr.sub(hx:Nr x p e)(hy:Nr y q f)(b1:-4000<=p-q)(b2:p-q<=4000)(be:e+f<=1):Nr (sub x y) (p-q) (e+f+1/2^40):=by
 obtain⟨h1,h2,h3⟩:=hx
 obtain⟨h4,h5,h6⟩:=hy
 have h:=Eh h1 h4 (bH (by grind) (by grind))
 have n:=gZ h.near
 exact⟨h.fn,by grind,by grind⟩
theorem fB{a b c d:Rat}(h1:a<=c)(h2:b<=d)(ha:0<=a)(hb:0<=b):a*b<=c*d:=by
 have x1:=Rat.mul_le_mul_of_nonneg_right h1 hb
 have x2:=Rat.mul_le_mul_of_nonneg_left h2 (Rat.le_trans ha h1)
 exact Rat.le_trans x1 x2
theorem jv{a b c d:Rat}(a1:-c<=a)(a2:a<=c)(b1:-d<=b)(b2:b<=d):-(c*d)<=a*b/\a*b<=c*d:=by
 have hc:0<=c:=by grind
 have hd:0<=d:=by grind
 by_cases ha:0<=a<;>by_cases hb:0<=b
 ·have h1:=fB a2 b2 ha hb
  have h2:=Rat.mul_nonneg ha hb
  have h3:=Rat.mul_nonneg hc hd
  grind
 ·have h1:=fB (a:=a) (b:=-b) (c:=c) (d:=d) a2 (by grind) ha (by grind)
  have h2:=Rat.mul_nonneg (a:=a) (b:=-b) ha (by grind)
  have h3:=Rat.mul_nonneg hc hd
  grind
 ·have h1:=fB (a:=-a) (b:=b) (c:=c) (d:=d) (by grind) b2 (by grind) hb
  have h2:=Rat.mul_nonneg (a:=-a) (b:=b) (by grind) hb
  have h3:=Rat.mul_nonneg hc hd
  grind
 ·have h1:=fB (a:=-a) (b:=-b) (c:=c) (d:=d) (by grind) (by grind) (by grind) (by grind)
  have h2:=Rat.mul_nonneg (a:=-a) (b:=-b) (by grind) (by grind)
  have h3:=Rat.mul_nonneg hc hd
  grind
theorem Nr.mul{P Q:Rat}(hx:Nr x p e)(hy:Nr y q f)(a1:-P<=p)(a2:p<=P)(b1:-Q<=q)(b2:q<=Q)(hb:P*Q+(P*f+Q*e+e*f)<=4096):Nr (mul x y) (p*q) (P*f+Q*e+e*f+1/2^40):=by
 obtain⟨h1,h2,h3⟩:=hx
 obtain⟨h4,h5,h6⟩:=hy
 have m0:=jv a1 a2 b1 b2
 have m1:=jv a1 a2 h5 h6
 have m2:=jv b1 b2 h2 h3
 have m3:=jv h2 h3 h5 h6
 have e1:R x*R y=p*q+(p*(R y-q)+q*(R x-p)+(R x-p)*(R y-q)):=by grind
 have h:=C9 h1 h4 (bH (by rw[e1];grind) (by rw[e1];grind))
 have n:=gZ h.near
 rw[e1]at n
 exact⟨h.fn,by grind,by grind⟩
theorem pJ(hx:Fn x)(h:R x=0):isZero x=true:=by
 have hv:=dh x
 rw[h]at hv
 have hv:((val x:Int):Rat)=((0:Int):Rat):=by
  have z:((0:Int):Rat)=0:=rfl
  rw[<-hv,z];decide+kernel
 have hv:val x=0:=by exact_mod_cast hv
 obtain⟨a,m,e,hx⟩:=hx
 have:m*2^(e+1074).toNat=0:=by rw[<-val_natAbs hx,hv];rfl
 have hm:m=0:=by
  rcases Nat.mul_eq_zero.mp this with h|h
  ·exact h
  ·exact absurd h (Nat.ne_of_gt (Nat.two_pow_pos _))
 unfold isZero
 rw[hx,hm]
 rfl
theorem v8(hx:Fn x):isZero x=decide (R x=0):=by
 by_cases h:R x=0
 ·rw[eT h];exact pJ hx h
 ·rw[eE h]
  cases c:isZero x with
  |true=>exact absurd (tP hx c) h
  |false=>rfl
theorem GQ:∃b k f,decode one=.fin b k f/\k≠0:=by
 obtain⟨b,k,f,hy⟩:=wG
 refine⟨b,k,f,hy,λq=>?_⟩
 have h1:=mQ
 rw[val_eq hy,q,Nat.zero_mul]at h1
 have h2:sgn b 0=0:=by cases b<;>rfl
 rw[h2]at h1
 have:=Nat.two_pow_pos 1074
 revert h1 this
 generalize(2:Nat)^1074=T
 intro h1 h2
 lia
theorem zO(hx:Fn x)(h:R x=0):Ex (divmod x one).2 0:=by
 have hv:=dh x
 rw[h]at hv
 have hv:((val x:Int):Rat)=((0:Int):Rat):=by
  have z:((0:Int):Rat)=0:=rfl
  rw[<-hv,z];decide+kernel
 have hv:val x=0:=by exact_mod_cast hv
 obtain⟨b,k,f,hy,hk⟩:=GQ
 obtain⟨a,m,e,hx⟩:=hx
 have hr:=nL hx hy hk
 rw[hv,Int.natAbs_zero,Nat.zero_mod]at hr
 have hr:Rd (fmod x one) 0:=iJ hr (by decide) (by
  have:((sgn a 0:Int):Rat)=0:=by cases a<;>rfl
  rw[this];decide+kernel) (bH (by decide+kernel) (by decide+kernel))
 have h0:R (fmod x one)=0:=hr.Ci 0 (by have z:((0:Int):Rat)=0:=rfl;rw[z];decide+kernel)
 rw[yu,if_pos (pJ hr.fn h0)]
 exact⟨(lJ false).1,(lJ false).2⟩
theorem ly(hx:Nr x p e):∃n:Int,Nr (divmod x one).2 (p-(n:Rat)) (e+1/2^38)/\-1/2^38<=R (divmod x one).2/\R (divmod x one).2<=1+1/2^38:=by
 obtain⟨n,h1,h2,h3⟩:=KH hx.fn
 have h2:=gZ h2
 have:=hx.lo
 have:=hx.hi
 exact⟨n,⟨h1,by grind,by grind⟩,h3⟩
end
end
section
open PySem PySem.Float64
theorem bK(a b:Int):((a-b:Int):Rat)=(a:Rat)-(b:Rat):=Rat.intCast_sub _ _
theorem kL(a:Int):(a:Rat)/1024=((a*1073741824:Int):Rat)/2^40:=by
 have e:((a*1073741824:Int):Rat)=(a:Rat)*((1073741824:Int):Rat):=Rat.intCast_mul _ _
 have e2:((1073741824:Int):Rat)=1073741824:=rfl
 rw[e,e2];grind
theorem dW{u v:Rat}(h0:0<=u)(h1:u<=v)(hv:0<v):0<=u/v/\u/v<=1:=by
 have e:u/v*v=u:=by
  have:v≠0:=by grind
  grind
 constructor
 ·exact Rat.le_of_mul_le_mul_right (c:=v) (by rw[e,Rat.zero_mul];exact h0) hv
 ·exact Rat.le_of_mul_le_mul_right (c:=v) (by rw[e,Rat.one_mul];exact h1) hv
theorem sN{x y u v:Rat}(hx:x=u/1024)(hy:y=v/1024)(hv:0<v):x/y=u/v:=by
 subst hx hy
 have:v≠0:=by grind
 grind
theorem dO{i:Int}(h:-4096<=i/\i<=4096):Ex (ofInt i) (i:Rat):=⟨(CM h).1,(CM h).2⟩
section
variable{M x m:UInt64}{hi a lo:Int}
theorem fZ(hM:Ex M ((hi:Rat)/1024))(hx:Ex x ((a:Rat)/1024))(h1:-4000<=hi-a)(h2:hi-a<=4000):Ex (sub M x) (((hi-a:Int):Rat)/1024):=by
 have e:R M-R x=((hi-a:Int):Rat)/1024:=by rw[hM.eq,hx.eq,bK];grind
 have b1:((hi-a:Int):Rat)<=((4000:Int):Rat):=fK h2
 have b2:((-4000:Int):Rat)<=((hi-a:Int):Rat):=fK h1
 have c1:((4000:Int):Rat)=4000:=rfl
 have c2:((-4000:Int):Rat)=-4000:=rfl
 rw[c1]at b1
 rw[c2]at b2
 have h:=Eh hM.fn hx.fn (bH (by rw[e];grind) (by rw[e];grind))
 rw[e]at h
 exact h.ex _ (kL _)
theorem ratio(hM:Ex M ((hi:Rat)/1024))(hx:Ex x ((a:Rat)/1024))(hm:Ex m ((lo:Rat)/1024))(h:0<=lo/\lo<=a/\a<=hi/\hi<=1024/\lo<hi):Rd (div (sub M x) (sub M m)) (((hi-a:Int):Rat)/((hi-lo:Int):Rat)):=by
 have h1:=fZ hM hx (by lia) (by lia)
 have h2:=fZ hM hm (by lia) (by lia)
 have d1:((1:Int):Rat)<=((hi-lo:Int):Rat):=fK (by lia)
 have d2:((hi-a:Int):Rat)<=((hi-lo:Int):Rat):=fK (by lia)
 have d3:((0:Int):Rat)<=((hi-a:Int):Rat):=fK (by lia)
 have z0:((0:Int):Rat)=0:=rfl
 have z1:((1:Int):Rat)=1:=rfl
 rw[z0]at d3
 rw[z1]at d1
 have hp:(0:Rat)<((hi-lo:Int):Rat):=by grind
 have e:=sN h1.eq h2.eq hp
 have u:=dW d3 d2 hp
 have k:=pq h1.fn h2.fn (by rw[h2.eq];intro q;grind) (by rw[e];exact bH (Rat.le_trans u.2 (by decide+kernel)) (Rat.le_trans (by decide+kernel) u.1))
 rw[e]at k
 exact k
theorem I9{h:UInt64}{w e:Rat}{six:UInt64}(h6:Ex six 6)(hw:Nr h w e)(he:e<=1/2^36)(w1:1/1024<=w)(w2:w<=5):Nr (divmod (div h six) one).2 (w/6) (1/2^34):=by
 obtain⟨h1,h2,h3⟩:=hw
 have hd:=pq h1 h6.fn (by rw[h6.eq];decide+kernel) (by rw[h6.eq];exact bH (by grind) (by grind))
 rw[h6.eq]at hd
 have n:=gZ hd.near
 have hn:Nr (div h six) (w/6) (1/2^36):=⟨hd.fn,by grind,by grind⟩
 obtain⟨n,k1,k2,k3⟩:=ly hn
 have k4:=k1.lo
 have k5:=k1.hi
 have n1:(n:Rat)<((1:Int):Rat):=by have:((1:Int):Rat)=1:=rfl;rw[this];grind
 have n2:((-1:Int):Rat)<(n:Rat):=by have:((-1:Int):Rat)=-1:=rfl;rw[this];grind
 have n1:=Rat.intCast_lt_intCast.mp n1
 have n2:=Rat.intCast_lt_intCast.mp n2
 obtain rfl:n=0:=by lia
 have z0:((0:Int):Rat)=0:=rfl
 rw[z0]at k4 k5
 exact⟨k1.fn,by grind,by grind⟩
theorem z8{h:UInt64}{w e:Rat}{six:UInt64}(h6:Ex six 6)(hw:Nr h w e)(he:e<=1/2^36)(w1:-1<=w)(w2:w<=-1/1024):Nr (divmod (div h six) one).2 (w/6+1) (1/2^34):=by
 obtain⟨h1,h2,h3⟩:=hw
 have hd:=pq h1 h6.fn (by rw[h6.eq];decide+kernel) (by rw[h6.eq];exact bH (by grind) (by grind))
 rw[h6.eq]at hd
 have n:=gZ hd.near
 have hn:Nr (div h six) (w/6) (1/2^36):=⟨hd.fn,by grind,by grind⟩
 obtain⟨n,k1,k2,k3⟩:=ly hn
 have k4:=k1.lo
 have k5:=k1.hi
 have n1:(n:Rat)<((0:Int):Rat):=by have:((0:Int):Rat)=0:=rfl;rw[this];grind
 have n2:((-2:Int):Rat)<(n:Rat):=by have:((-2:Int):Rat)=-2:=rfl;rw[this];grind
 have n1:=Rat.intCast_lt_intCast.mp n1
 have n2:=Rat.intCast_lt_intCast.mp n2
 obtain rfl:n=-1:=by lia
 have z0:((-1:Int):Rat)=-1:=rfl
 rw[z0]at k4 k5
 exact⟨k1.fn,by grind,by grind⟩
theorem wW{h:UInt64}{six:UInt64}(h6:Ex six 6)(hw:Ex h 0):Ex (divmod (div h six) one).2 0:=by
 have hd:=pq hw.fn h6.fn (by rw[h6.eq];decide+kernel) (by rw[h6.eq,hw.eq];exact bH (by decide+kernel) (by decide+kernel))
 have h0:R (div h six)=0:=by
  have e:R h/R six=0:=by rw[h6.eq,hw.eq];decide+kernel
  rw[hd.Ci 0 (by rw[e];have z0:((0:Int):Rat)=0:=rfl;rw[z0];decide+kernel),e]
 exact zO hd.fn h0
end
end
section
open PySem PySem.Float64
noncomputable def aR(a b c hi lo:Int):Int:=if a=hi then(if c<=b then b-c else 6*(hi-lo)+(b-c))else if b=hi then 2*(hi-lo)+(c-a)else 4*(hi-lo)+(a-b)
noncomputable def gQ(r g b M m:UInt64):UInt64:=
 (divmod (div (bif cmp r M==some .eq then sub (div (sub M b) (sub M m)) (div (sub M g) (sub M m))else bif cmp g M==some .eq then sub (add (ofInt 2) (div (sub M r) (sub M m))) (div (sub M b) (sub M m))else sub (add (ofInt 4) (div (sub M g) (sub M m))) (div (sub M r) (sub M m))) (ofInt 6)) one).2
structure cI(a b c hi lo:Int):Prop where
 l0:0<=lo
 la:lo<=a
 lb:lo<=b
 lc:lo<=c
 ha:a<=hi
 hb:b<=hi
 hc:c<=hi
 h1:hi<=1024
 lt:lo<hi
 top:a=hi\/b=hi\/c=hi
 bot:a=lo\/b=lo\/c=lo
section
variable{r g b M m x y:UInt64}{a a' Wq hi lo p q:Int}
theorem gK(hx:Ex x ((p:Rat)/1024))(hy:Ex y ((q:Rat)/1024)):(cmp x y==some .eq)=decide (p=q):=by
 rw[sR hx.fn hy.fn,hx.eq,hy.eq]
 by_cases h:p=q
 ·subst h;rw[eT rfl,eT rfl]
 ·rw[eE h,eE λe=>h ?_]
  have:(p:Rat)=(q:Rat):=by grind
  exact_mod_cast this
theorem nh{u v k:Int}(hv:0<v)(hk:0<k):((u:Int):Rat)/((v:Int):Rat)/(k:Rat)=((u:Int):Rat)/(((k*v:Int)):Rat):=by
 have e:((k*v:Int):Rat)=(k:Rat)*(v:Rat):=Rat.intCast_mul _ _
 have hv:((0:Int):Rat)<(v:Rat):=lW hv
 have hk:((0:Int):Rat)<(k:Rat):=lW hk
 have z0:((0:Int):Rat)=0:=rfl
 rw[z0]at hv hk
 rw[e]
 have:(v:Rat)≠0:=by grind
 have:(k:Rat)≠0:=by grind
 grind
theorem pU{u v d:Int}(hd:0<d):((u:Int):Rat)/(d:Rat)-((v:Int):Rat)/(d:Rat)=((u-v:Int):Rat)/(d:Rat):=by
 rw[bK];grind
theorem pS{u d k:Int}(hd:0<d):(k:Rat)+((u:Int):Rat)/(d:Rat)=((k*d+u:Int):Rat)/(d:Rat):=by
 have hd:((0:Int):Rat)<(d:Rat):=lW hd
 have z0:((0:Int):Rat)=0:=rfl
 rw[z0]at hd
 have e:((k*d+u:Int):Rat)=(k:Rat)*(d:Rat)+(u:Rat):=by rw[Rat.intCast_add,Rat.intCast_mul]
 have:(d:Rat)≠0:=by grind
 rw[e];grind
theorem ku{u d k:Int}(hd:0<d)(h:u<=k*d):((u:Int):Rat)/(d:Rat)<=(k:Rat):=by
 have hd:((0:Int):Rat)<(d:Rat):=lW hd
 have z0:((0:Int):Rat)=0:=rfl
 rw[z0]at hd
 have h:((u:Int):Rat)<=((k*d:Int):Rat):=fK h
 rw[Rat.intCast_mul]at h
 have e:((u:Int):Rat)/(d:Rat)*(d:Rat)=(u:Rat):=by
  have:(d:Rat)≠0:=by grind
  grind
 exact Rat.le_of_mul_le_mul_right (c:=(d:Rat)) (by rw[e];exact h) hd
theorem iM{u d k:Int}(hd:0<d)(h:k*d<=u):(k:Rat)<=((u:Int):Rat)/(d:Rat):=by
 have hd:((0:Int):Rat)<(d:Rat):=lW hd
 have z0:((0:Int):Rat)=0:=rfl
 rw[z0]at hd
 have h:((k*d:Int):Rat)<=((u:Int):Rat):=fK h
 rw[Rat.intCast_mul]at h
 have e:((u:Int):Rat)/(d:Rat)*(d:Rat)=(u:Rat):=by
  have:(d:Rat)≠0:=by grind
  grind
 exact Rat.le_of_mul_le_mul_right (c:=(d:Rat)) (by rw[e];exact h) hd
theorem pT{u d:Int}(hd:0<d)(h1:d<=1024)(h:1<=u):1/1024<=((u:Int):Rat)/(d:Rat):=by
 have k:((1024:Int):Rat)=1024:=rfl
 have h2:(1:Int)*d<=1024*u:=by lia
 have h3:=iM (u:=1024*u) (k:=1) hd h2
 have e:((1024*u:Int):Rat)=1024*(u:Rat):=by rw[Rat.intCast_mul,k]
 have z1:((1:Int):Rat)=1:=rfl
 rw[e,z1]at h3
 grind
theorem DQ{k u v d:Int}{ck f1 f2:UInt64}(hk:k=2\/k=4)(hd:0<d)(hck:Ex ck (k:Rat))(h1:Rd f1 ((u:Rat)/(d:Rat)))(h2:Rd f2 ((v:Rat)/(d:Rat)))(hu:0<=u/\u<=d)(hv:0<=v/\v<=d):
  Nr (divmod (div (sub (add ck f1) f2) (ofInt 6)) one).2 (((k*d+(u-v):Int):Rat)/((6*d:Int):Rat)) (1/2^34):=by
 have h6:Ex (ofInt 6) 6:=dO (by decide)
 have z0:((0:Int):Rat)=0:=rfl
 have z1:((1:Int):Rat)=1:=rfl
 have zm:((-1:Int):Rat)=-1:=rfl
 have z2:((2:Int):Rat)=2:=rfl
 have z4:((4:Int):Rat)=4:=rfl
 have z6:((6:Int):Rat)=6:=rfl
 have a1:=ku (u:=u) (d:=d) (k:=1) hd (by lia)
 have a2:=iM (u:=u) (d:=d) (k:=0) hd (by lia)
 have b1:=ku (u:=u-v) (d:=d) (k:=1) hd (by lia)
 have b2:=iM (u:=u-v) (d:=d) (k:=-1) hd (by lia)
 have s1:=pU (u:=u) (v:=v) hd
 have s2:=pS (u:=u-v) (d:=d) (k:=k) hd
 have s3:=nh (u:=k*d+(u-v)) (v:=d) (k:=6) hd (by decide)
 rw[z1]at a1 b1
 rw[z0]at a2
 rw[zm]at b2
 rw[z6]at s3
 have TQ:(k:Rat)=2\/(k:Rat)=4:=by
  rcases hk with rfl|rfl
  ·exact .inl rfl
  ·exact .inr rfl
 rw[<-s3,<-s2,<-s1]
 rw[<-s1]at b1 b2
 generalize(u:Rat)/(d:Rat)=U at *
 generalize(v:Rat)/(d:Rat)=W at *
 generalize(k:Rat)=K at *
 have kb:2<=K/\K<=4:=by rcases TQ with h|h<;>rw[h]<;>exact⟨by decide+kernel,by decide+kernel⟩
 clear s1 s2 s3 TQ
 have t1:=Nr.add hck.nr h1.nr (by grind) (by grind) (by decide+kernel)
 have t2:=Nr.sub t1 h2.nr (by grind) (by grind) (by decide+kernel)
 have t3:=I9 h6 t2 (by decide+kernel) (by grind) (by grind)
 have e:K+U-W=K+(U-W):=by grind
 rw[e]at t3
 exact t3
theorem nS{a b' c:Int}(C:cI a b' c hi lo)(hr:Ex r ((a:Rat)/1024))(hg:Ex g ((b':Rat)/1024))(hb:Ex b ((c:Rat)/1024))(hM:Ex M ((hi:Rat)/1024))(hm:Ex m ((lo:Rat)/1024)):
  Nr (gQ r g b M m) ((aR a b' c hi lo:Rat)/((6*(hi-lo):Int):Rat)) (1/2^34)/\(aR a b' c hi lo=0->R (gQ r g b M m)=0):=by
 obtain⟨l0,la,lb,lc,ha,hb',hc,h1,lt,top,bot⟩:=C
 have hd:0<hi-lo:=by lia
 have rc:=ratio hM hr hm ⟨l0,la,ha,h1,lt⟩
 have gc:=ratio hM hg hm ⟨l0,lb,hb',h1,lt⟩
 have bc:=ratio hM hb hm ⟨l0,lc,hc,h1,lt⟩
 have h6:Ex (ofInt 6) 6:=dO (by decide)
 have h2:Ex (ofInt 2) ((2:Int):Rat):=dO (by decide)
 have h4:Ex (ofInt 4) ((4:Int):Rat):=dO (by decide)
 have z0:((0:Int):Rat)=0:=rfl
 have z1:((1:Int):Rat)=1:=rfl
 have zm:((-1:Int):Rat)=-1:=rfl
 have z3:((3:Int):Rat)=3:=rfl
 have z5:((5:Int):Rat)=5:=rfl
 have z6:((6:Int):Rat)=6:=rfl
 have six:∀u:Int,((u:Int):Rat)/((hi-lo:Int):Rat)/6=((u:Int):Rat)/((6*(hi-lo):Int):Rat):=λu=>by
  have:=nh (u:=u) (v:=hi-lo) (k:=6) hd (by decide)
  rw[z6]at this;exact this
 unfold gQ
 rw[gK hr hM,gK hg hM]
 by_cases e1:a=hi
 ·rw[eT e1]
  show Nr (divmod (div (sub _ _) _) one).2 _ _/\_
  have s1:=pU (u:=hi-c) (v:=hi-b') hd
  have s2:hi-c-(hi-b')=b'-c:=by lia
  rw[s2]at s1
  have u1:=ku (u:=b'-c) (d:=hi-lo) (k:=1) hd (by lia)
  have u2:=iM (u:=b'-c) (d:=hi-lo) (k:=-1) hd (by lia)
  rw[z1]at u1
  rw[zm]at u2
  have hs:=Nr.sub bc.nr gc.nr (by rw[s1];exact Rat.le_trans (by decide+kernel) u2) (by rw[s1];exact Rat.le_trans u1 (by decide+kernel)) (by decide+kernel)
  rw[s1]at hs
  by_cases e2:b'=c
  ·have e3:c=lo:=by lia
   have hN:aR a b' c hi lo=0:=by unfold aR;rw[if_pos e1,if_pos (by lia)];lia
   have x1:((hi-c:Int):Rat)/((hi-lo:Int):Rat)=1:=by
    have hq:((0:Int):Rat)<((hi-lo:Int):Rat):=lW hd
    rw[z0]at hq
    rw[e3]
    have:((hi-lo:Int):Rat)≠0:=by grind
    grind
   have o1:(1:Rat)=((1099511627776:Int):Rat)/2^40:=by
    have:((1099511627776:Int):Rat)=1099511627776:=rfl
    rw[this];decide+kernel
   have eb:Ex (div (sub M b) (sub M m)) 1:=by rw[x1]at bc;exact bc.ex _ o1
   have eg:Ex (div (sub M g) (sub M m)) 1:=by rw[e2,x1]at gc;exact gc.ex _ o1
   have es:Ex (sub (div (sub M b) (sub M m)) (div (sub M g) (sub M m))) 0:=by
    have k:=Eh eb.fn eg.fn (by rw[eb.eq,eg.eq];exact bH (by decide+kernel) (by decide+kernel))
    have e:R (div (sub M b) (sub M m))-R (div (sub M g) (sub M m))=0:=by rw[eb.eq,eg.eq];decide+kernel
    rw[e]at k
    exact k.ex 0 (by rw[z0];decide+kernel)
   have k:=wW h6 es
   refine⟨?_,λ_=>k.eq⟩
   rw[hN,z0]
   have:=k.nr
   exact⟨k.fn,by rw[k.eq];grind,by rw[k.eq];grind⟩
  ·by_cases e3:c<=b'
   ·have hN:aR a b' c hi lo=b'-c:=by unfold aR;rw[if_pos e1,if_pos e3]
    have u3:=pT (u:=b'-c) (d:=hi-lo) hd (by lia) (by lia)
    have k:=I9 h6 hs (by decide+kernel) u3 (by grind)
    rw[six]at k
    rw[hN]
    exact⟨k,λh=>absurd h (by lia)⟩
   ·have hN:aR a b' c hi lo=6*(hi-lo)+(b'-c):=by unfold aR;rw[if_pos e1,if_neg e3]
    have u3:=pT (u:=c-b') (d:=hi-lo) hd (by lia) (by lia)
    have e4:((c-b':Int):Rat)=-((b'-c:Int):Rat):=by rw[bK,bK];grind
    rw[e4]at u3
    have k:=z8 h6 hs (by decide+kernel) u2 (by grind)
    rw[six]at k
    have e5:((b'-c:Int):Rat)/((6*(hi-lo):Int):Rat)+1=((6*(hi-lo)+(b'-c):Int):Rat)/((6*(hi-lo):Int):Rat):=by
     have:=pS (u:=b'-c) (d:=6*(hi-lo)) (k:=1) (by lia)
     rw[z1,Int.one_mul]at this
     rw[<-this];exact Rat.add_comm ..
    rw[e5]at k
    rw[hN]
    exact⟨k,λh=>absurd h (by lia)⟩
 ·rw[eE e1]
  by_cases e2:b'=hi
  ·rw[eT e2]
   have hN:aR a b' c hi lo=2*(hi-lo)+((hi-a)-(hi-c)):=by unfold aR;rw[if_neg e1,if_pos e2];lia
   rw[hN]
   exact⟨DQ (.inl rfl) hd h2 rc bc ⟨by lia,by lia⟩ ⟨by lia,by lia⟩,λh=>absurd h (by lia)⟩
  ·rw[eE e2]
   have hN:aR a b' c hi lo=4*(hi-lo)+((hi-b')-(hi-a)):=by unfold aR;rw[if_neg e1,if_neg e2];lia
   rw[hN]
   exact⟨DQ (.inr rfl) hd h4 gc rc ⟨by lia,by lia⟩ ⟨by lia,by lia⟩,λh=>absurd h (by lia)⟩
end
end
section
open PySem PySem.Float64
noncomputable def tn(N D:Int):Int:=if N<=D then N else if N<=3*D then D else if N<=4*D then 4*D-N else 0
theorem Hw{N D:Int}(h:N<=D):tn N D=N:=if_pos h
theorem Lk{N D:Int}(g:D<=N)(h:N<=3*D):tn N D=D:=by
 unfold tn
 by_cases k:N<=D
 ·rw[if_pos k];exact Int.le_antisymm k g
 ·rw[if_neg k,if_pos h]
theorem OH{N D:Int}(d:0<D)(g:3*D<=N)(h:N<=4*D):tn N D=4*D-N:=by
 unfold tn
 rw[if_neg (by lia)]
 by_cases k:N<=3*D
 ·rw[if_pos k];lia
 ·rw[if_neg k,if_pos h]
theorem Ad{N D:Int}(d:0<D)(g:4*D<=N):tn N D=0:=by
 unfold tn
 rw[if_neg (by lia),if_neg (by lia)]
 by_cases k:N<=4*D
 ·rw[if_pos k];lia
 ·rw[if_neg k]
theorem Sv{N D z:Int}(d:0<D)(g:0<=N)(h:N<=6*D)(g':0<=N+6*D*z)(h':N+6*D*z<=6*D):tn (N+6*D*z) D=tn N D:=by
 have hz:z=0\/N+6*D*z=0/\N=6*D\/N+6*D*z=6*D/\N=0:=by
  rcases Int.lt_trichotomy z 0 with k|k|k
  ·have:=Int.mul_le_mul_of_nonneg_left (show z<=-1 by lia) (show 0<=6*D by lia)
   lia
  ·exact .inl k
  ·have:=Int.mul_le_mul_of_nonneg_left (show 1<=z by lia) (show 0<=6*D by lia)
   lia
 rcases hz with k|⟨k,e⟩|⟨k,e⟩
 ·rw[k,Int.mul_zero,Int.add_zero]
 ·rw[k,e,Hw (Int.le_of_lt d),Ad d (by lia)]
 ·rw[k,e,Hw (Int.le_of_lt d),Ad d (by lia)]
theorem Sx{N M D z:Int}(d:0<D)(g':0<=N)(h':N<=6*D)(e:N=M+6*D*z)(g:0<=M)(h:M<=6*D):tn N D=tn M D:=by
 subst e;exact Sv d g h g' h'
theorem IJ{a b c hi lo:Int}(C:cI a b c hi lo):0<=aR a b c hi lo/\aR a b c hi lo<=6*(hi-lo)/\lo+tn (aR a b c hi lo) (hi-lo)=b:=by
 obtain⟨-,a0,b0,c0,ad,bd,cd,-,d,top,bot⟩:=C
 have d:=Int.sub_pos.mpr d
 unfold aR
 by_cases e:a=hi
 ·rw[if_pos e]
  by_cases k:c<=b
  ·rw[if_pos k,Hw (by lia)];clear top;lia
  ·rw[if_neg k,Ad d (by lia)];clear top;lia
 ·rw[if_neg e]
  by_cases k:b=hi
  ·rw[if_pos k,Lk (by lia) (by lia)];clear top bot;lia
  ·rw[if_neg k]
   by_cases l:a<=b
   ·rw[OH d (by lia) (by lia)];lia
   ·rw[Ad d (by lia)];lia
theorem vZ{a b c hi lo:Int}(C:cI a b c hi lo):0<=aR a b c hi lo/\aR a b c hi lo<6*(hi-lo):=by
 refine⟨(IJ C).1,?_⟩
 obtain⟨-,a0,b0,c0,ad,bd,cd,-,d,-,-⟩:=C
 unfold aR
 by_cases e:a=hi
 ·rw[if_pos e]
  by_cases k:c<=b
  ·rw[if_pos k];clear e k a0 b0 ad cd;lia
  ·rw[if_neg k];clear e a0 b0 ad cd c0 bd;lia
 ·rw[if_neg e]
  by_cases k:b=hi
  ·rw[if_pos k];clear k e b0 bd ad;lia
  ·rw[if_neg k];clear k e cd bd a0;lia
theorem IK{a b c hi lo:Int}(C:cI a b c hi lo):∃z:Int,aR c a b hi lo=aR a b c hi lo+2*(hi-lo)+6*(hi-lo)*z:=by
 obtain⟨-,a0,b0,c0,ad,bd,cd,-,d,top,bot⟩:=C
 have:aR c a b hi lo=aR a b c hi lo+2*(hi-lo)\/aR c a b hi lo=aR a b c hi lo+2*(hi-lo)-6*(hi-lo):=by
  unfold aR
  by_cases e:a=hi
  ·by_cases f:c=hi
   ·rw[if_pos f,if_pos (e.symm▸bd),if_pos e,if_neg (by lia)];clear a0 b0 c0 ad bd cd;lia
   ·rw[if_neg f,if_pos e,if_pos e]
    by_cases g:c<=b
    ·rw[if_pos g];exact .inl (by clear top bot;lia)
    ·rw[if_neg g];exact .inr (by clear top bot;lia)
  ·by_cases f:c=hi
   ·rw[if_pos f,if_neg e]
    by_cases g:b=hi
    ·rw[if_pos g,if_neg (by clear top bot;lia)];exact .inl (by clear top;lia)
    ·rw[if_neg g]
     by_cases h:b<=a
     ·rw[if_pos h];exact .inr (by clear top bot;lia)
     ·rw[if_neg h];exact .inl (by clear top bot;lia)
   ·rw[if_neg f,if_neg e,if_neg e,if_pos (top.elim (nomatch e ·) λh=>h.elim id (nomatch f ·))];exact .inl (by clear top bot;lia)
 rcases this with e|e
 ·exact⟨0,by rw[e,Int.mul_zero,Int.add_zero]⟩
 ·exact⟨-1,by rw[e];lia⟩
theorem cI.wR{a b c hi lo:Int}(C:cI a b c hi lo):cI c a b hi lo:=⟨C.l0,C.lc,C.la,C.lb,C.hc,C.ha,C.hb,C.h1,C.lt,or_comm.mp (or_assoc.mpr C.top),or_comm.mp (or_assoc.mpr C.bot)⟩
theorem pX{a b c hi lo s N' z:Int}(C:cI a b c hi lo)(hs:s=1\/s=0\/s=-1)(h0:0<=N')(h1:N'<=6*(hi-lo))(e:N'=aR a b c hi lo+2*s*(hi-lo)+6*z*(hi-lo)):lo+tn N' (hi-lo)=if s=1 then a else if s=0 then b else c:=by
 have d:=Int.sub_pos.mpr C.lt
 have go:∀{a b c z:Int},cI a b c hi lo->N'=aR a b c hi lo+6*(hi-lo)*z->lo+tn N' (hi-lo)=b:=λC e=>by
  have h:=IJ C
  rw[Sx d h0 h1 e h.1 h.2.1,h.2.2]
 rcases hs with rfl|rfl|rfl
 ·show _=a
  obtain⟨y,k⟩:=IK C
  exact go (z:=z-y) C.wR (by rw[k,e];grind)
 ·exact go (z:=z) C (by rw[e];grind)
 ·show _=c
  obtain⟨y,k⟩:=IK C.wR.wR
  exact go (z:=z+y) C.wR.wR (by rw[e,k];grind)
noncomputable def rP(j:Nat)(n hi lo:Int):Int×Int×Int:=match j with
 |0=>(hi,lo+n,lo)|1=>(hi-n,hi,lo)|2=>(lo,hi,lo+n)|3=>(lo,hi-n,hi)|4=>(lo+n,lo,hi)|_=>(hi,lo,hi-n)
theorem six{k:Nat}(h:k<6):k=0\/k=1\/k=2\/k=3\/k=4\/k=5:=by lia
noncomputable def tk(k:Nat)(n D:Int):Int:=match k with|0=>n|1=>D|2=>D|3=>D-n|_=>0
theorem Sw{k:Nat}{n D:Int}(d:0<D)(h0:0<=n)(h1:n<=D)(hk:k<6):0<=(k:Int)*D+n/\(k:Int)*D+n<=6*D/\tn ((k:Int)*D+n) D=tk k n D:=by
 rcases six hk with rfl|rfl|rfl|rfl|rfl|rfl
 ·exact⟨by lia,by lia,(Hw (by lia)).trans (by show _=n;lia)⟩
 ·exact⟨by lia,by lia,(Lk (by lia) (by lia))⟩
 ·exact⟨by lia,by lia,(Lk (by lia) (by lia))⟩
 ·exact⟨by lia,by lia,(OH d (by lia) (by lia)).trans (by show _=D-n;lia)⟩
 ·exact⟨by lia,by lia,Ad d (by lia)⟩
 ·exact⟨by lia,by lia,Ad d (by lia)⟩
theorem G4{n hi lo:Int}{j:Nat}(hj:j<6):rP j n hi lo=(lo+tk ((j+2) % 6) n (hi-lo),lo+tk j n (hi-lo),lo+tk ((j+4) % 6) n (hi-lo)):=by
 have e1:lo+(hi-lo)=hi:=by lia
 have e2:lo+(hi-lo-n)=hi-n:=by lia
 have e3:=Int.add_zero lo
 rcases six hj with rfl|rfl|rfl|rfl|rfl|rfl
 ·show _=(lo+(hi-lo),lo+n,lo+0);rw[e1,e3];rfl
 ·show _=(lo+(hi-lo-n),lo+(hi-lo),lo+0);rw[e1,e2,e3];rfl
 ·show _=(lo+0,lo+(hi-lo),lo+n);rw[e1,e3];rfl
 ·show _=(lo+0,lo+(hi-lo-n),lo+(hi-lo));rw[e1,e2,e3];rfl
 ·show _=(lo+n,lo+0,lo+(hi-lo));rw[e1,e3];rfl
 ·show _=(lo+(hi-lo),lo+0,lo+(hi-lo-n));rw[e1,e2,e3];rfl
theorem yO{a b c hi lo n:Int}{j:Nat}(C:cI a b c hi lo)(hj:j<6)(hn:0<=n/\n<=hi-lo)(h:aR a b c hi lo=(j:Int)*(hi-lo)+n\/(j=5/\n=hi-lo/\aR a b c hi lo=0)):rP j n hi lo=(a,b,c):=by
 have⟨z,hz⟩:∃z:Int,(j:Int)*(hi-lo)+n=aR a b c hi lo+6*(hi-lo)*z:=by
  rcases h with h|⟨rfl,rfl,h⟩
  ·exact⟨0,by rw[h,Int.mul_zero,Int.add_zero]⟩
  ·exact⟨1,by rw[h];lia⟩
 have P:∀(s e:Int) (k:Nat),k<6->(s=1\/s=0\/s=-1)->(k:Int)=j+2*s+6*e->lo+tk k n (hi-lo)=if s=1 then a else if s=0 then b else c:=λs e k hk hs ek=>by
  have t:=Sw (k:=k) (Int.sub_pos.mpr C.lt) hn.1 hn.2 hk
  rw[<-t.2.2]
  exact pX (z:=z+e) C hs t.1 t.2.1 (by rw[ek];clear t ek hs hn C h hk;grind)
 rw[G4 hj,P 1 (-((j+2)/6:Nat)) ((j+2) % 6) (Nat.mod_lt _ (by decide)) (.inl rfl) (by lia),P 0 0 j hj (.inr (.inl rfl)) (by lia),P (-1) (1-((j+4)/6:Nat)) ((j+4) % 6) (Nat.mod_lt _ (by decide)) (.inr (.inr rfl)) (by lia)]
 rfl
theorem aZ{x y:Rat}(h:0<y):x/y*y=x:=by
 have:y≠0:=by grind
 grind
section
variable{v s f o:UInt64}{hi lo n:Int}
theorem CD(hv:Ex v ((hi:Rat)/1024))(hs:Nr s (((hi-lo:Int):Rat)/(hi:Rat)) (1/2^40))(hf:Nr f ((n:Rat)/((hi-lo:Int):Rat)) (1/2^26))(ho:Ex o 1)(h0:0<=lo)(h1:hi<=1024)(lt:lo<hi)(hn:0<=n/\n<=hi-lo):
  Nr (mul v (sub o s)) ((lo:Rat)/1024) (1/2^20)/\Nr (mul v (sub o (mul s f))) (((hi-n:Int):Rat)/1024) (1/2^20)/\Nr (mul v (sub o (mul s (sub o f)))) (((lo+n:Int):Rat)/1024) (1/2^20):=by
 have z0:((0:Int):Rat)=0:=rfl
 have z1:((1:Int):Rat)=1:=rfl
 have zk:((1024:Int):Rat)=1024:=rfl
 have q1:((0:Int):Rat)<(hi:Rat):=lW (by lia)
 have q2:((0:Int):Rat)<((hi-lo:Int):Rat):=lW (by lia)
 have q3:(hi:Rat)<=((1024:Int):Rat):=fK h1
 have q4:((0:Int):Rat)<=(lo:Rat):=fK h0
 have q5:((0:Int):Rat)<=(n:Rat):=fK hn.1
 have q6:(n:Rat)<=((hi-lo:Int):Rat):=fK hn.2
 rw[z0]at q1 q2 q4 q5
 rw[zk]at q3
 have e1:((hi-n:Int):Rat)=(hi:Rat)-(n:Rat):=bK _ _
 have e2:((lo+n:Int):Rat)=(lo:Rat)+(n:Rat):=Rat.intCast_add _ _
 have e3:((hi-lo:Int):Rat)=(hi:Rat)-(lo:Rat):=bK _ _
 rw[e1,e2]
 have S:=dW (u:=((hi-lo:Int):Rat)) (v:=(hi:Rat)) (by grind) (by rw[e3];grind) q1
 have F:=dW (u:=(n:Rat)) (v:=((hi-lo:Int):Rat)) q5 q6 q2
 have V:=dW (u:=(hi:Rat)) (v:=(1024:Rat)) (by grind) q3 (by decide+kernel)
 have m1:=aZ (x:=((hi-lo:Int):Rat)) q1
 have m2:=aZ (x:=(n:Rat)) q2
 have m3:(hi:Rat)/1024*(((hi-lo:Int):Rat)/(hi:Rat))=((hi:Rat)-(lo:Rat))/1024:=by
  rw[<-e3];grind
 have m4:(hi:Rat)/1024*(((hi-lo:Int):Rat)/(hi:Rat)*((n:Rat)/((hi-lo:Int):Rat)))=(n:Rat)/1024:=by
  have:(hi:Rat)/1024*(((hi-lo:Int):Rat)/(hi:Rat)*((n:Rat)/((hi-lo:Int):Rat)))=(hi:Rat)/1024*(((hi-lo:Int):Rat)/(hi:Rat))*((n:Rat)/((hi-lo:Int):Rat)):=by grind
  rw[this,m3,<-e3];grind
 clear m1 m2 e1 e2 e3 q1 q2 q3 q4 q5 q6
 have hv':=hv.nr
 generalize((hi-lo:Int):Rat)/(hi:Rat)=S0 at *
 generalize(n:Rat)/((hi-lo:Int):Rat)=F0 at *
 obtain⟨V1,V2⟩:=V
 have Wz:(hi:Rat)=(hi:Rat)/1024*1024:=by grind
 generalize(hi:Rat)/1024=V0 at *
 obtain⟨S1,S2⟩:=S
 obtain⟨F1,F2⟩:=F
 have sf:=fB S2 F2 S1 F1
 have WB:=Rat.mul_nonneg S1 F1
 have sg:=fB (a:=S0) (b:=1-F0) (c:=1) (d:=1) S2 (by grind) S1 (by grind)
 have WC:=Rat.mul_nonneg (a:=S0) (b:=1-F0) S1 (by grind)
 have p1:=Nr.sub ho.nr hs (by grind) (by grind) (by decide+kernel)
 have p2:=Nr.mul (P:=1) (Q:=1) hv' p1 (by grind) V2 (by grind) (by grind) (by decide+kernel)
 have r1:=Nr.mul (P:=1) (Q:=1) hs hf (by grind) S2 (by grind) F2 (by decide+kernel)
 have r2:=Nr.sub ho.nr r1 (by grind) (by grind) (by decide+kernel)
 have r3:=Nr.mul (P:=1) (Q:=1) hv' r2 (by grind) V2 (by grind) (by grind) (by decide+kernel)
 have t1:=Nr.sub ho.nr hf (by grind) (by grind) (by decide+kernel)
 have t2:=Nr.mul (P:=1) (Q:=1) hs t1 (by grind) S2 (by grind) (by grind) (by decide+kernel)
 have t3:=Nr.sub ho.nr t2 (by grind) (by grind) (by decide+kernel)
 have t4:=Nr.mul (P:=1) (Q:=1) hv' t3 (by grind) V2 (by grind) (by grind) (by decide+kernel)
 have E1:V0*(1-S0)=(lo:Rat)/1024:=by grind
 have E2:V0*(1-S0*F0)=((hi:Rat)-(n:Rat))/1024:=by grind
 have E3:V0*(1-S0*(1-F0))=((lo:Rat)+(n:Rat))/1024:=by grind
 rw[E1]at p2
 rw[E2]at r3
 rw[E3]at t4
 exact⟨p2.weak (by decide+kernel),r3.weak (by decide+kernel),t4.weak (by decide+kernel)⟩
end
end
section
open PySem PySem.Float64
theorem Li{N D k i n:Int}(hD:0<D)(hN:0<=N/\N<6*D)(hn:0<=n/\n<=D)(e:N+6*k*D=i*D+n):∃j:Nat,j<6/\Int.fmod i 6=(j:Int)/\(N=(j:Int)*D+n\/(j=5/\n=D/\N=0)):=by
 have hm:=Int.fmod_add_fdiv_mul i 6
 have h0:=Int.fmod_nonneg_of_pos i (show(0:Int)<6 by decide)
 have h1:=Int.fmod_lt_of_pos i (show(0:Int)<6 by decide)
 refine⟨(Int.fmod i 6).toNat,(Int.toNat_lt h0).mpr h1,(Int.toNat_of_nonneg h0).symm,?_⟩
 rw[Int.toNat_of_nonneg h0]
 generalize Int.fmod i 6=j at *
 generalize Int.fdiv i 6=q at *
 have e2:N=(i-6*k)*D+n:=by
  have:(i-6*k)*D=i*D-6*k*D:=Int.sub_mul _ _ _
  lia
 generalize hz:i-6*k=z at *
 have z1:z<=5:=by
  apply Int.le_of_lt_add_one
  apply Int.lt_of_not_ge
  intro h
  have:=Int.mul_le_mul_of_nonneg_right h (Int.le_of_lt hD)
  lia
 have z2:-1<=z:=by
  apply Int.le_of_lt_add_one
  apply Int.lt_of_not_ge
  intro h
  have:z+1<=-1:=by lia
  have:=Int.mul_le_mul_of_nonneg_right this (Int.le_of_lt hD)
  rw[Int.add_mul]at this
  lia
 by_cases VI:z=-1
 ·right
  subst VI
  refine⟨by lia,by lia,by lia⟩
 ·left
  have:j=z:=by lia
  rw[this];exact e2
section
variable{h six:UInt64}{N D k:Int}{e:Rat}
theorem xg{x:UInt64}{w:Rat}(hx:Nr x w (1/2^28))(w0:0<=w)(w1:w<=800):∃i:Int,(∃a m e,decode x=.fin a m e/\truncOf a m e=i)/\(0<=i/\i<1000)/\-1/2^27<=w-(i:Rat)/\w-(i:Rat)<=1+1/2^27:=by
 obtain⟨i,hi,tp,tn⟩:=yR hx.fn
 refine⟨i,hi,?_⟩
 obtain⟨-,x1,x2⟩:=hx
 clear hi
 have zm:((-1:Int):Rat)=-1:=rfl
 by_cases hp:0<=R x
 ·obtain⟨a,b⟩:=tp hp
  clear tp tn
  have j1:=Rat.intCast_lt_intCast.mp (show((-1:Int):Rat)<(i:Rat) by rw[zm];grind)
  have j2:=Rat.intCast_lt_intCast.mp (show(i:Rat)<((1000:Int):Rat) by rw[show((1000:Int):Rat)=1000 from rfl];grind)
  exact⟨⟨Int.le_of_lt_add_one (Int.lt_add_one_of_le (Int.add_one_le_of_lt j1)),j2⟩,by grind,by grind⟩
 ·obtain⟨a,b⟩:=tn (by clear tp tn;grind)
  clear tp tn
  have z1:((1:Int):Rat)=1:=rfl
  have j1:=Rat.intCast_lt_intCast.mp (show(i:Rat)<((1:Int):Rat) by rw[z1];grind)
  have j2:=Rat.intCast_lt_intCast.mp (show((-1:Int):Rat)<(i:Rat) by rw[zm];grind)
  obtain rfl:i=0:=by clear x1 x2 a b hp;lia
  rw[show((0:Int):Rat)=0 from rfl]at *
  exact⟨by decide,by grind,by grind⟩
theorem zJ(hh:Nr h ((N:Rat)/((6*D:Int):Rat)+(k:Rat)) e)(he:e<=1/2^32)(h6:Ex six 6)(hD:0<D)(Ro:D<=1024)(hN:0<=N/\N<6*D)(hk:0<=k/\k<=100):
  ∃(i:Int) (j:Nat) (n:Int),(∃a m e,decode (mul h six)=.fin a m e/\truncOf a m e=i)/\(j<6/\Int.fmod i 6=(j:Int))/\(0<=i/\i<=1000)/\(0<=n/\n<=D)/\Nr (sub (mul h six) (ofInt i)) ((n:Rat)/(D:Rat)) (1/2^26)/\(N=(j:Int)*D+n\/(j=5/\n=D/\N=0)):=by
 have z0:((0:Int):Rat)=0:=rfl
 have z6:((6:Int):Rat)=6:=rfl
 have d1:((0:Int):Rat)<(D:Rat):=lW hD
 have d2:(D:Rat)<=((1024:Int):Rat):=fK Ro
 have k1:((0:Int):Rat)<=(k:Rat):=fK hk.1
 have k2:(k:Rat)<=((100:Int):Rat):=fK hk.2
 have n1:=iM (u:=N) (d:=D) (k:=0) hD (by rw[Int.zero_mul];exact hN.1)
 have n2:=ku (u:=N) (d:=D) (k:=6) hD (Int.le_of_lt hN.2)
 have cd:=nh (u:=N) (v:=D) (k:=6) hD (by decide)
 rw[z6]at cd n2
 rw[<-cd]at hh
 rw[z0]at d1 k1 n1
 rw[show((1024:Int):Rat)=1024 from rfl]at d2
 rw[show((100:Int):Rat)=100 from rfl]at k2
 have tN:=aZ (x:=(N:Rat)) d1
 clear cd
 generalize(N:Rat)/(D:Rat)=T at *
 have hx:=Nr.mul (P:=101) (Q:=6) hh h6.nr (by clear hh tN d1 d2 he;grind) (by clear hh tN d1 d2 he;grind) (by decide+kernel) (by decide+kernel) (by clear hh tN d1 d2 n1 n2 k1 k2;grind)
 rw[show(T/6+(k:Rat))*6=T+6*(k:Rat) by clear hx hh;grind]at hx
 have hx:=hx.weak (f:=1/2^28) (by clear hh tN d1 d2 n1 n2 k1 k2 hx;grind)
 clear hh he
 obtain⟨i,hi,⟨i3,i1⟩,b1,b2⟩:=xg hx (by clear hx tN d1 d2;grind) (by clear hx tN d1 d2;grind)
 have en:((N+6*k*D-i*D:Int):Rat)=(T+6*(k:Rat)-(i:Rat))*(D:Rat):=by
  rw[bK,Rat.intCast_add,Rat.intCast_mul,Rat.intCast_mul,Rat.intCast_mul,z6,<-tN]
  clear hx tN b1 b2 n1 n2 k1 k2 d1 d2;grind
 have w1:=Rat.mul_le_mul_of_nonneg_right b1 (Rat.le_of_lt d1)
 have w2:=Rat.mul_le_mul_of_nonneg_right b2 (Rat.le_of_lt d1)
 rw[<-en]at w1 w2
 have n3:=Rat.intCast_lt_intCast.mp (show((-1:Int):Rat)<((N+6*k*D-i*D:Int):Rat) by
  rw[show((-1:Int):Rat)=-1 from rfl]
  generalize((N+6*k*D-i*D:Int):Rat)=Y at *
  clear en w2 tN hx;grind)
 have n4:=Rat.intCast_lt_intCast.mp (show((N+6*k*D-i*D:Int):Rat)<((D+1:Int):Rat) by
  rw[Rat.intCast_add,show((1:Int):Rat)=1 from rfl]
  generalize((N+6*k*D-i*D:Int):Rat)=Y at *
  clear en w1 tN hx;grind)
 have q:((N+6*k*D-i*D:Int):Rat)/(D:Rat)=T+6*(k:Rat)-(i:Rat):=by
  rw[en]
  generalize T+6*(k:Rat)-(i:Rat)=Y
  have:(D:Rat)≠0:=by clear tN hx;grind
  clear tN w1 w2 b1 b2 hx n1 n2;grind
 have n3:=Int.le_of_lt_add_one (Int.lt_add_one_of_le (Int.add_one_le_of_lt n3))
 have n4:=Int.le_of_lt_add_one n4
 obtain⟨j,j1,j2,j3⟩:=Li (N:=N) (D:=D) (k:=k) (i:=i) (n:=N+6*k*D-i*D) hD hN ⟨n3,n4⟩ (by clear hN n3 n4;lia)
 have hI:=dO (i:=i) ⟨by lia,by lia⟩
 have hf:=Nr.sub hx hI.nr (by clear hx w1 w2 tN en q hI;grind) (by clear hx w1 w2 tN en q hI d1 d2;grind) (by decide+kernel)
 rw[<-q]at hf
 exact⟨i,j,_,hi,⟨j1,j2⟩,⟨i3,Int.le_of_lt i1⟩,⟨n3,n4⟩,hf.weak (by decide+kernel),j3⟩
end
end
section
open PySem PySem.Float64
theorem lC{x:UInt64}{a:Int}(hx:Nr x ((a:Rat)/1024) (1/2^20))(h0:0<=a)(h1:a<=1024):∃i:Int,(∃s m e,decode (add (mul x (ofInt 2048)) (ofInt 1))=.fin s m e/\truncOf s m e=i)/\Int.fdiv i 2=a:=by
 have z0:((0:Int):Rat)=0:=rfl
 have z1:((1:Int):Rat)=1:=rfl
 have zk:((1024:Int):Rat)=1024:=rfl
 have zt:((2048:Int):Rat)=2048:=rfl
 have q0:((0:Int):Rat)<=(a:Rat):=fK h0
 have q1:(a:Rat)<=((1024:Int):Rat):=fK h1
 rw[z0]at q0
 rw[zk]at q1
 have k1:=(dO (i:=2048) (by decide)).nr
 have k2:=(dO (i:=1) (by decide)).nr
 rw[zt]at k1
 rw[z1]at k2
 have t1:=Nr.mul (P:=1) (Q:=2048) hx k1 (by grind) (by grind) (by decide+kernel) (by decide+kernel) (by decide+kernel)
 have e:(a:Rat)/1024*2048=2*(a:Rat):=by grind
 rw[e]at t1
 have t2:=Nr.add t1 k2 (by grind) (by grind) (by decide+kernel)
 obtain⟨i,hi,tp,_⟩:=yR t2.fn
 have x1:=t2.lo
 have x2:=t2.hi
 have t:=tp (by grind)
 refine⟨i,hi,?_⟩
 have z2:((2*a:Int):Rat)=2*(a:Rat):=by rw[Rat.intCast_mul];rfl
 have y1:((2*a-1:Int):Rat)<(i:Rat):=by rw[bK,z2,z1];grind
 have y2:(i:Rat)<((2*a+2:Int):Rat):=by
  have S3:((2:Int):Rat)=2:=rfl
  rw[Rat.intCast_add,z2,S3];grind
 have y1:=Rat.intCast_lt_intCast.mp y1
 have y2:=Rat.intCast_lt_intCast.mp y2
 rw[Int.fdiv_eq_ediv_of_nonneg _ (by decide)]
 lia
noncomputable def outs(j:Nat)(v p q t:UInt64):UInt64×UInt64×UInt64:=match j with
 |0=>(v,t,p)|1=>(q,v,p)|2=>(p,v,t)|3=>(p,q,v)|4=>(t,p,v)|_=>(v,p,q)
def lK(o:UInt64×UInt64×UInt64)(a b c:Int):Prop:=Nr o.1 ((a:Rat)/1024) (1/2^20)/\Nr o.2.1 ((b:Rat)/1024) (1/2^20)/\Nr o.2.2 ((c:Rat)/1024) (1/2^20)
theorem zR{hi lo n:Int}{j:Nat}{v x y z:UInt64}(hj:j<6)(pv:Nr v ((hi:Rat)/1024) (1/2^20))(p1:Nr x ((lo:Rat)/1024) (1/2^20))(p2:Nr y (((hi-n:Int):Rat)/1024) (1/2^20))(p3:Nr z (((lo+n:Int):Rat)/1024) (1/2^20)):lK (outs j v x y z) (rP j n hi lo).1 (rP j n hi lo).2.1 (rP j n hi lo).2.2:=by
 rcases Q1.six hj with rfl|rfl|rfl|rfl|rfl|rfl
 ·exact⟨pv,p3,p1⟩
 ·exact⟨p2,pv,p1⟩
 ·exact⟨p1,pv,p3⟩
 ·exact⟨p1,p2,pv⟩
 ·exact⟨p3,p1,pv⟩
 ·exact⟨pv,p1,p2⟩
theorem CE{a b c hi lo k:Int}{h s v six o:UInt64}{e:Rat}(C:cI a b c hi lo)(hh:Nr h ((aR a b c hi lo:Rat)/((6*(hi-lo):Int):Rat)+(k:Rat)) e)(he:e<=1/2^32)(hk:0<=k/\k<=100)
  (hs:Nr s (((hi-lo:Int):Rat)/(hi:Rat)) (1/2^40)) (hv:Ex v ((hi:Rat)/1024)) (h6:Ex six 6) (ho:Ex o 1):
  ∃(i:Int) (j:Nat),(∃s m e,decode (mul h six)=.fin s m e/\truncOf s m e=i)/\(j<6/\Int.fmod i 6=(j:Int))/\(0<=i/\i<=1000)/\lK (outs j v (mul v (sub o s)) (mul v (sub o (mul s (sub (mul h six) (ofInt i))))) (mul v (sub o (mul s (sub o (sub (mul h six) (ofInt i))))))) a b c:=by
 obtain⟨i,j,n,q1,⟨q2,q3⟩,q4,q5,q6,q7⟩:=zJ (D:=hi-lo) hh he h6 (by have:=C.lt;lia) (by have:=C.h1;have:=C.l0;lia) (vZ C) hk
 obtain⟨p1,p2,p3⟩:=CD hv hs q6 ho C.l0 C.h1 C.lt q5
 have hS:=yO C q2 q5 q7
 have pv:Nr v ((hi:Rat)/1024) (1/2^20):=hv.nr.weak (by decide+kernel)
 have o:=zR q2 pv p1 p2 p3
 rw[hS]at o
 exact⟨i,j,q1,⟨q2,q3⟩,q4,o⟩
end
section
open PySem PySem.Float64
noncomputable def jd(u:Rat):Rat:=if u<=0 then 0 else if u<=1/6 then 6*u else if u<=1/2 then 1 else if u<=2/3 then 6*(2/3-u)else 0
theorem OD{u:Rat}(h1:-1/2^28<=u)(h2:u<=1/6+1/2^28):-1/2^24<=6*u-jd u/\6*u-jd u<=1/2^24:=by unfold jd;split<;>(try split)<;>(try split)<;>(try split)<;>grind
theorem OE{u:Rat}(h1:1/6-1/2^28<=u)(h2:u<=1/2+1/2^28):-1/2^24<=1-jd u/\1-jd u<=1/2^24:=by unfold jd;split<;>(try split)<;>(try split)<;>(try split)<;>grind
theorem OF{u:Rat}(h1:1/2-1/2^28<=u)(h2:u<=2/3+1/2^28):-1/2^24<=6*(2/3-u)-jd u/\6*(2/3-u)-jd u<=1/2^24:=by unfold jd;split<;>(try split)<;>(try split)<;>(try split)<;>grind
theorem OG{u:Rat}(h1:2/3-1/2^28<=u)(h2:u<=1+1/2^28):-1/2^24<=0-jd u/\0-jd u<=1/2^24:=by unfold jd;split<;>(try split)<;>(try split)<;>(try split)<;>grind
noncomputable def vF(m1 m2 x s6 half Hs six:UInt64):UInt64:=
 bif cmp (divmod x one).2 s6==some .lt then add m1 (mul (mul (sub m2 m1) (divmod x one).2) six)else bif cmp (divmod x one).2 half==some .lt then m2 else bif cmp (divmod x one).2 Hs==some .lt then add m1 (mul (mul (sub m2 m1) (sub Hs (divmod x one).2)) six)else m1
theorem Oh{m1 d q six:UInt64}{L U t:Rat}(h1:Nr m1 L (1/2^36))(hd:Nr d (U-L) (1/2^34))(hq:Nr q t (1/2^29))(l0:0<=L)(lu:L<=U)(u1:U<=1)(t1:-2<=t)(t2:t<=2)(h6:Ex six 6):Nr (add m1 (mul (mul d q) six)) (L+(U-L)*(6*t)) (1/2^22):=by
 have d1:-1<=U-L:=by grind
 have d2:U-L<=1:=by grind
 have m:=Nr.mul (P:=1) (Q:=2) hd hq d1 d2 t1 t2 (by decide+kernel)
 obtain⟨k1,k2⟩:=jv d1 d2 t1 t2
 have m':=Nr.mul (P:=2) (Q:=6) m h6.nr (Rat.le_trans (by decide+kernel) k1) (Rat.le_trans k2 (by decide+kernel)) (by decide+kernel) (by decide+kernel) (by decide+kernel)
 have l1:=Rat.le_trans lu u1
 rw[Rat.mul_comm 6,<-Rat.mul_assoc]
 generalize(U-L)*t=r at *
 have s:=Nr.add h1 m' (by clear m' m h1 hd hq;grind) (by clear m' m h1 hd hq;grind) (by decide+kernel)
 exact s.weak (by decide+kernel)
theorem iZ{y:UInt64}{L U t s:Rat}(lu:L<=U)(l0:0<=L)(u1:U<=1)(hy:Nr y (L+(U-L)*t) (1/2^22))(t1:-1/2^24<=t-s)(t2:t-s<=1/2^24):Nr y (L+(U-L)*s) (1/2^21):=by
 have k:=jv (a:=U-L) (b:=t-s) (c:=1) (d:=1/2^24) (by grind) (by grind) (Rat.le_trans (by decide+kernel) t1) t2
 obtain⟨f,y1,y2⟩:=hy
 rw[show(U-L)*(t-s)=(U-L)*t-(U-L)*s by grind]at k
 exact⟨f,by grind,by grind⟩
theorem vH{X Y u c:Rat}(h:X<Y)(b:Y-c<=1/2^36)(a:-(1/2^30+1/2^38)<=X-u):u<=c+1/2^28:=by grind
theorem vG{X Y u c:Rat}(h:¬X<Y)(b:-(1/2^36)<=Y-c)(a:X-u<=1/2^30+1/2^38):c-1/2^28<=u:=by grind
theorem Lw{m1 m2 x s6 half Hs six:UInt64}{L U w:Rat}(h1:Nr m1 L (1/2^36))(h2:Nr m2 U (1/2^36))(l0:0<=L)(lu:L<=U)(u1:U<=1)(hx:Nr x w (1/2^30))(e6:Nr s6 (1/6) (1/2^36))(eh:Nr half (1/2) (1/2^36))(L4:Nr Hs (2/3) (1/2^36))(h6:Ex six 6):
  ∃n:Int,Nr (vF m1 m2 x s6 half Hs six) (L+(U-L)*jd (w-(n:Rat))) (1/2^21)/\-1/2^28<=w-(n:Rat)/\w-(n:Rat)<=1+1/2^28:=by
 obtain⟨n,hz,z1,z2⟩:=ly hx
 have hu:-1/2^28<=w-(n:Rat)/\w-(n:Rat)<=1+1/2^28:=by
  have:=hz.lo
  have:=hz.hi
  constructor<;>grind
 refine⟨n,?_,hu⟩
 unfold vF
 rw[mq hz.fn e6.fn,mq hz.fn eh.fn,mq hz.fn L4.fn]
 have hd:=(Nr.sub h2 h1 (by grind) (by grind) (by decide+kernel)).weak (f:=1/2^34) (by decide+kernel)
 generalize w-(n:Rat)=u at *
 have Tr:-2<=u/\u<=2:=⟨Rat.le_trans (by decide+kernel) hu.1,Rat.le_trans hu.2 (by decide+kernel)⟩
 by_cases k1:R (divmod x one).2<R s6
 ·rw[eT k1]
  have t:=OD hu.1 (vH k1 e6.hi hz.lo)
  exact iZ lu l0 u1 (Oh h1 hd (hz.weak (by decide+kernel)) l0 lu u1 Tr.1 Tr.2 h6) t.1 t.2
 ·rw[eE k1]
  by_cases k2:R (divmod x one).2<R half
  ·rw[eT k2]
   have t:=OE (vG k1 e6.lo hz.hi) (vH k2 eh.hi hz.lo)
   have e:U=L+(U-L)*1:=by grind
   exact iZ lu l0 u1 (e▸h2.weak (by decide+kernel):Nr m2 (L+(U-L)*1) (1/2^22)) t.1 t.2
  ·rw[eE k2]
   by_cases k3:R (divmod x one).2<R Hs
   ·rw[eT k3]
    have c1:=vG k2 eh.lo hz.hi
    have c2:=vH k3 L4.hi hz.lo
    have t:=OF c1 c2
    have q:=Nr.sub L4 hz (by grind) (by grind) (by decide+kernel)
    exact iZ lu l0 u1 (Oh h1 hd (q.weak (by decide+kernel)) l0 lu u1 (by grind) (by grind) h6) t.1 t.2
   ·rw[eE k3]
    have t:=OG (vG k3 L4.lo hz.hi) hu.2
    have e:L=L+(U-L)*0:=by grind
    exact iZ lu l0 u1 (e▸h1.weak (by decide+kernel):Nr m1 (L+(U-L)*0) (1/2^22)) t.1 t.2
end
section
open PySem PySem.Float64
theorem El{N D:Int}(hD:0<D)(h0:0<=N)(h1:N<=6*D):jd ((N:Rat)/((6*D:Int):Rat))*(D:Rat)=(tn N D:Rat):=by
 have z0:((0:Int):Rat)=0:=rfl
 have z3:((3:Int):Rat)=3:=rfl
 have z4:((4:Int):Rat)=4:=rfl
 have z6:((6:Int):Rat)=6:=rfl
 have d1:((0:Int):Rat)<(D:Rat):=lW hD
 rw[z0]at d1
 have e6:((6*D:Int):Rat)=6*(D:Rat):=by rw[Rat.intCast_mul,z6]
 have hp:(0:Rat)<6*(D:Rat):=by grind
 have hu:=aZ (x:=(N:Rat)) hp
 rw[e6]
 generalize hU:(N:Rat)/(6*(D:Rat))=u at *
 have le:∀{c:Rat},u<=c↔(N:Rat)<=c*(6*(D:Rat)):=λ{c}=>⟨λh=>by rw[<-hu];exact Rat.mul_le_mul_of_nonneg_right h (Rat.le_of_lt hp),λh=>Rat.le_of_mul_le_mul_right (by rw[hu];exact h) hp⟩
 unfold jd tn
 by_cases k0:N=0
 ·have:(N:Rat)=0:=by rw[k0,z0]
  rw[if_pos (le.mpr (by rw[this];grind)),if_pos (by lia),this];grind
 ·have q0:((0:Int):Rat)<(N:Rat):=lW (by lia)
  rw[z0]at q0
  rw[if_neg (λh=>by have:=le.mp h;grind)]
  by_cases k1:N<=D
  ·have:(N:Rat)<=(D:Rat):=fK k1
   rw[if_pos (le.mpr (by grind)),if_pos k1];grind
  ·have q1:(D:Rat)<(N:Rat):=lW (by lia)
   rw[if_neg (λh=>by have:=le.mp h;grind),if_neg k1]
   by_cases k2:N<=3*D
   ·have:(N:Rat)<=((3*D:Int):Rat):=fK k2
    rw[Rat.intCast_mul,z3]at this
    rw[if_pos (le.mpr (by grind)),if_pos k2];grind
   ·have q2:((3*D:Int):Rat)<(N:Rat):=lW (by lia)
    rw[Rat.intCast_mul,z3]at q2
    rw[if_neg (λh=>by have:=le.mp h;grind),if_neg k2]
    by_cases k3:N<=4*D
    ·have:(N:Rat)<=((4*D:Int):Rat):=fK k3
     rw[Rat.intCast_mul,z4]at this
     rw[if_pos (le.mpr (by grind)),if_pos k3,bK,Rat.intCast_mul,z4];grind
    ·have q3:((4*D:Int):Rat)<(N:Rat):=lW (by lia)
     rw[Rat.intCast_mul,z4]at q3
     rw[if_neg (λh=>by have:=le.mp h;grind),if_neg k3,z0];grind
end
section
open PySem PySem.Float64
theorem EF{N' D:Int}{u:Rat}(hD:0<D)(h1:D<=1024)(e:u*(6*(D:Rat))=(N':Rat))(u1:-1/2^28<=u)(u2:u<=1+1/2^28):0<=N'/\N'<=6*D:=by
 have z0:((0:Int):Rat)=0:=rfl
 have z1:((1:Int):Rat)=1:=rfl
 have zm:((-1:Int):Rat)=-1:=rfl
 have z6:((6:Int):Rat)=6:=rfl
 have zk:((1024:Int):Rat)=1024:=rfl
 have d1:((0:Int):Rat)<(D:Rat):=lW hD
 have d2:(D:Rat)<=((1024:Int):Rat):=fK h1
 rw[z0]at d1
 rw[zk]at d2
 have hp:(0:Rat)<=6*(D:Rat):=by grind
 have w1:=Rat.mul_le_mul_of_nonneg_right u1 hp
 have w2:=Rat.mul_le_mul_of_nonneg_right u2 hp
 rw[e]at w1 w2
 have n1:((-1:Int):Rat)<(N':Rat):=by rw[zm];grind
 have n2:(N':Rat)<((6*D+1:Int):Rat):=by rw[Rat.intCast_add,Rat.intCast_mul,z6,z1];grind
 have n1:=Rat.intCast_lt_intCast.mp n1
 have n2:=Rat.intCast_lt_intCast.mp n2
 lia
theorem nQ{a b c hi lo k s:Int}{m1 m2 x s6 half Hs six:UInt64}(C:cI a b c hi lo)(hs:s=1\/s=0\/s=-1)(h1:Nr m1 ((lo:Rat)/1024) (1/2^36))(h2:Nr m2 ((hi:Rat)/1024) (1/2^36))
  (hx:Nr x ((aR a b c hi lo:Rat)/((6*(hi-lo):Int):Rat)+(k:Rat)+(s:Rat)/3) (1/2^30)) (e6:Nr s6 (1/6) (1/2^36)) (eh:Nr half (1/2) (1/2^36)) (L4:Nr Hs (2/3) (1/2^36)) (h6:Ex six 6):
  Nr (vF m1 m2 x s6 half Hs six) (((if s=1 then a else if s=0 then b else c:Int):Rat)/1024) (1/2^20):=by
 have z0:((0:Int):Rat)=0:=rfl
 have z2:((2:Int):Rat)=2:=rfl
 have z6:((6:Int):Rat)=6:=rfl
 have zk:((1024:Int):Rat)=1024:=rfl
 have q0:((0:Int):Rat)<=(lo:Rat):=fK C.l0
 have q1:(lo:Rat)<=(hi:Rat):=fK (by have:=C.lt;lia)
 have q2:(hi:Rat)<=((1024:Int):Rat):=fK C.h1
 rw[z0]at q0
 rw[zk]at q2
 have hD:0<hi-lo:=by have:=C.lt;lia
 have Ro:hi-lo<=1024:=by have:=C.h1;have:=C.l0;lia
 have dq:((0:Int):Rat)<((hi-lo:Int):Rat):=lW hD
 rw[z0]at dq
 obtain⟨n,hv,u1,u2⟩:=Lw (L:=(lo:Rat)/1024) (U:=(hi:Rat)/1024) h1 h2 (by grind) (by grind) (by grind) hx e6 eh L4 h6
 have P7:((6*(hi-lo):Int):Rat)=6*((hi-lo:Int):Rat):=by rw[Rat.intCast_mul,z6]
 have hp:(0:Rat)<6*((hi-lo:Int):Rat):=by grind
 generalize hu:(aR a b c hi lo:Rat)/((6*(hi-lo):Int):Rat)+(k:Rat)+(s:Rat)/3-(n:Rat)=u at *
 have eN:u*(6*((hi-lo:Int):Rat))=((aR a b c hi lo+2*s*(hi-lo)+6*(k-n)*(hi-lo):Int):Rat):=by
  have ec:((aR a b c hi lo+2*s*(hi-lo)+6*(k-n)*(hi-lo):Int):Rat)=(aR a b c hi lo:Rat)+2*(s:Rat)*((hi-lo:Int):Rat)+6*((k:Rat)-(n:Rat))*((hi-lo:Int):Rat):=by
   rw[Rat.intCast_add,Rat.intCast_add,Rat.intCast_mul,Rat.intCast_mul,Rat.intCast_mul,Rat.intCast_mul,bK k n,z2,z6]
  rw[ec,<-hu,P7]
  have:=aZ (x:=(aR a b c hi lo:Rat)) hp
  grind
 generalize Rq:aR a b c hi lo+2*s*(hi-lo)+6*(k-n)*(hi-lo)=N' at *
 have hin:=EF hD Ro eN u1 u2
 have et:u=(N':Rat)/((6*(hi-lo):Int):Rat):=by
  rw[P7,<-eN];grind
 have t:=El (N:=N') hD hin.1 hin.2
 rw[<-et]at t
 have p:=pX (z:=k-n) C hs hin.1 hin.2 Rq.symm
 rw[<-p]
 have e:(lo:Rat)/1024+((hi:Rat)/1024-(lo:Rat)/1024)*jd u=((lo+tn N' (hi-lo):Int):Rat)/1024:=by
  rw[Rat.intCast_add,<-t,bK];grind
 rw[e]at hv
 exact hv.weak (by decide+kernel)
end
section
open PySem PySem.Float64
noncomputable def Ky(l s half o:UInt64):UInt64:=bif (cmp l half==some .lt||cmp l half==some .eq)then mul l (add o s)else sub (add l s) (mul l s)
theorem x7{x:Rat}(h:1024<x):¬x/2048=1/2:=λq=>by
 have e:x=x/2048*2048:=by grind
 rw[q]at e;grind
theorem half_lt{x:Rat}(h:1024<x):¬x/2048<1/2:=λq=>by
 have e:x=x/2048*2048:=by grind
 grind
theorem x6{x:Rat}(h:x<=1024)(g:¬x/2048<1/2):x/2048=1/2:=by
 have e:x=x/2048*2048:=by grind
 grind
theorem Kz{hi lo:Int}{l s half o two:UInt64}(h0:0<=lo)(h1:hi<=1024)(lt:lo<hi)(hl:Ex l (((hi+lo:Int):Rat)/2048))(hs:Nr s (((hi-lo:Int):Rat)/((if hi+lo<=1024 then hi+lo else 2048-hi-lo:Int):Rat)) (1/2^40))(hh:Ex half (1/2))(ho:Ex o 1)(h2:Ex two 2):
  Nr (Ky l s half o) ((hi:Rat)/1024) (1/2^37)/\Nr (sub (mul two l) (Ky l s half o)) ((lo:Rat)/1024) (1/2^36):=by
 have z0:((0:Int):Rat)=0:=rfl
 have zk:((1024:Int):Rat)=1024:=rfl
 have zt:((2048:Int):Rat)=2048:=rfl
 have q0:((0:Int):Rat)<=(lo:Rat):=fK h0
 have q1:(lo:Rat)<(hi:Rat):=lW lt
 have q2:(hi:Rat)<=((1024:Int):Rat):=fK h1
 rw[z0]at q0
 rw[zk]at q2
 have es:((hi+lo:Int):Rat)=(hi:Rat)+(lo:Rat):=Rat.intCast_add _ _
 have ed:((hi-lo:Int):Rat)=(hi:Rat)-(lo:Rat):=bK _ _
 have ew:((2048-hi-lo:Int):Rat)=2048-(hi:Rat)-(lo:Rat):=by rw[bK,bK,zt]
 have key:Nr (Ky l s half o) ((hi:Rat)/1024) (1/2^37):=by
  unfold Ky
  rw[mq hl.fn hh.fn,sR hl.fn hh.fn,hl.eq,hh.eq,es]
  by_cases k:hi+lo<=1024
  ·have k':((hi+lo:Int):Rat)<=((1024:Int):Rat):=fK k
   rw[es,zk]at k'
   have c:(decide (((hi:Rat)+(lo:Rat))/2048<1/2)||decide (((hi:Rat)+(lo:Rat))/2048=1/2))=true:=by
    by_cases g:((hi:Rat)+(lo:Rat))/2048<1/2
    ·rw[eT g];rfl
    ·rw[eT (x6 k' g),Bool.or_true]
   rw[c]
   rw[if_pos k,ed,es]at hs
   rw[es]at hl
   have hp:(0:Rat)<(hi:Rat)+(lo:Rat):=by grind
   have S:=dW (u:=(hi:Rat)-(lo:Rat)) (by grind) (by grind) hp
   have m:=aZ (x:=(hi:Rat)-(lo:Rat)) hp
   generalize((hi:Rat)-(lo:Rat))/((hi:Rat)+(lo:Rat))=σ at *
   have t1:=Nr.add ho.nr hs (by grind) (by grind) (by decide+kernel)
   have t2:=Nr.mul (P:=1) (Q:=2) hl.nr t1 (by grind) (by grind) (by grind) (by grind) (by decide+kernel)
   have e:((hi:Rat)+(lo:Rat))/2048*(1+σ)=(hi:Rat)/1024:=by grind
   rw[e]at t2
   exact t2.weak (by decide+kernel)
  ·have k':((1024:Int):Rat)<((hi+lo:Int):Rat):=lW (by lia)
   rw[es,zk]at k'
   have c:(decide (((hi:Rat)+(lo:Rat))/2048<1/2)||decide (((hi:Rat)+(lo:Rat))/2048=1/2))=false:=by
    rw[eE (half_lt k'),eE (x7 k')];rfl
   rw[c]
   rw[if_neg k,ed,ew]at hs
   rw[es]at hl
   have hp:(0:Rat)<2048-(hi:Rat)-(lo:Rat):=by grind
   have S:=dW (u:=(hi:Rat)-(lo:Rat)) (v:=2048-(hi:Rat)-(lo:Rat)) (by grind) (by grind) hp
   have m:=aZ (x:=(hi:Rat)-(lo:Rat)) hp
   generalize((hi:Rat)-(lo:Rat))/(2048-(hi:Rat)-(lo:Rat))=σ at *
   have t1:=Nr.add hl.nr hs (by grind) (by grind) (by decide+kernel)
   have t2:=Nr.mul (P:=1) (Q:=1) hl.nr hs (by grind) (by grind) (by grind) (by grind) (by decide+kernel)
   have lb:=jv (a:=((hi:Rat)+(lo:Rat))/2048) (b:=σ) (c:=1) (d:=1) (by grind) (by grind) (by grind) (by grind)
   have t3:=Nr.sub t1 t2 (by grind) (by grind) (by decide+kernel)
   have e:((hi:Rat)+(lo:Rat))/2048+σ-((hi:Rat)+(lo:Rat))/2048*σ=(hi:Rat)/1024:=by grind
   rw[e]at t3
   exact t3.weak (by decide+kernel)
 refine⟨key,?_⟩
 rw[es]at hl
 have t1:=Nr.mul (P:=2) (Q:=1) h2.nr hl.nr (by decide+kernel) (by decide+kernel) (by grind) (by grind) (by decide+kernel)
 have t2:=Nr.sub t1 key (by grind) (by grind) (by decide+kernel)
 have e:2*(((hi:Rat)+(lo:Rat))/2048)-(hi:Rat)/1024=(lo:Rat)/1024:=by grind
 rw[e]at t2
 exact t2.weak (by decide+kernel)
end
end Q1
end Mine.Internal
end
section
section
set_option exponentiation.threshold 3000
namespace Mine.Internal
namespace Q1
open PySem PySem.Float64
def KI:Nat:=KK*2^30
theorem uU:0<KI:=Nat.mul_pos AB (Nat.two_pow_pos _)
theorem Jm:((KI:Nat):Rat)=(KK:Rat)*2^30:=by
 unfold KI
 rw[Rat.natCast_mul];rfl
theorem dG{x:UInt64}{p:Int}(h:Ex x ((p:Rat)/1024)):val x=p*(KI:Int):=by
 have hv:=dh x
 rw[h.eq]at hv
 have e:((p*(KI:Int):Int):Rat)=(p:Rat)*((KI:Nat):Rat):=Rat.intCast_mul _ _
 have:((val x:Int):Rat)=((p*(KI:Int):Int):Rat):=by
  rw[e,Jm,<-hv];grind
 exact_mod_cast this
theorem HH{x:UInt64}{i:Int}(h:Ex x (i:Rat)):val x=i*(2^1074:Nat):=by
 have hv:=dh x
 rw[h.eq]at hv
 have e:((i*((2^1074:Nat):Int):Int):Rat)=(i:Rat)*((2^1074:Nat):Rat):=Rat.intCast_mul _ _
 have:((val x:Int):Rat)=((i*((2^1074:Nat):Int):Int):Rat):=by
  rw[e,iu,hv]
 exact Rat.intCast_inj.mp this
theorem i7{a:Bool}{m:Nat}(h:0<sgn a m):a=false:=by
 cases a with
 |false=>rfl
 |true=>
  have:sgn true m=-(m:Int):=rfl
  rw[this]at h;lia
theorem BH{x y:UInt64}{p q:Int}(hx:Ex x ((p:Rat)/1024))(hy:Ex y ((q:Rat)/1024))(hp:0<p)(hq:0<q):div x y=ofFrac (decide (p<0) !=decide (q<0)) p.natAbs q.natAbs:=by
 have vx:=dG hx
 have vy:=dG hy
 have hK:(0:Int)<(KI:Int):=Int.ofNat_lt.mpr uU
 have px:0<val x:=by rw[vx];exact Int.mul_pos hp hK
 have py:0<val y:=by rw[vy];exact Int.mul_pos hq hK
 obtain⟨a,m,e,dx⟩:=hx.fn
 obtain⟨b,k,f,dy⟩:=hy.fn
 have ha:a=false:=i7 (by rw[<-val_eq dx];exact px)
 have hb:b=false:=i7 (by rw[<-val_eq dy];exact py)
 have hk:k≠0:=λq=>by
  rw[val_eq dy,q,Nat.zero_mul]at py
  cases b<;>exact absurd py (by decide)
 have r1:=div_right dx dy hk
 have hs:(decide (p<0) !=decide (q<0))=false:=by rw[eE (by lia),eE (by lia)];rfl
 rw[hs]
 have r2:Right (ofFrac false p.natAbs q.natAbs) false (p.natAbs*2^1074) q.natAbs:=ofFrac_right (by lia) rfl (by lia)
 rw[ha,hb]at r1
 refine pQ r1 r2 (by lia) (by lia) ?_
 rw[vx,vy,Int.natAbs_mul,Int.natAbs_mul,Int.natAbs_natCast]
 generalize(2:Nat)^1074=T
 ac_rfl
theorem jI{x:UInt64}(h:Fn x):(cmp x x==some .eq)=true:=by rw[sR h h];exact eT rfl
theorem xU{p q:Int}(hp:0<=p)(hq:0<q)(h:p<=q):Fn (ofFrac (decide (p<0) !=decide (q<0)) p.natAbs q.natAbs):=by
 have z0:((0:Int):Rat)=0:=rfl
 have q0:((0:Int):Rat)<=(p:Rat):=fK hp
 have q1:((0:Int):Rat)<(q:Rat):=lW hq
 have q2:(p:Rat)<=(q:Rat):=fK h
 rw[z0]at q0 q1
 have f:=dW q0 q2 q1
 exact(kQ (by lia) (bH (Rat.le_trans f.2 (by decide+kernel)) (Rat.le_trans (by decide+kernel) f.1))).fn
theorem oA{x y:UInt64}{p q:Int}(hx:Ex x ((p:Rat)/1024))(hy:Ex y ((q:Rat)/1024))(hp:0<p)(hq:0<q)(h:p<=q):(cmp (div x y) (ofFrac (decide (p<0) !=decide (q<0)) p.natAbs q.natAbs)==some .eq)=true:=by
 rw[BH hx hy hp hq]
 exact jI (xU (by lia) hq h)
theorem CN{x:UInt64}{i:Int}(h:Ex x (i:Rat)):(cmpInt x i==some .eq)=true:=by
 have v:=HH h
 obtain⟨a,m,e,dx⟩:=h.fn
 rw[cmpInt_right dx,v]
 have:i*((2^1074:Nat):Int)=i*2^1074:=by rw[Int.natCast_pow];rfl
 rw[this,Int.compare_eq_eq.mpr rfl]
 rfl
theorem xd{x:UInt64}{p:Int}(h:Ex x ((p:Rat)/1024))(h0:-1024<=p)(h1:p<=1024):Ex (mul x (ofInt 1024)) (p:Rat):=by
 have k:=dO (i:=1024) (by decide)
 have zk:((1024:Int):Rat)=1024:=rfl
 rw[zk]at k
 have q1:(p:Rat)<=((1024:Int):Rat):=fK h1
 have q0:((-1024:Int):Rat)<=(p:Rat):=fK h0
 have zm:((-1024:Int):Rat)=-1024:=rfl
 rw[zk]at q1
 rw[zm]at q0
 have e:R x*R (ofInt 1024)=(p:Rat):=by rw[h.eq,k.eq];grind
 have m:=C9 h.fn k.fn (by rw[e];exact bH (by grind) (by grind))
 rw[e]at m
 refine m.ex (p*1099511627776) ?_
 have e2:((p*1099511627776:Int):Rat)=(p:Rat)*((1099511627776:Int):Rat):=Rat.intCast_mul _ _
 have e3:((1099511627776:Int):Rat)=1099511627776:=rfl
 rw[e2,e3];grind
end Q1
end Mine.Internal
end
section
set_option exponentiation.threshold 3000
namespace Mine.Internal
namespace Q1
open PySem PySem.Float64
theorem uF{M x:UInt64}{hi a:Int}(hM:Ex M ((hi:Rat)/1024))(hx:Ex x ((a:Rat)/1024))(h0:0<hi)(h1:a<=hi)(h2:hi-a<=4000):∃m e,decode (sub M x)=.fin false m e:=by
 have hK:(0:Int)<(KI:Int):=Int.ofNat_lt.mpr uU
 have vM:=dG hM
 have vx:=dG hx
 have pM:0<val M:=by rw[vM];exact Int.mul_pos h0 hK
 by_cases h:a=hi
 ·obtain⟨s,m,e,dM⟩:=hM.fn
  obtain⟨s',m',e',dx⟩:=hx.fn
  have hs:s=false:=i7 (by rw[<-val_eq dM];exact pM)
  have q:=(sub_right dM dx).1 (by rw[vM,vx,h];lia)
  rw[q,hs]
  obtain⟨m,e,h,_⟩:=decode_pack false (t:=0) (by decide)
  exact⟨m,e,h⟩
 ·have d:=fZ hM hx (by lia) h2
  have vd:=dG d
  have pd:0<val (sub M x):=by rw[vd];exact Int.mul_pos (by lia) hK
  obtain⟨s,m,e,dd⟩:=d.fn
  have hs:s=false:=i7 (by rw[<-val_eq dd];exact pd)
  subst hs
  exact⟨m,e,dd⟩
theorem BI{x y x' y':UInt64}{p q p' q':Int}(hx:Ex x ((p:Rat)/1024))(hy:Ex y ((q:Rat)/1024))(hx':Ex x' ((p':Rat)/1024))(hy':Ex y' ((q':Rat)/1024))(hq:0<q)(hq':0<q')
  (sx:∃m e,decode x=.fin false m e) (Wc:∃m e,decode x'=.fin false m e) (h:p.natAbs*q'.natAbs=p'.natAbs*q.natAbs):div x y=div x' y':=by
 have hK:(0:Int)<(KI:Int):=Int.ofNat_lt.mpr uU
 have vy:=dG hy
 have Ue:=dG hy'
 have py:0<val y:=by rw[vy];exact Int.mul_pos hq hK
 have R7:0<val y':=by rw[Ue];exact Int.mul_pos hq' hK
 obtain⟨m,e,dx⟩:=sx
 obtain⟨m',e',UI⟩:=Wc
 obtain⟨b,k,f,dy⟩:=hy.fn
 obtain⟨b',k',f',Q2⟩:=hy'.fn
 have hb:b=false:=i7 (by rw[<-val_eq dy];exact py)
 have hb':b'=false:=i7 (by rw[<-val_eq Q2];exact R7)
 have hk:k≠0:=λq=>by
  rw[val_eq dy,q,Nat.zero_mul]at py
  cases b<;>exact absurd py (by decide)
 have hk':k'≠0:=λq=>by
  rw[val_eq Q2,q,Nat.zero_mul]at R7
  cases b'<;>exact absurd R7 (by decide)
 have r1:=div_right dx dy hk
 have r2:=div_right UI Q2 hk'
 rw[hb]at r1
 rw[hb']at r2
 refine pQ r1 r2 (by lia) (by lia) ?_
 rw[dG hx,dG hx',vy,Ue,Int.natAbs_mul,Int.natAbs_mul,Int.natAbs_mul,Int.natAbs_mul,Int.natAbs_natCast]
 generalize(2:Nat)^1074=T
 have:p.natAbs*KI*T*(q'.natAbs*KI)=p.natAbs*q'.natAbs*(KI*T*KI):=by ac_rfl
 rw[this,h]
 ac_rfl
theorem jy{M x m M' x' m':UInt64}{hi a lo hi' a' lo':Int}(hM:Ex M ((hi:Rat)/1024))(hx:Ex x ((a:Rat)/1024))(hm:Ex m ((lo:Rat)/1024))(hM':Ex M' ((hi':Rat)/1024))(hx':Ex x' ((a':Rat)/1024))(hm':Ex m' ((lo':Rat)/1024))
  (h:0<=lo/\lo<=a/\a<=hi/\hi<=1024/\lo<hi) (h':0<=lo'/\lo'<=a'/\a'<=hi'/\hi'<=1024/\lo'<hi') (e:(hi-a)*(hi'-lo')=(hi'-a')*(hi-lo)):div (sub M x) (sub M m)=div (sub M' x') (sub M' m'):=
 BI (fZ hM hx (by lia) (by lia)) (fZ hM hm (by lia) (by lia)) (fZ hM' hx' (by lia) (by lia)) (fZ hM' hm' (by lia) (by lia)) (by lia) (by lia) (uF hM hx (by lia) (by lia) (by lia)) (uF hM' hx' (by lia) (by lia) (by lia))
  (by rw[<-Int.natAbs_mul,<-Int.natAbs_mul,e])
theorem CI{r g b M m r' g' b' M' m':UInt64}{x y z hi lo x' y' z' hi' lo':Int}(C:cI x y z hi lo)(C':cI x' y' z' hi' lo')(hr:Ex r ((x:Rat)/1024))(hg:Ex g ((y:Rat)/1024))(hb:Ex b ((z:Rat)/1024))(hM:Ex M ((hi:Rat)/1024))(hm:Ex m ((lo:Rat)/1024))
  (hr':Ex r' ((x':Rat)/1024)) (hg':Ex g' ((y':Rat)/1024)) (hb':Ex b' ((z':Rat)/1024)) (hM':Ex M' ((hi':Rat)/1024)) (hm':Ex m' ((lo':Rat)/1024))
  (e1:(hi-x)*(hi'-lo')=(hi'-x')*(hi-lo)) (e2:(hi-y)*(hi'-lo')=(hi'-y')*(hi-lo)) (e3:(hi-z)*(hi'-lo')=(hi'-z')*(hi-lo)):gQ r g b M m=gQ r' g' b' M' m':=by
 have q1:=jy hM hr hm hM' hr' hm' ⟨C.l0,C.la,C.ha,C.h1,C.lt⟩ ⟨C'.l0,C'.la,C'.ha,C'.h1,C'.lt⟩ e1
 have q2:=jy hM hg hm hM' hg' hm' ⟨C.l0,C.lb,C.hb,C.h1,C.lt⟩ ⟨C'.l0,C'.lb,C'.hb,C'.h1,C'.lt⟩ e2
 have q3:=jy hM hb hm hM' hb' hm' ⟨C.l0,C.lc,C.hc,C.h1,C.lt⟩ ⟨C'.l0,C'.lc,C'.hc,C'.h1,C'.lt⟩ e3
 have d:hi-lo≠0:=by have:=C.lt;lia
 have d':hi'-lo'≠0:=by have:=C'.lt;lia
 have iff:∀u u':Int,(hi-u)*(hi'-lo')=(hi'-u')*(hi-lo)->(u=hi↔u'=hi'):=λu u' e=>by
  constructor
  ·intro h
   rw[h,Int.sub_self,Int.zero_mul]at e
   rcases Int.mul_eq_zero.mp e.symm with h|h
   ·lia
   ·exact absurd h d
  ·intro h
   rw[h,Int.sub_self,Int.zero_mul]at e
   rcases Int.mul_eq_zero.mp e with h|h
   ·lia
   ·exact absurd h d'
 unfold gQ
 rw[gK hr hM,gK hg hM,gK hr' hM',gK hg' hM',q1,q2,q3]
 rw[show decide (x=hi)=decide (x'=hi')from decide_eq_decide.mpr (iff _ _ e1),show decide (y=hi)=decide (y'=hi')from decide_eq_decide.mpr (iff _ _ e2)]
end Q1
end Mine.Internal
end
end
section
namespace Mine.Internal
namespace Q1
section
open PySem PySem.Float64
theorem uD{N D N' D':Int}(hD:0<D)(h1:D<=1024)(Qd:0<D')(Ve:D'<=1024)(h:N*D'<N'*D):(N:Rat)/((6*D:Int):Rat)+1/2^24<=(N':Rat)/((6*D':Int):Rat):=by
 have z0:((0:Int):Rat)=0:=rfl
 have z1:((1:Int):Rat)=1:=rfl
 have z6:((6:Int):Rat)=6:=rfl
 have zk:((1024:Int):Rat)=1024:=rfl
 have d1:((0:Int):Rat)<(D:Rat):=lW hD
 have QZ:((0:Int):Rat)<(D':Rat):=lW Qd
 have d2:(D:Rat)<=((1024:Int):Rat):=fK h1
 have Tn:(D':Rat)<=((1024:Int):Rat):=fK Ve
 rw[z0]at d1 QZ
 rw[zk]at d2 Tn
 have hq:((N*D'+1:Int):Rat)<=((N'*D:Int):Rat):=fK (by lia)
 rw[Rat.intCast_add,Rat.intCast_mul,Rat.intCast_mul,z1]at hq
 have e6:((6*D:Int):Rat)=6*(D:Rat):=by rw[Rat.intCast_mul,z6]
 have P7:((6*D':Int):Rat)=6*(D':Rat):=by rw[Rat.intCast_mul,z6]
 rw[e6,P7]
 have p:(0:Rat)<6*(D:Rat):=by grind
 have p':(0:Rat)<6*(D':Rat):=by grind
 have m:=aZ (x:=(N:Rat)) p
 have m':=aZ (x:=(N':Rat)) p'
 generalize(N:Rat)/(6*(D:Rat))=u at *
 generalize(N':Rat)/(6*(D':Rat))=u' at *
 have dd:=fB d2 Tn (Rat.le_of_lt d1) (Rat.le_of_lt QZ)
 have pp:(0:Rat)<(D:Rat)*(D':Rat):=Rat.mul_pos d1 QZ
 have k:(u'-u)*(6*((D:Rat)*(D':Rat)))=(N':Rat)*(D:Rat)-(N:Rat)*(D':Rat):=by
  have:(u'-u)*(6*((D:Rat)*(D':Rat)))=u'*(6*(D':Rat))*(D:Rat)-u*(6*(D:Rat))*(D':Rat):=by grind
  rw[this,m,m']
 have hs:1/2^24<=u'-u:=by
  refine Rat.le_of_mul_le_mul_right (c:=6*((D:Rat)*(D':Rat))) ?_ (by grind)
  rw[k]
  generalize(D:Rat)*(D':Rat)=w at *
  grind
 grind
theorem CH{r g b M m r' g' b' M' m':UInt64}{x y z hi lo x' y' z' hi' lo':Int}(C:cI x y z hi lo)(C':cI x' y' z' hi' lo')(hr:Ex r ((x:Rat)/1024))(hg:Ex g ((y:Rat)/1024))(hb:Ex b ((z:Rat)/1024))(hM:Ex M ((hi:Rat)/1024))(hm:Ex m ((lo:Rat)/1024))
  (hr':Ex r' ((x':Rat)/1024)) (hg':Ex g' ((y':Rat)/1024)) (hb':Ex b' ((z':Rat)/1024)) (hM':Ex M' ((hi':Rat)/1024)) (hm':Ex m' ((lo':Rat)/1024))
  (h:aR x y z hi lo*(hi'-lo')<aR x' y' z' hi' lo'*(hi-lo)):R (gQ r g b M m)<R (gQ r' g' b' M' m'):=by
 have n:=(nS C hr hg hb hM hm).1
 have n':=(nS C' hr' hg' hb' hM' hm').1
 have a:=uD (by have:=C.lt;lia) (by have:=C.h1;have:=C.l0;lia) (by have:=C'.lt;lia) (by have:=C'.h1;have:=C'.l0;lia) h
 have:=n.hi
 have:=n'.lo
 grind
section
variable{M m two:UInt64}{hi lo:Int}
theorem BS(hM:Ex M ((hi:Rat)/1024))(hm:Ex m ((lo:Rat)/1024))(h0:0<=hi/\hi<=1024)(h1:0<=lo/\lo<=1024):Ex (add M m) (((hi+lo:Int):Rat)/1024):=by
 have z0:((0:Int):Rat)=0:=rfl
 have zk:((1024:Int):Rat)=1024:=rfl
 have a0:((0:Int):Rat)<=(hi:Rat):=fK h0.1
 have a1:(hi:Rat)<=((1024:Int):Rat):=fK h0.2
 have b0:((0:Int):Rat)<=(lo:Rat):=fK h1.1
 have b1:(lo:Rat)<=((1024:Int):Rat):=fK h1.2
 rw[z0]at a0 b0
 rw[zk]at a1 b1
 have e:R M+R m=((hi+lo:Int):Rat)/1024:=by rw[hM.eq,hm.eq,Rat.intCast_add];grind
 have k:=AG hM.fn hm.fn (by rw[hM.eq,hm.eq];exact bH (by grind) (by grind))
 rw[e]at k
 exact k.ex _ (kL _)
theorem zg(a:Int):(a:Rat)/2048=((a*536870912:Int):Rat)/2^40:=by
 have e:((a*536870912:Int):Rat)=(a:Rat)*((536870912:Int):Rat):=Rat.intCast_mul _ _
 have e2:((536870912:Int):Rat)=536870912:=rfl
 rw[e,e2];grind
theorem xO{s:Int}(hM:Ex M ((s:Rat)/1024))(h2:Ex two 2)(h0:0<=s)(h1:s<=2048):Ex (div M two) ((s:Rat)/2048):=by
 have z0:((0:Int):Rat)=0:=rfl
 have zk:((2048:Int):Rat)=2048:=rfl
 have a0:((0:Int):Rat)<=(s:Rat):=fK h0
 have a1:(s:Rat)<=((2048:Int):Rat):=fK h1
 rw[z0]at a0
 rw[zk]at a1
 have e:R M/R two=(s:Rat)/2048:=by rw[hM.eq,h2.eq];grind
 have k:=pq hM.fn h2.fn (by rw[h2.eq];decide+kernel) (by rw[e];exact bH (by grind) (by grind))
 rw[e]at k
 exact k.ex _ (zg _)
theorem xe{x:UInt64}{s:Int}(h:Ex x ((s:Rat)/2048))(h0:0<=s)(h1:s<=2048):Ex (mul x (ofInt 2048)) (s:Rat):=by
 have k:=dO (i:=2048) (by decide)
 have z0:((0:Int):Rat)=0:=rfl
 have zk:((2048:Int):Rat)=2048:=rfl
 rw[zk]at k
 have a0:((0:Int):Rat)<=(s:Rat):=fK h0
 have a1:(s:Rat)<=((2048:Int):Rat):=fK h1
 rw[z0]at a0
 rw[zk]at a1
 have e:R x*R (ofInt 2048)=(s:Rat):=by rw[h.eq,k.eq];grind
 have q:=C9 h.fn k.fn (by rw[e];exact bH (by grind) (by grind))
 rw[e]at q
 refine q.ex (s*1099511627776) ?_
 have e2:((s*1099511627776:Int):Rat)=(s:Rat)*((1099511627776:Int):Rat):=Rat.intCast_mul _ _
 have e3:((1099511627776:Int):Rat)=1099511627776:=rfl
 rw[e2,e3];grind
theorem FP(hM:Ex M ((hi:Rat)/1024))(hm:Ex m ((lo:Rat)/1024))(h2:Ex two 2)(h0:0<=hi/\hi<=1024)(h1:0<=lo/\lo<=1024):Ex (sub (sub two M) m) (((2048-hi-lo:Int):Rat)/1024):=by
 have h2':Ex two (((2048:Int):Rat)/1024):=⟨h2.fn,by rw[h2.eq];have zk:((2048:Int):Rat)=2048:=rfl;rw[zk];decide+kernel⟩
 exact fZ (fZ h2' hM (by lia) (by lia)) hm (by lia) (by lia)
end
end
noncomputable abbrev V2:=Int×Int
noncomputable def bS(c d:V2):Int:=c.1*d.2-c.2*d.1
def n8(g c:V2):Bool:=decide (0<bS g c)
def ent(g c d:V2):Int:=if(!n8 g c&&n8 g d)=true then 1 else 0
noncomputable def ways(g:V2):V2->List V2->Int
 |_,[]=>0
 |c,d::r=>ent g c d+ways g d r
noncomputable def turns:V2->List V2->Prop
 |_,[]=>True
 |c,d::r=>0<bS c d/\turns d r
noncomputable def d8(c:V2):List V2->V2
 | []=>c
 |d::r=>d8 d r
def GV(g g' c:V2):Int:=if(n8 g c&&!n8 g' c)=true then 1 else 0
theorem JJ(c d g g':V2):bS g g'*bS c d=bS g c*bS g' d-bS g' c*bS g d:=by
 unfold bS
 generalize c.1=a;generalize c.2=b;generalize d.1=e;generalize d.2=f
 generalize g.1=p;generalize g.2=q;generalize g'.1=r;generalize g'.2=s
 grind
theorem yv{u t:Int}(h1:u<=0)(h2:0<=t):u*t<=0:=Int.mul_nonpos_of_nonpos_of_nonneg h1 h2
theorem FI{g g' c d:V2}(hg:0<bS g g')(h:0<bS c d):ent g c d-ent g' c d=GV g g' d-GV g g' c:=by
 have k:=JJ c d g g'
 have kp:=Int.mul_pos hg h
 rw[k]at kp
 unfold ent GV n8
 generalize bS g c=u at *
 generalize bS g' c=v at *
 generalize bS g d=r at *
 generalize bS g' d=t at *
 by_cases h1:0<u<;>by_cases h2:0<v<;>by_cases h3:0<r<;>by_cases h4:0<t
 all_goals simp only[h1,h2,h3,h4,decide_true,decide_false,Bool.not_true,Bool.not_false,Bool.and_true,Bool.and_false,Bool.true_and,Bool.false_and,if_true,if_false,Bool.false_eq_true]
 all_goals first
  |rfl
  |(exfalso;first
    |(have x1:=Int.mul_nonpos_of_nonneg_of_nonpos (Int.le_of_lt h1) (show t<=0 by lia);have x2:=Int.mul_nonneg (Int.le_of_lt h2) (Int.le_of_lt h3);lia)
    |(have x1:=Int.mul_nonpos_of_nonneg_of_nonpos (Int.le_of_lt h1) (show t<=0 by lia);have x2:=Int.mul_nonneg_of_nonpos_of_nonpos (show v<=0 by lia) (show r<=0 by lia);lia)
    |(have x1:=yv (show u<=0 by lia) (Int.le_of_lt h4);have x2:=Int.mul_nonneg (Int.le_of_lt h2) (Int.le_of_lt h3);lia)
    |(have x1:=yv (show u<=0 by lia) (Int.le_of_lt h4);have x2:=Int.mul_nonneg_of_nonpos_of_nonpos (show v<=0 by lia) (show r<=0 by lia);lia))
theorem ED{g g':V2}(hg:0<bS g g'):∀(l:List V2) (c:V2),turns c l->ways g c l-ways g' c l=GV g g' (d8 c l)-GV g g' c:=by
 intro w
 induction w with
 |nil=>
  intro c _
  show(0:Int)-0=GV g g' c-GV g g' c
  lia
 |cons d r ih=>
  intro c h
  have e:=FI hg h.1
  have ih:=ih d h.2
  show ent g c d+ways g d r-(ent g' c d+ways g' d r)=GV g g' (d8 d r)-GV g g' c
  lia
theorem p9{g g':V2}(hg:0<bS g g'){l:List V2}{c:V2}(h:turns c l)(hl:d8 c l=c):ways g c l=ways g' c l:=by
 have:=ED hg l c h
 rw[hl]at this
 lia
theorem sL(g g':V2):bS g' g=-bS g g':=by
 unfold bS
 rw[Int.mul_comm g'.1,Int.mul_comm g'.2];lia
noncomputable def wR(g:V2):V2:=(-g.2,g.1)
theorem Jb(x:Int):0<=x*x:=by
 by_cases h:0<=x
 ·exact Int.mul_nonneg h h
 ·exact Int.mul_nonneg_of_nonpos_of_nonpos (by lia) (by lia)
theorem Ox{x:Int}(h:x≠0):0<x*x:=by
 rcases Int.lt_or_gt_of_ne h with q|q
 ·exact Int.mul_pos_of_neg_of_neg q q
 ·exact Int.mul_pos q q
theorem sq_pos{g:V2}(h:g≠(0,0)):0<bS g (wR g):=by
 have e:bS g (wR g)=g.1*g.1+g.2*g.2:=by unfold bS wR;grind
 rw[e]
 have a:=Jb g.1
 have b:=Jb g.2
 by_cases h1:g.1=0
 ·by_cases h2:g.2=0
  ·exact absurd (Prod.ext h1 h2) h
  ·have:=Ox h2
   lia
 ·have:=Ox h1
  lia
theorem uL{g g':V2}(hg:g≠(0,0))(hg':g'≠(0,0)){l:List V2}{c:V2}(h:turns c l)(hl:d8 c l=c):ways g c l=ways g' c l:=by
 have two:∀{a b:V2},bS a b≠0->ways a c l=ways b c l:=λ{a b} q=>by
  rcases Int.lt_or_gt_of_ne q with q|q
  ·exact(p9 (by rw[sL];lia) h hl).symm
  ·exact p9 q h hl
 by_cases q:bS g g'=0
 ·have e1:=two (a:=g) (b:=wR g) (Int.ne_of_gt (sq_pos hg))
  have e2:bS (wR g) g'≠0:=λz=>by
   have i1:(g.1*g.1+g.2*g.2)*g'.1=0:=by unfold bS wR at *;grind
   have i2:(g.1*g.1+g.2*g.2)*g'.2=0:=by unfold bS wR at *;grind
   have s:=sq_pos hg
   have e:bS g (wR g)=g.1*g.1+g.2*g.2:=by unfold bS wR;grind
   rw[e]at s
   refine hg' (Prod.ext ?_ ?_)
   ·rcases Int.mul_eq_zero.mp i1 with x|x
    ·lia
    ·exact x
   ·rcases Int.mul_eq_zero.mp i2 with x|x
    ·lia
    ·exact x
  exact e1.trans (two e2)
 ·exact two q
noncomputable def up(c:V2):Bool:=decide (0<c.2\/(c.2=0/\0<c.1))
def sW(c d:V2):Int:=if(!up c&&up d)=true then 1 else 0
noncomputable def EY(c:V2):Int:=if c.2=0/\0<c.1 then 1 else 0
theorem AO:∀p r p' r':Bool,(p=true->r'=true->False)->(r=true->p'=false->False)->(p=true->r=true->False)->(p'=true->r'=true->False)->((if(!(p||r)&&(p'||r'))=true then 1 else 0)-(if(!p&&p')=true then 1 else 0):Int)=(if r'=true then 1 else 0)-(if r=true then 1 else 0):=by decide
theorem FT{c d:V2}(h:0<bS c d):sW c d-ent (1,0) c d=EY d-EY c:=by
 have k:∀c:V2,n8 (1,0) c=decide (0<c.2):=λc=>by
  unfold n8 bS
  rw[show(1,0).1*c.2-((1,0):V2).2*c.1=c.2 by show 1*c.2-0*c.1=c.2;rw[Int.one_mul,Int.zero_mul,Int.sub_zero]]
 have o:∀c:V2,EY c=if decide (c.2=0/\0<c.1)=true then 1 else 0:=λc=>by
  unfold EY
  by_cases q:c.2=0/\0<c.1
  ·rw[if_pos q,if_pos (eT q)]
  ·rw[if_neg q,if_neg (λz=>q (of_decide_eq_true z))]
 have n1:decide (0<c.2)=true->decide (d.2=0/\0<d.1)=true->False:=λp q=>by
  have p:=of_decide_eq_true p
  have q:=of_decide_eq_true q
  unfold bS at h
  rw[q.1,Int.mul_zero,Int.zero_sub]at h
  have:=Int.mul_pos p q.2
  lia
 have n2:decide (c.2=0/\0<c.1)=true->decide (0<d.2)=false->False:=λp q=>by
  have p:=of_decide_eq_true p
  have q:=of_decide_eq_false q
  unfold bS at h
  rw[p.1,Int.zero_mul,Int.sub_zero]at h
  exact q (Int.pos_of_mul_pos_left (by rw[Int.mul_comm];exact h) p.2)
 have n3:∀c:V2,decide (0<c.2)=true->decide (c.2=0/\0<c.1)=true->False:=λc p q=>Int.ne_of_gt (of_decide_eq_true p) (of_decide_eq_true q).1
 unfold sW ent up
 rw[k,k,o,o,Bool.decide_or,Bool.decide_or]
 exact AO _ _ _ _ n1 n2 (n3 c) (n3 d)
noncomputable def fM:V2->List V2->Int
 |_,[]=>0
 |c,d::r=>sW c d+fM d r
theorem zA:∀(l:List V2) (c:V2),turns c l->fM c l-ways (1,0) c l=EY (d8 c l)-EY c:=by
 intro w
 induction w with
 |nil=>
  intro c _
  show(0:Int)-0=EY c-EY c
  lia
 |cons d r ih=>
  intro c h
  have e:=FT h.1
  have ih:=ih d h.2
  show sW c d+fM d r-(ent (1,0) c d+ways (1,0) d r)=EY (d8 d r)-EY c
  lia
theorem vO{l:List V2}{c g:V2}(h:turns c l)(hl:d8 c l=c)(hg:g≠(0,0)):fM c l=ways g c l:=by
 have a:=zA l c h
 rw[hl]at a
 have b:=uL (g:=(1,0)) (g':=g) (by decide) hg h hl
 lia
noncomputable def gu(u v:V2)(c:V2):V2:=(c.1*u.1+c.2*v.1,c.1*u.2+c.2*v.2)
theorem mF(u v c d:V2):bS (gu u v c) (gu u v d)=bS u v*bS c d:=by
 unfold bS gu
 grind
theorem pZ{u v:V2}(h:bS u v=1):∀(l:List V2) (c:V2),turns c l->turns (gu u v c) (l.map (gu u v)):=by
 intro w
 induction w with
 |nil=>intros;exact trivial
 |cons d r ih=>intro c q;exact⟨by rw[mF,h,Int.one_mul];exact q.1,ih d q.2⟩
theorem tR(u v:V2):∀(l:List V2) (c:V2),d8 (gu u v c) (l.map (gu u v))=gu u v (d8 c l):=by
 intro w
 induction w with
 |nil=>intros;exact rfl
 |cons d r ih=>intro c;exact ih d
theorem EC{u v:V2}(h:bS u v=1)(g:V2):∀(l:List V2) (c:V2),ways (gu u v g) (gu u v c) (l.map (gu u v))=ways g c l:=by
 intro w
 induction w with
 |nil=>intros;exact rfl
 |cons d r ih=>
  intro c
  have e:ent (gu u v g) (gu u v c) (gu u v d)=ent g c d:=by unfold ent n8;rw[mF,mF,h,Int.one_mul,Int.one_mul]
  show ent (gu u v g) (gu u v c) (gu u v d)+ways (gu u v g) (gu u v d) (r.map (gu u v))=ent g c d+ways g d r
  rw[e,ih d]
theorem oF{u v:V2}(h:bS u v=1){l:List V2}{c g:V2}(ht:turns c l)(hl:d8 c l=c)(hg:g≠(0,0)):ways g (gu u v c) (l.map (gu u v))=ways (1,0) c l/\fM (gu u v c) (l.map (gu u v))=ways (1,0) c l:=by
 have t:=pZ h l c ht
 have e:=tR u v l c
 rw[hl]at e
 have hn:gu u v (1,0)≠(0,0):=λq=>by
  have k:=mF u v (1,0) (0,1)
  rw[q,h]at k
  have k1:bS (0,0) (gu u v (0,1))=0:=by unfold bS;simp
  have k2:bS (1,0) (0,1)=1:=by decide
  rw[k1,k2]at k
  exact absurd k (by decide)
 have a:=EC h (1,0) l c
 exact⟨(uL hg hn t e).trans a,(vO t e hn).trans a⟩
noncomputable def qZ(k:Nat)(p q:Int):V2:=match k with
 |0=>(p+q,q)|1=>(p,p+q)|2=>(-q,p)|3=>(-p-q,-q)|4=>(-p,-p-q)|_=>(q,-p)
theorem DP{hi lo q:Int}{k:Nat}(hk:k<6):qZ k (hi-lo-q) q=((rP k q hi lo).1-(rP k q hi lo).2.2,(rP k q hi lo).2.1-(rP k q hi lo).2.2):=by
 rcases six hk with rfl|rfl|rfl|rfl|rfl|rfl
 ·exact Prod.ext (show hi-lo-q+q=hi-lo by lia) (show q=lo+q-lo by lia)
 ·exact Prod.ext (show hi-lo-q=hi-q-lo by lia) (show hi-lo-q+q=hi-lo by lia)
 ·exact Prod.ext (show-q=lo-(lo+q) by lia) (show hi-lo-q=hi-(lo+q) by lia)
 ·exact Prod.ext (show-(hi-lo-q)-q=lo-hi by lia) (show-q=hi-q-hi by lia)
 ·exact Prod.ext (show-(hi-lo-q)=lo+q-hi by lia) (show-(hi-lo-q)-q=lo-hi by lia)
 ·exact Prod.ext (show q=hi-(hi-q) by lia) (show-(hi-lo-q)=lo-(hi-q) by lia)
theorem Cu{a b c hi lo:Int}(C:cI a b c hi lo):∃(k:Nat) (p q:Int),(k<6/\0<p/\0<=q)/\hi-lo=p+q/\aR a b c hi lo=(k:Int)*(p+q)+q/\qZ k p q=(a-c,b-c):=by
 obtain⟨h0,h6⟩:=vZ C
 have d:=Int.sub_pos.mpr C.lt
 have q0:=Int.emod_nonneg (aR a b c hi lo) (Int.ne_of_gt d)
 have q1:=Int.emod_lt_of_pos (aR a b c hi lo) d
 have e:=Int.mul_ediv_add_emod (aR a b c hi lo) (hi-lo)
 have k6:=Int.ediv_lt_of_lt_mul d h6
 obtain⟨k,hk⟩:=Int.eq_ofNat_of_zero_le (Int.ediv_nonneg h0 (Int.le_of_lt d))
 rw[hk]at e k6
 rw[Int.mul_comm]at e
 generalize aR a b c hi lo % (hi-lo)=q at *
 have Ry:k<6:=Int.ofNat_lt.mp k6
 refine⟨k,hi-lo-q,q,⟨Ry,Int.sub_pos.mpr q1,q0⟩,(Int.sub_add_cancel ..).symm,?_,?_⟩
 ·rw[Int.sub_add_cancel];exact e.symm
 ·rw[DP Ry,yO C Ry ⟨q0,Int.le_of_lt q1⟩ (.inl e.symm)]
theorem Cv{k:Nat}{p q p' q':Int}(hk:k<6):bS (qZ k p q) (qZ k p' q')=p*q'-q*p':=by
 rcases six hk with rfl|rfl|rfl|rfl|rfl|rfl<;>unfold bS qZ<;>grind
theorem Cw{k:Nat}{p q:Int}(hk:k<6)(hp:0<p)(hq:0<=q):up (qZ k p q)=decide (k<3):=by
 have s:=Int.add_pos_of_pos_of_nonneg hp hq
 rcases six hk with rfl|rfl|rfl|rfl|rfl|rfl
 ·exact decide_eq_decide.mpr ⟨λ_=>by decide,λ_=>(Int.lt_or_eq_of_le hq).imp id λe=>⟨e.symm,s⟩⟩
 ·exact decide_eq_decide.mpr ⟨λ_=>by decide,λ_=>.inl s⟩
 ·exact decide_eq_decide.mpr ⟨λ_=>by decide,λ_=>.inl hp⟩
 ·exact decide_eq_decide.mpr ⟨λ(h:0< -q\/-q=0/\0< -p-q)=>by lia,λh=>absurd h (by decide)⟩
 ·exact decide_eq_decide.mpr ⟨λ(h:0< -p-q\/-p-q=0/\0< -p)=>by lia,λh=>absurd h (by decide)⟩
 ·exact decide_eq_decide.mpr ⟨λ(h:0< -p\/-p=0/\0<q)=>by lia,λh=>absurd h (by decide)⟩
set_option synthInstance.maxSize 2000 in
theorem Si:∀k,k<6->∀k',k'<6->k'<k->(k<3\/3<=k')->(k=1/\k'=0)\/(k=2/\k'=0)\/(k=2/\k'=1)\/(k=4/\k'=3)\/(k=5/\k'=3)\/(k=5/\k'=4):=by decide
theorem Cs{k k':Nat}{p q p' q':Int}(h:k'<k)(hk:k<6)(hh:k<3\/3<=k')(hp:0<p)(hq:0<=q)(EV:0<p')(hq':0<=q'):bS (qZ k p q) (qZ k' p' q')<=0:=by
 have m1:=Int.mul_nonneg (Int.le_of_lt hp) (Int.le_of_lt EV)
 have m2:=Int.mul_nonneg (Int.le_of_lt hp) hq'
 have m3:=Int.mul_nonneg hq (Int.le_of_lt EV)
 have m4:=Int.mul_nonneg hq hq'
 rcases Si k hk k' (Nat.lt_trans h hk) h hh with⟨rfl,rfl⟩|⟨rfl,rfl⟩|⟨rfl,rfl⟩|⟨rfl,rfl⟩|⟨rfl,rfl⟩|⟨rfl,rfl⟩<;>unfold bS qZ<;>grind
theorem Ct{k k' p q p' q':Int}(h:k<k')(hp:0<p)(hq:0<=q)(EV:0<p')(hq':0<=q'):(k*(p+q)+q)*(p'+q')<(k'*(p'+q')+q')*(p+q):=by
 have m1:=Int.mul_pos hp EV
 have m2:=Int.mul_nonneg (Int.le_of_lt hp) hq'
 have m3:=Int.mul_nonneg hq (Int.le_of_lt EV)
 have m4:=Int.mul_nonneg hq hq'
 have m5:=Int.mul_nonneg (show 0<=k'-k-1 by lia) (Int.mul_nonneg (show 0<=p+q by lia) (show 0<=p'+q' by lia))
 have e:(k'*(p'+q')+q')*(p+q)-(k*(p+q)+q)*(p'+q')=(k'-k-1)*((p+q)*(p'+q'))+(p*p'+2*(p*q')+q*q'):=by grind
 lia
theorem CJ{a b c hi lo a' b' c' hi' lo':Int}(C:cI a b c hi lo)(C':cI a' b' c' hi' lo')(h:0<bS (a-c,b-c) (a'-c',b'-c')):
  (sW (a-c,b-c) (a'-c',b'-c')=0/\aR a b c hi lo*(hi'-lo')<aR a' b' c' hi' lo'*(hi-lo))\/(sW (a-c,b-c) (a'-c',b'-c')=1/\aR a' b' c' hi' lo'*(hi-lo)<aR a b c hi lo*(hi'-lo')):=by
 obtain⟨k,p,q,⟨hk,hp,hq⟩,e1,e2,e3⟩:=Cu C
 obtain⟨k',p',q',⟨hk',EV,hq'⟩,Q3,UQ,US⟩:=Cu C'
 rw[<-e3,<-US]at h⊢
 rw[e1,Q3,e2,UQ]
 unfold sW
 rw[Cw hk hp hq,Cw hk' EV hq']
 rcases Nat.lt_trichotomy k k' with g|g|g
 ·refine .inl ⟨?_,Ct (by lia) hp hq EV hq'⟩
  rw[if_neg]
  simp;lia
 ·subst g
  refine .inl ⟨?_,?_⟩
  ·rw[if_neg];simp
  ·rw[Cv hk]at h
   have e:((k:Int)*(p'+q')+q')*(p+q)-((k:Int)*(p+q)+q)*(p'+q')=p*q'-q*p':=by grind
   lia
 ·by_cases hh:k<3\/3<=k'
  ·have:=Cs g hk hh hp hq EV hq'
   lia
  ·refine .inr ⟨?_,Ct (by lia) EV hq' hp hq⟩
   rw[if_pos]
   simp;lia
noncomputable def rm(s x y:Rat):Int:=if(x<=s/\s<y)\/(y<x/\(x<=s\/s<y))then 1 else 0
noncomputable def oU(x y:Rat):Int:=if y<x then 1 else 0
noncomputable def qh(s x:Rat):Int:=if x<=s then 1 else 0
theorem GC(s x y:Rat):rm s x y=oU x y+qh s x-qh s y:=by
 unfold rm oU qh
 by_cases h1:x<=s<;>by_cases h2:y<=s<;>by_cases h3:y<x
 all_goals
  simp only[h1,h2,h3,if_true,if_false,true_and,false_and,true_or,false_or,and_true,and_false,or_true,or_false]
 all_goals first
  |(rw[if_pos (by grind)];rfl)
  |(rw[if_neg (by grind)];rfl)
  |rfl
  |(exfalso;grind)
noncomputable def rt(s:Rat):Rat->List Rat->Int
 |_,[]=>0
 |x,y::r=>rm s x y+rt s y r
noncomputable def kP:Rat->List Rat->Int
 |_,[]=>0
 |x,y::r=>oU x y+kP y r
noncomputable def pL(x:Rat):List Rat->Rat
 | []=>x
 |y::r=>pL y r
theorem C4(s:Rat):∀(l:List Rat) (x:Rat),rt s x l=kP x l+qh s x-qh s (pL x l):=by
 intro w
 induction w with
 |nil=>
  intro x
  show(0:Int)=0+qh s x-qh s x
  lia
 |cons y r ih=>
  intro x
  have a:=GC s x y
  have b:=ih y
  show rm s x y+rt s y r=oU x y+kP y r+qh s x-qh s (pL y r)
  lia
theorem wm(s:Rat){l:List Rat}{x:Rat}(h:pL x l=x):rt s x l=kP x l:=by
 have:=C4 s l x
 rw[h]at this
 lia
noncomputable def bZ(b l:V2):Int:=bif l.1==0 then b.2*l.2 else-(Int.fdiv (-b.1) l.1)
def jn(f:Int)(b l:V2):V2:=(f*l.1-b.1,f*l.2-b.2)
noncomputable def isUnit(b l:V2):Bool:=and (and (b.1==1) (b.2==0)) (and (l.1==0) (l.2==1))
noncomputable def e0(c d:V2):Int:=bif and (not (decide (0<c.2))) (decide (0<d.2))then 1 else 0
noncomputable def rY(m:Int)(c:V2):Bool:=and (and (decide (-m<=c.1)) (decide (c.1<=m))) (and (decide (-m<=c.2)) (decide (c.2<=m)))
def al(n:Nat)(f:Nat->Bool):Bool:=Nat.rec true (λi ih=>and (f i) ih) n
noncomputable def aO(x y:Int):Int:=max 0 (max (-x) (-y))
def bG(x y:Int):Int:=max (x+aO x y) (max (y+aO x y) (aO x y))
theorem oh(p q r:Int):p<=max p (max q r)/\q<=max p (max q r)/\r<=max p (max q r)/\(max p (max q r)=p\/max p (max q r)=q\/max p (max q r)=r):=
 ⟨Int.le_max_left ..,Int.le_trans (Int.le_max_left ..) (Int.le_max_right ..),Int.le_trans (Int.le_max_right ..) (Int.le_max_right ..),(Int.le_total (max q r) p).elim (λh=>.inl (Int.max_eq_left h)) λh=>.inr ((Int.le_total r q).elim (λk=>.inl ((Int.max_eq_right h).trans (Int.max_eq_left k))) λk=>.inr ((Int.max_eq_right h).trans (Int.max_eq_right k)))⟩
theorem yo{p q r h:Int}(a:p<=h)(b:q<=h)(c:r<=h)(t:p=h\/q=h\/r=h):max p (max q r)=h:=by
 have m:=oh p q r
 exact Int.le_antisymm (Int.max_le.mpr ⟨a,Int.max_le.mpr ⟨b,c⟩⟩) (t.elim (λe=>Int.le_trans (Int.le_of_eq e.symm) m.1) (·.elim (λe=>Int.le_trans (Int.le_of_eq e.symm) m.2.1) λe=>Int.le_trans (Int.le_of_eq e.symm) m.2.2.1))
theorem yq{p q r h:Int}(a:h<=p)(b:h<=q)(c:h<=r)(t:p=h\/q=h\/r=h):min p (min q r)=h:=by
 have m:min p (min q r)<=p/\min p (min q r)<=q/\min p (min q r)<=r:=⟨Int.min_le_left ..,Int.le_trans (Int.min_le_right ..) (Int.min_le_left ..),Int.le_trans (Int.min_le_right ..) (Int.min_le_right ..)⟩
 exact Int.le_antisymm (t.elim (λe=>Int.le_trans m.1 (Int.le_of_eq e)) (·.elim (λe=>Int.le_trans m.2.1 (Int.le_of_eq e)) λe=>Int.le_trans m.2.2 (Int.le_of_eq e))) (Int.le_min.mpr ⟨a,Int.le_min.mpr ⟨b,c⟩⟩)
theorem OI(x y:Int):0<=bG x y:=Int.le_trans (oh 0 (-x) (-y)).1 (oh (x+aO x y) (y+aO x y) (aO x y)).2.2.1
theorem J2(x y:Int):(bif decide (y>x)then y else x)=max x y:=by
 by_cases h:y>x
 ·rw[eT h];exact(Int.max_eq_right (Int.le_of_lt h)).symm
 ·rw[eE h];exact(Int.max_eq_left (Int.not_lt.mp h)).symm
theorem J3(x y:Int):(bif decide (y<x)then y else x)=min x y:=by
 by_cases h:y<x
 ·rw[eT h];exact(Int.min_eq_right (Int.le_of_lt h)).symm
 ·rw[eE h];exact(Int.min_eq_left (Int.not_lt.mp h)).symm
theorem JG{x y w:Int}(h:¬(x=0/\y=0))(h0:0<=w)(h1:bG x y+w<=1024):cI (x+aO x y+w) (y+aO x y+w) (aO x y+w) (bG x y+w) w:=by
 have L:=oh 0 (-x) (-y)
 have T:=oh (x+aO x y) (y+aO x y) (aO x y)
 change 0<=aO x y/\-x<=aO x y/\-y<=aO x y/\(aO x y=0\/aO x y=-x\/aO x y=-y)at L
 change _<=bG x y/\_<=bG x y/\_<=bG x y/\(bG x y=_\/bG x y=_\/bG x y=_)at T
 generalize bG x y=t at *
 generalize aO x y=l at *
 obtain⟨l1,l2,l3,l4⟩:=L
 obtain⟨t1,t2,t3,t4⟩:=T
 exact⟨h0,by clear t4 l4 h;lia,by clear t4 l4 h;lia,by clear t4 l4 h;lia,Int.add_le_add_right t1 w,Int.add_le_add_right t2 w,Int.add_le_add_right t3 w,h1,by clear t4;lia,t4.imp (λe=>by rw[e]) (·.imp (λe=>by rw[e]) (λe=>by rw[e])),by clear t4 h t1 t2 t3;lia⟩
theorem sH(x y w:Int):(x+aO x y+w-(aO x y+w),y+aO x y+w-(aO x y+w))=((x,y):V2):=Prod.ext (by show _=x;lia) (by show _=y;lia)
theorem Lo{x y m:Int}(h:0<=m)(hx:-m<=x/\x<=m)(hy:-m<=y/\y<=m):0<=bG x y/\bG x y<=2*m:=by
 have L:=oh 0 (-x) (-y)
 have T:=oh (x+aO x y) (y+aO x y) (aO x y)
 change 0<=aO x y/\_/\_/\(aO x y=0\/aO x y=-x\/aO x y=-y)at L
 change _/\_/\_<=bG x y/\(bG x y=_\/bG x y=_\/bG x y=_)at T
 generalize bG x y=t at *
 generalize aO x y=l at *
 have l4:l<=m:=by have:=L.2.2.2;clear T L;lia
 exact⟨Int.le_trans L.1 T.2.2.1,by have:=T.2.2.2;clear T L;lia⟩
theorem OJ{x y m:Int}(h:0<=m)(hx:-m<=x/\x<=m)(hy:-m<=y/\y<=m)(hd:-m<=x-y/\x-y<=m):bG x y<=m:=by
 have L:=oh 0 (-x) (-y)
 have T:=oh (x+aO x y) (y+aO x y) (aO x y)
 change 0<=aO x y/\_/\_/\(aO x y=0\/aO x y=-x\/aO x y=-y)at L
 change _/\_/\_/\(bG x y=_\/bG x y=_\/bG x y=_)at T
 generalize bG x y=t at *
 generalize aO x y=l at *
 have:=T.2.2.2
 have:=L.2.2.2
 clear T L;lia
theorem Hy{x y m:Int}(h:bG x y<=m):(-m<=x/\x<=m)/\-m<=y/\y<=m:=by
 have L:=oh 0 (-x) (-y)
 have T:=oh (x+aO x y) (y+aO x y) (aO x y)
 change 0<=aO x y/\-x<=aO x y/\-y<=aO x y/\_ at L
 change _<=bG x y/\_<=bG x y/\_<=bG x y/\_ at T
 have t:=λz (k:z<=bG x y)=>Int.le_trans k h
 have l:=t _ T.2.2.1
 exact⟨⟨Int.neg_le_of_neg_le (Int.le_trans L.2.1 l),Int.le_trans (Int.le_add_of_nonneg_right L.1) (t _ T.1)⟩,Int.neg_le_of_neg_le (Int.le_trans L.2.2.1 l),Int.le_trans (Int.le_add_of_nonneg_right L.1) (t _ T.2.1)⟩
theorem EE{t w:Int}(ht:0<=t)(h:t<=1024):0<=Int.fmod w (1025-t)/\t+Int.fmod w (1025-t)<=1024:=by
 have h1:=Int.fmod_nonneg_of_pos w (show 0<1025-t by lia)
 have h2:=Int.fmod_lt_of_pos w (show 0<1025-t by lia)
 generalize Int.fmod w (1025-t)=f at *
 exact⟨h1,by clear h1;lia⟩
noncomputable def az(c:Nat):V2:=match c with|0=>(1,0)|1=>(1,1)|2=>(0,1)|3=>(-1,0)|4=>(-1,-1)|_=>(0,-1)
theorem pe:∀c,c<6->∀g,g<2->bS (az c) (az ((c+g+1) % 6))=1/\(az c).1.natAbs+(az ((c+g+1) % 6)).1.natAbs<=2/\(az c).2.natAbs+(az ((c+g+1) % 6)).2.natAbs<=2/\((az c).1-(az c).2).natAbs+((az ((c+g+1) % 6)).1-(az ((c+g+1) % 6)).2).natAbs<=2:=by decide
theorem vE{c g:Nat}(hc:c<6)(hg:g<2):bS (az c) (az ((c+g+1) % 6))=1:=(pe c hc g hg).1
theorem wh{a b p q:Int}(ha:-419<=a/\a<=419)(hb:-419<=b/\b<=419)(h:p.natAbs+q.natAbs<=2):-838<=a*p+b*q/\a*p+b*q<=838:=by
 have h1:=Int.natAbs_add_le (a*p) (b*q)
 rw[Int.natAbs_mul,Int.natAbs_mul]at h1
 have h2:=Nat.mul_le_mul_right p.natAbs (show a.natAbs<=419 by lia)
 have h3:=Nat.mul_le_mul_right q.natAbs (show b.natAbs<=419 by lia)
 have:(a*p+b*q).natAbs<=838:=by lia
 clear h1 h2 h3 h ha hb
 lia
theorem DZ{a b:Int}{c g:Nat}(hc:c<6)(hg:g<2)(ha:-419<=a/\a<=419)(hb:-419<=b/\b<=419):bG (gu (az c) (az ((c+g+1) % 6)) (a,b)).1 (gu (az c) (az ((c+g+1) % 6)) (a,b)).2<=838:=by
 obtain⟨-,h1,h2,h3⟩:=pe c hc g hg
 refine OJ (by decide) (wh ha hb h1) (wh ha hb h2) ?_
 have:=wh ha hb h3
 rw[Int.mul_sub,Int.mul_sub]at this
 unfold gu
 lia
noncomputable def wsum(A:Int)(f:Nat->Nat):Nat->Int
 |0=>0
 |m+1=>wsum A f m+(A-(m:Int))*(f m:Int)
theorem Ak(A:Int):∀m,wsum A (λ_=>0) m=0:=by
 intro w
 induction w with
 |zero=>exact rfl
 |succ m ih=>
  show wsum A (λ_=>0) m+(A-(m:Int))*((0:Nat):Int)=0
  rw[ih];simp
theorem Aj(A:Int)(f:Nat->Nat)(x:Nat):∀m,wsum A (λk=>if k=x then f k+1 else f k) m=wsum A f m+if x<m then A-(x:Int)else 0:=by
 intro w
 induction w with
 |zero=>simp[wsum]
 |succ m ih=>
  have ih:=ih
  show wsum A (λk=>if k=x then f k+1 else f k) m+(A-(m:Int))*(((if m=x then f m+1 else f m:Nat)):Int)=wsum A f m+(A-(m:Int))*(f m:Int)+if x<m+1 then A-(x:Int)else 0
  rw[ih]
  by_cases h:m=x
  ·subst h
   rw[if_neg (by lia),if_pos rfl,if_pos (by lia)]
   have:((f m+1:Nat):Int)=(f m:Int)+1:=by lia
   rw[this,Int.mul_add,Int.mul_one];lia
  ·rw[if_neg h]
   by_cases g:x<m
   ·rw[if_pos g,if_pos (by lia)];lia
   ·rw[if_neg g,if_neg (by lia)];lia
theorem zq(A:Int)(m:Nat):∀l:List Nat,(∀x∈l,x<m)->wsum A (λk=>l.count k) m=(l.map λ(x:Nat)=>A-(x:Int)).sum:=by
 intro w
 induction w with
 |nil=>intros;simpa using Ak A m
 |cons x l ih=>
  intro h
  have ih:=ih λy q=>h y (f5 _ q)
  have e:(λk=>(x::l).count k)=λk=>if k=x then l.count k+1 else l.count k:=funext λk=>by
   rw[List.count_cons]
   by_cases q:x=k
   ·subst q;simp
   ·have t:(x==k)=false:=beq_eq_false_iff_ne.mpr q
    have q':¬k=x:=λz=>q z.symm
    rw[t]
    simp[q']
  rw[e,Aj,ih,if_pos (h x eF),List.map_cons,List.sum_cons]
  lia
section
open PySem PySem.Float64
theorem pC{r g b M m r' g' b' M' m':UInt64}{x y z hi lo x' y' z' hi' lo':Int}(C:cI x y z hi lo)(C':cI x' y' z' hi' lo')(hr:Ex r ((x:Rat)/1024))(hg:Ex g ((y:Rat)/1024))(hb:Ex b ((z:Rat)/1024))(hM:Ex M ((hi:Rat)/1024))(hm:Ex m ((lo:Rat)/1024))
  (hr':Ex r' ((x':Rat)/1024)) (hg':Ex g' ((y':Rat)/1024)) (hb':Ex b' ((z':Rat)/1024)) (hM':Ex M' ((hi':Rat)/1024)) (hm':Ex m' ((lo':Rat)/1024)) (h:0<bS (x-z,y-z) (x'-z',y'-z')):
  oU (R (gQ r g b M m)) (R (gQ r' g' b' M' m'))=sW (x-z,y-z) (x'-z',y'-z'):=by
 unfold oU
 rcases CJ C C' h with⟨e,k⟩|⟨e,k⟩
 ·have q:=CH C C' hr hg hb hM hm hr' hg' hb' hM' hm' k
  rw[e,if_neg (by grind)]
 ·have q:=CH C' C hr' hg' hb' hM' hm' hr hg hb hM hm k
  rw[e,if_pos q]
end
end Q1
end Mine.Internal
end
section
open PySem PySem.W PyProof.Rows
namespace Mine.Internal
section
variable{sc:SC}{Φ:bO}{σ σ' σ₁:List Slot}{p pos:Pos}{x y z:PV}{α β:Type}
theorem av{c:Bool}{a b:α}(h:c=true):(bif c then a else b)=a:=by rw[h];rfl
theorem JI{c:Bool}{a b:α}(h:c=false):(bif c then a else b)=b:=by rw[h];rfl
theorem aV{n:Nat}(h:n<=1000000):fits n=true:=Nat.ble_eq.mpr h
theorem mw{i:Int}(h1:-1000000<=i)(h2:i<=1000000):sm i=true:=Nat.blt_eq.mpr (by lia)
theorem Iv{i:Int}(h1:-1000000<=i)(h2:i<=1000000):few i=true:=by
 unfold few;rw[mw h1 h2,aV (by lia)];rfl
theorem bW{op:Operator}{b:B2 op}{l r:SE sc}(h1:l.ev Φ σ=some x)(h2:r.ev Φ σ=some y)(h3:b.f x y=some z):(SE.bin b l r p).ev Φ σ=some z:=by
 show(l.ev Φ σ).bind _=_;rw[h1];show(r.ev Φ σ).bind _=_;rw[h2];exact h3
theorem cE{op:CmpOp}{b:C2 op}{l r:SX sc}{k:Bool}(h1:l.ev Φ σ=some x)(h2:r.ev Φ σ=some y)(h3:b.f x y=some k):(SB.cmp b l r p).ev Φ σ=some k:=by
 show(l.ev Φ σ).bind _=_;rw[h1];show(r.ev Φ σ).bind _=_;rw[h2];exact h3
theorem Nh{op:CmpOp}{b:C2 op}{l r:SX sc}{k:Bool}(h1:l.ev Φ σ=some x)(h2:r.ev Φ σ=some y)(h3:b.f x y=some k):(SE.cmp b l r p).ev Φ σ=some (.bool k):=by
 show(l.ev Φ σ).bind _=_;rw[h1];show(r.ev Φ σ).bind _=_;rw[h2];show(b.f x y).map _=_;rw[h3];rfl
theorem bnd{o:Option α}{a:α}{f:α->Option β}{r:Option β}(h:o=some a)(h':f a=r):o.bind f=r:=by rw[h];exact h'
theorem mp{o:Option α}{a:α}{f:α->β}(h:o=some a):o.map f=some (f a):=by rw[h];rfl
theorem qU{a:SE sc}(h:a.ev Φ σ=some x):ig Φ σ [a]=some [x]:=by unfold ig;rw[h];rfl
theorem gp{a b:SE sc}(h:a.ev Φ σ=some x)(h':b.ev Φ σ=some y):ig Φ σ [a,b]=some [x,y]:=by unfold ig;rw[h,qU h'];rfl
theorem jt{a b c:SE sc}(h:a.ev Φ σ=some x)(h':b.ev Φ σ=some y)(h'':c.ev Φ σ=some z):ig Φ σ [a,b,c]=some [x,y,z]:=by unfold ig;rw[h,gp h' h''];rfl
theorem JU{as:List (SE sc)}{ps:List PV}{k:Nat}(h:ig Φ σ as=some ps)(h':ps.length<=1000000):(SE.tup as k p).ev Φ σ=some (.tup ps):=by
 show(ig Φ σ as).bind _=_;rw[h];exact av (aV h')
theorem JT{t:SB sc}{a b:SE sc}{k:Bool}(h:t.ev Φ σ=some k):(SE.ite t a b p).ev Φ σ=bif k then a.ev Φ σ else b.ev Φ σ:=by
 show(t.ev Φ σ).bind _=_;rw[h];rfl
theorem fh{n i:Nat}(h:i<1000000):at? n (i:Int)=some i:=by
 unfold at?;rw[av (mw (by lia) (by lia)),av (eT (Int.natCast_nonneg i))];rfl
theorem vL{a:SW sc}{b:SE sc}{xs:List PV}{i:Nat}(h1:a.ev Φ σ=some xs)(h2:b.ev Φ σ=some (.int i))(hi:i<1000000)(h3:xs[i]?=some z):(SE.idx a b p).ev Φ σ=some z:=by
 show(a.ev Φ σ).bind _=_;rw[h1];show(b.ev Φ σ).bind _=_;rw[h2];show(at? xs.length (i:Int)).bind _=_;rw[fh hi];exact h3
theorem Ng{a:SE sc}{xs:List PV}(h:a.ev Φ σ=some (.lst xs)):(SW.of a).ev Φ σ=some xs:=by
 show(a.ev Φ σ).bind _=_;rw[h];rfl
theorem DS{a:SS sc}{r:SL sc}(h:a.ex Φ σ=some (.next σ')):(SL.cons a r).ex Φ σ=r.ex Φ σ':=by show f7 _ _=_;rw[h];rfl
theorem cW{a:SS sc}{r:SL sc}(h:a.ex Φ σ=some (.ret x)):(SL.cons a r).ex Φ σ=some (.ret x):=by show f7 _ _=_;rw[h];rfl
theorem gM{c:Cp sc}{ys:List PV}(e:c.ev Φ σ=some ys):(SE.comp c).ev Φ σ=some (.lst ys):=by show(c.ev Φ σ).map _=_;rw[e];rfl
theorem ao{a:SS sc}{r:SL sc}{o:Option Out}(h:a.ex Φ σ=some (.next σ'))(k:r.ex Φ σ'=o):(SL.cons a r).ex Φ σ=o:=(DS h).trans k
theorem vN{v:SE sc}(e:v.ev Φ σ=some x):(SS.ret v pos).ex Φ σ=some (.ret x):=by show(v.ev Φ σ).map _=_;rw[e];rfl
theorem kO{t:SB sc}{a b:SL sc}{k:Bool}(e:t.ev Φ σ=some k):(SS.ite t a b pos).ex Φ σ=bif k then a.ex Φ σ else b.ex Φ σ:=by show(t.ev Φ σ).bind _=_;rw[e];rfl
theorem cz{bind:PV->List Slot->Option (List Slot)}{f:List Slot->Option Out}{xs:List PV}{σ₂:List Slot}(h1:bind x σ=some σ₁)(h2:f σ₁=some (.next σ₂)):loopGo bind f (x::xs) σ=loopGo bind f xs σ₂:=by
 show(bind x σ).bind _=_;rw[h1];show(f σ₁).bind _=_;rw[h2];rfl
theorem jY{bind:PV->List Slot->Option (List Slot)}{f:List Slot->Option Out}{xs:List PV}{σ₂:List Slot}{o:Option Out}(h1:bind x σ=some σ₁)(h2:f σ₁=some (.next σ₂))(k:loopGo bind f xs σ₂=o):loopGo bind f (x::xs) σ=o:=(cz h1 h2).trans k
theorem oY{t:SB sc}{a b:SL sc}{k:Bool}{o:Option Out}(e:t.ev Φ σ=some k)(h:(bif k then a.ex Φ σ else b.ex Φ σ)=o):(SS.ite t a b pos).ex Φ σ=o:=by show(t.ev Φ σ).bind _=_;rw[e];exact h
theorem CZ{bind:PV->List Slot->Option (List Slot)}{f:List Slot->Option Out}{xs:List PV}(h1:bind x σ=some σ₁)(h2:f σ₁=some (.ret y)):loopGo bind f (x::xs) σ=some (.ret y):=by
 show(bind x σ).bind _=_;rw[h1];show(f σ₁).bind _=_;rw[h2];rfl
theorem comp_map{tg:SP sc}{ifs:SF sc}{elt:SE sc}{k:Nat}{f g:α->PV}:∀{ys:List α},(∀y∈ys,∃σ',tg.bind (f y) (dF k σ)=some σ'/\ifs.ev Φ σ'=some true/\elt.ev Φ σ'=some (g y))->fq tg ifs elt k Φ σ (ys.map f)=some (ys.map g):=by
 intro w
 induction w with
 |nil=>intros;exact rfl
 |cons y ys ih=>
  intro h
  obtain⟨σ',h1,h2,h3⟩:=h y eF
  show(tg.bind (f y) (dF k σ)).bind _=_
  rw[h1];show(ifs.ev Φ σ').bind _=_
  rw[h2];show(elt.ev Φ σ').bind (λz=>(fq tg ifs elt k Φ σ (ys.map f)).map (z::·))=_
  rw[h3,ih λy m=>h y (f5 _ m)];rfl
theorem lR{c:Cp sc}{xs ys:List PV}(h1:c.it.ev Φ σ=some xs)(h2:fq c.tg c.ifs c.elt (aK c.scope).length Φ σ xs=some ys)(h3:ys.length<=1000000):c.ev Φ σ=some ys:=by
 show(c.it.ev Φ σ).bind _=_;rw[h1];show(fq _ _ _ _ _ _ _).bind _=_;rw[h2];exact av (aV h3)
end
noncomputable def iv(xs:List Int):List PV:=xs.map PV.int
noncomputable def nv(xs:List Nat):List PV:=xs.map λ(n:Nat)=>PV.int (n:Int)
noncomputable def tx(xs:List Nat):Str:=⟨xs.toArray⟩
theorem fF(xs:List Nat):(tx xs).length=xs.length:=by unfold tx Str.length;exact List.size_toArray
theorem Es(a b:List Nat):tx a++tx b=tx (a++b):=by
 show(⟨a.toArray++b.toArray⟩:Str)=⟨(a++b).toArray⟩
 rw[List.append_toArray]
theorem Lp(a b:List Nat):(tx a==tx b)=(a==b):=by
 by_cases h:a=b
 ·subst h;rw[beq_self_eq_true,beq_self_eq_true]
 ·rw[beq_eq_false_iff_ne.mpr h]
  exact beq_eq_false_iff_ne.mpr λq=>h (List.toArray_inj (congrArg Str.cps q))
theorem Lq(c n:Nat):zX (tx [c]) n=tx (List.replicate n c):=by
 unfold zX tx
 congr 2
 show(List.replicate n [c]).flatten=_
 induction n with
 |zero=>rfl
 |succ n ih=>rw[List.replicate_succ,List.flatten_cons,ih,List.replicate_succ];rfl
theorem wV:∀xs:List Int,DM cQ (iv xs)=some xs
 | []=>rfl
 |x::xs=>by
  show(DM cQ (iv xs)).map (x::·)=_
  rw[wV xs];rfl
theorem mK{xs:List PV}(h:xs.length<=1000000):jX.f [.lst xs]=some (.int xs.length):=av (aV h)
theorem qL{n i:Nat}(h:i<=n):(max 0 (min (i:Int) (n:Int))).toNat=i:=by
 rw[Int.min_eq_left (Int.ofNat_le.mpr h),Int.max_eq_right (Int.natCast_nonneg i)];rfl
theorem nq{n i:Nat}(h:i<=n):clipAt n (i:Int)=i:=by unfold clipAt;rw[if_neg (Int.not_lt.mpr (Int.natCast_nonneg i))];exact qL h
theorem xN{α:Type}{xs:List α}{a b:Nat}(ha:a<=xs.length)(hb:b<=xs.length):cut xs xs.length (some (a:Int)) (some (b:Int))=(xs.drop a).take (b-a):=by
 unfold cut;rw[Option.elim_some,Option.elim_some,nq ha,nq hb]
theorem BE{α:Type}{xs:List α}{a:Nat}(ha:a<=xs.length):cut xs xs.length (some (a:Int)) none=xs.drop a:=by
 unfold cut;rw[Option.elim_some,Option.elim_none,nq ha]
 exact List.take_of_length_le (by rw[List.length_drop];exact Nat.le_refl _)
theorem BD{xs:List Nat}{a b:Nat}(ha:a<=xs.length)(hb:b<=xs.length):sM (tx xs) (some (a:Int)) (some (b:Int))=tx ((xs.drop a).take (b-a)):=by
 unfold sM;rw[fF];exact congrArg tx (xN ha hb)
theorem zu{xs:List Nat}{a:Nat}(ha:a<=xs.length):sM (tx xs) (some (a:Int)) none=tx (xs.drop a):=by
 unfold sM;rw[fF];exact congrArg tx (BE ha)
namespace L
def upd(r:Nat->Slot)(i:Nat)(t:Slot)(j:Nat):Slot:=bif Nat.beq j i then t else r j
noncomputable abbrev zD (r:Nat->Slot):Nat->Nat->List Slot:=λn k=>Nat.rec (motive:=λ_=>Nat->List Slot) (λ_=>[]) (λ_ ih k=>r k::ih (Nat.succ k)) n k
def FW(r:Nat->Slot):List Slot:=zD r 55 0
theorem cu{r:Nat->Slot}{i:Nat}{t:Slot}(h:r i=t):upd r i t=r:=funext λj=>by
 unfold upd
 cases c:Nat.beq j i with
 |true=>rw[Nat.eq_of_beq_eq_true c];exact h.symm
 |false=>rfl
theorem yU(r:Nat->Slot)(i:Nat)(t:Slot):upd r i t i=t:=by unfold upd;rw[Nat.beq_refl];rfl
theorem aM{r:Nat->Slot}{i j:Nat}{t:Slot}(h:Nat.beq j i=false):upd r i t j=r j:=by unfold upd;rw[h];rfl
theorem bU{j i:Nat}(h:j≠i):Nat.beq j i=false:=by
 cases c:Nat.beq j i with
 |true=>exact absurd (Nat.eq_of_beq_eq_true c) h
 |false=>rfl
theorem F7(r:Nat->Slot):∀(n k i:Nat),i<n->(zD r n k)[i]?=some (r (k+i)):=by
 intro w
 induction w with
 |zero=>intro _ _ h;exact absurd h (Nat.not_lt_zero _)
 |succ n ih=>
  intro k v
  cases v with
  |zero=>intros;exact rfl
  |succ i=>
   intro h
   show(zD r n (Nat.succ k))[i]?=_
   rw[ih (Nat.succ k) i (Nat.lt_of_succ_lt_succ h),Nat.succ_add];rfl
theorem B5(r r':Nat->Slot):∀(n k:Nat),(∀j,k<=j->r j=r' j)->zD r n k=zD r' n k:=by
 intro w
 induction w with
 |zero=>intros;exact rfl
 |succ n ih=>
  intro k h
  show r k::zD r n (Nat.succ k)=r' k::zD r' n (Nat.succ k)
  rw[h k (Nat.le_refl _),ih (Nat.succ k) λj q=>h j (Nat.le_of_succ_le q)]
theorem F9(r:Nat->Slot)(t:Slot):∀(n k i:Nat),i<n->(zD r n k).set i t=zD (upd r (k+i) t) n k:=by
 intro w
 induction w with
 |zero=>intro _ _ h;exact absurd h (Nat.not_lt_zero _)
 |succ n ih=>
  intro k v
  cases v with
  |zero=>
   intros
   show t::zD r n (Nat.succ k)=upd r k t k::zD (upd r k t) n (Nat.succ k)
   rw[yU,B5 r (upd r k t) n (Nat.succ k) λj q=>(aM (bU (by lia))).symm]
  |succ i=>
   intro h
   show r k::(zD r n (Nat.succ k)).set i t=upd r (k+(i+1)) t k::zD (upd r (k+(i+1)) t) n (Nat.succ k)
   rw[ih (Nat.succ k) i (Nat.lt_of_succ_lt_succ h),show Nat.succ k+i=k+(i+1) by lia,aM (bU (by lia))]
section
variable{sc:SC}{Φ:bO}{r:Nat->Slot}{p q:PV}{n i:Nat}
theorem bz(h:i<55):(FW r)[i]?=some (r i):=by unfold FW;rw[F7 r 55 0 i h,Nat.zero_add]
theorem fc{t:Slot}(h:i<55):(FW r).set i t=FW (upd r i t):=by unfold FW;rw[F9 r t 55 0 i h,Nat.zero_add]
theorem sV{σ:List Slot}{t:Slot}(h:σ[i]?=some t)(e:t=.val p):ee σ i=some p:=by unfold ee;rw[h,e];rfl
theorem sO{σ:List Slot}{t:Slot}{xs:List PV}(h:σ[i]?=some t)(e:t=.own xs):eW σ i=some xs:=by unfold eW;rw[h,e];rfl
theorem yl{a:SW sc}{σ:List Slot}{xs:List PV}{k:Nat}{p1 p2 p3:Pos}(h:a.ev Φ σ=some (xs++[q]))(hz:xs.length<=1000):(SE.idx a (.oJ gB (.int 1 k p1) p2) p3).ev Φ σ=some q:=by
 refine bnd h ?_
 show(at? (xs++[q]).length (-1)).bind _=_
 have e:at? (xs++[q]).length (-1)=some xs.length:=by
  unfold at?
  rw[ay,List.length_singleton,av (mw (by lia) (by lia)),JI (eE (by lia)),av (eT (by lia))]
  exact congrArg some (by lia)
 rw[e]
 show(xs++[q])[xs.length]?=_
 rw[List.getElem?_append_right (Nat.le_refl _),Nat.sub_self];rfl
theorem wz{a:SE sc}{b:SE sc}{σ:List Slot}{d n:Nat}{p:Pos}(h1:a.ev Φ σ=some (.int (d:Int)))(h2:b.ev Φ σ=some (.int (n:Int)))(hn:0<n):(SE.bin j0 a b p).ev Φ σ=some (.int ((d % n:Nat):Int)):=by
 have hnz:nz (n:Int)=true:=by unfold nz;rw[beq_eq_false_iff_ne.mpr (by lia)];rfl
 refine bW h1 h2 ((av hnz).trans ?_)
 show some (PV.int (Int.fmod (d:Int) (n:Int)))=_
 rw[Int.fmod_eq_emod_of_nonneg _ (by lia)];rfl
theorem p8{r:Nat->Slot}{i:Nat}{t u:Slot}:upd (upd r i t) i u=upd r i u:=funext λj=>by
 unfold upd
 cases Nat.beq j i<;>rfl
end
end L
end Mine.Internal
end
section
open PySem PySem.W PyProof.Rows
namespace Mine.Internal
namespace L
noncomputable def vP:Int->List Nat->List Int
 |_,[]=>[]
 |n,b::bs=>Int.fmod n (b:Int)::vP (Int.fdiv n (b:Int)) bs
section
variable{Φ:bO}
abbrev Nm:=(rV (sc:=Ay.sc nm) ⟨3,"base",(qz 265 8 12)⟩).bind
theorem nX(xs:List Int):(iv xs).length=xs.length:=List.length_map _
theorem zB{s1:Slot}:∀(bs:List Nat) (n:Int) (acc:List Int) (t:Slot),(∀b∈bs,0<b/\b<=1000)->acc.length+bs.length<=1000->∃n' t',loopGo Nm (H7.ex Φ) (nv bs) [.val (.int n),s1,.own (iv acc),t]=some (.next [.val (.int n'),s1,.own (iv (acc++vP n bs)),t']):=by
 intro w
 induction w with
 |nil=>intro n acc t _ _;exact⟨n,t,by rw[show acc++vP n []=acc from List.append_nil _];rfl⟩
 |cons b bs ih=>
  intro n acc t hb hz
  rw[List.length_cons]at hz
  obtain⟨b1,b2⟩:=hb b eF
  have hnz:nz (b:Int)=true:=by unfold nz;rw[beq_eq_false_iff_ne.mpr (by lia)];rfl
  obtain⟨n',t',ih⟩:=ih (Int.fdiv n (b:Int)) (acc++[Int.fmod n (b:Int)]) (.val (.int (b:Int))) (λb m=>hb b (f5 _ m)) (by rw[ay,List.length_singleton];lia)
  refine⟨n',t',jY (σ₂:=[.val (.int (Int.fdiv n (b:Int))),s1,.own (iv (acc++[Int.fmod n (b:Int)])),.val (.int (b:Int))]) rfl (ao (σ':=[.val (.int n),s1,.own (iv (acc++[Int.fmod n (b:Int)])),.val (.int (b:Int))]) ?_ (ao ?_ rfl)) (ih.trans ?_)⟩
  ·refine bnd (a:=PV.int (Int.fmod n (b:Int))) ?_ ?_
   ·exact bW (x:=.int n) (y:=.int (b:Int)) rfl rfl (av hnz)
   ·refine(av (aV ?_)).trans ?_
    ·rw[nX];lia
    ·unfold iv;rw[List.map_append];rfl
  ·refine mp (a:=PV.int (Int.fdiv n (b:Int))) ?_
   refine bW (x:=.int n) (y:=.int (b:Int)) rfl rfl (av ?_)
   show(nz (b:Int)&&sm (b:Int))=true
   rw[hnz,mw (by lia) (by lia)];rfl
  ·rw[List.append_assoc];rfl
theorem FZ{n:Int}{bs:List Nat}(hb:∀b∈bs,0<b/\b<=1000)(hz:bs.length<=1000):aG Ay JB Φ [.int n,.lst (nv bs)]=some (.lst (iv (vP n bs))):=by
 obtain⟨n',t',e1⟩:=zB (Φ:=Φ) (s1:=.val (.lst (nv bs))) bs n [] .unset hb (by rw[List.length_nil,Nat.zero_add];exact hz)
 have e:JB.ex Φ [.val (.int n),.val (.lst (nv bs)),.unset,.unset]=some (.ret (.lst (iv (vP n bs)))):=
  ao (σ':=[.val (.int n),.val (.lst (nv bs)),.own (iv []),.unset]) rfl (ao e1 rfl)
 show(JB.ex Φ [.val (.int n),.val (.lst (nv bs)),.unset,.unset]).bind _=_
 rw[e];rfl
end
noncomputable def Below:List Nat->List Nat->Prop
 | [],[]=>True
 |d::ds,b::bs=>d<b/\Below ds bs
 |_,_=>False
theorem vQ:∀(bs:List Nat) (n:Int),(∀b∈bs,0<b)->∃ds,iv (vP n bs)=nv ds/\Below ds bs:=by
 intro w
 induction w with
 |nil=>intro n _;exact⟨[],rfl,trivial⟩
 |cons b bs ih=>
  intro n h
  have hb:=h b eF
  obtain⟨ds,e1,e2⟩:=ih (Int.fdiv n (b:Int)) λb m=>h b (f5 _ m)
  have h1:=Int.fmod_nonneg_of_pos n (show(0:Int)<(b:Int) by lia)
  have h2:=Int.fmod_lt_of_pos n (show(0:Int)<(b:Int) by lia)
  refine⟨(Int.fmod n (b:Int)).toNat::ds,?_,(Int.toNat_lt h1).mpr h2,e2⟩
  show PV.int (Int.fmod n (b:Int))::iv (vP _ bs)=PV.int (((Int.fmod n (b:Int)).toNat:Nat):Int)::nv ds
  rw[e1,Int.toNat_of_nonneg h1]
theorem BY{Φ:bO}{n:Int}{bs:List Nat}(hb:∀b∈bs,0<b/\b<=1000)(hz:bs.length<=1000):∃ds,aG Ay JB Φ [.int n,.lst (nv bs)]=some (.lst (nv ds))/\Below ds bs:=by
 obtain⟨ds,e1,e2⟩:=vQ bs n λb m=>(hb b m).1
 exact⟨ds,by rw[FZ hb hz,e1],e2⟩
section
open PySem.Float64 Q1
section
variable{sc:SC}{Φ:bO}{σ σ':List Slot}{pos p:Pos}{x y z:UInt64}{a b:PV}{l r:SE sc}{t:Tg}
theorem R3:ofInt 6=0x4018000000000000:=by decide+kernel
theorem of2:ofInt 2=0x4000000000000000:=by decide+kernel
theorem T4:ofInt 4=0x4010000000000000:=by decide+kernel
theorem wH:one=0x3ff0000000000000:=by decide+kernel
theorem zn{x:UInt64}(h:isZero x=false):(!isZero x)=true:=by rw[h];rfl
theorem fu(h1:l.ev Φ σ=some (.ak x))(h2:r.ev Φ σ=some (.ak y))(h:isZero y=false):(SE.bin g6 l r p).ev Φ σ=some (.ak (div x y)):=bW h1 h2 (av (zn h))
theorem cD{v:SE sc}{h:t.ok sc=true}{hs}(e:v.ev Φ σ=some a):(SS.set t v pos h hs).ex Φ σ=some (.next (σ.set t.i (.val a))):=mp e
theorem oX{t:SB sc}{A:SL sc}(e:t.ev Φ σ=some false):(SS.ite t A .nil pos).ex Φ σ=some (.next σ):=oY e rfl
theorem uQ{t:SB sc}{A B:SL sc}{o:Option Out}(e:t.ev Φ σ=some true)(h:A.ex Φ σ=o):(SS.ite t A B pos).ex Φ σ=o:=oY e h
theorem Gp{t:SB sc}{A B:SL sc}{o:Option Out}(e:t.ev Φ σ=some false)(h:B.ex Φ σ=o):(SS.ite t A B pos).ex Φ σ=o:=oY e h
theorem bJ{s:SS sc}(e:s.ex Φ σ=some (.next σ')):(SL.cons s .nil).ex Φ σ=some (.next σ'):=ao e rfl
def RZ(r g b:UInt64):UInt64:=aF Nn.gt r [g,b]
def RY(r g b:UInt64):UInt64:=aF NW.gt r [g,b]
noncomputable abbrev fV (x:UInt64):Slot:=.val (.ak x)
end
section
variable{Φ:bO}{r g b M m:UInt64}
noncomputable abbrev GW (r g b M m:UInt64):UInt64:=bif cmp r M==some .eq then sub (div (sub M b) (sub M m)) (div (sub M g) (sub M m))else bif cmp g M==some .eq then sub (add (ofInt 2) (div (sub M r) (sub M m))) (div (sub M b) (sub M m))else sub (add (ofInt 4) (div (sub M g) (sub M m))) (div (sub M r) (sub M m))
theorem Kc(hM:RZ r g b=M)(hm:RY r g b=m)(ne:(cmp m M==some .eq)=false)(zM:isZero M=false)(zr:isZero (sub M m)=false):aG HU AP Φ [.ak r,.ak g,.ak b]=some (.tup [.ak (gQ r g b M m),.ak (div (sub M m) M),.ak M]):=by
 have z6:isZero 0x4018000000000000=false:=by decide+kernel
 have z1:isZero 0x3ff0000000000000=false:=by decide+kernel
 have e:AP.ex Φ [fV r,fV g,fV b,.unset,.unset,.unset,.unset,.unset,.unset,.unset,.unset,.unset]=some (.ret (.tup [.ak (gQ r g b M m),.ak (div (sub M m) M),.ak M])):=by
  unfold AP
  refine ao (σ':=[fV r,fV g,fV b,fV M,.unset,.unset,.unset,.unset,.unset,.unset,.unset,.unset]) (by subst hM;kernel_rfl) ?_
  refine ao (σ':=[fV r,fV g,fV b,fV M,fV m,.unset,.unset,.unset,.unset,.unset,.unset,.unset]) (by subst hm;kernel_rfl) ?_
  refine ao (σ':=[fV r,fV g,fV b,fV M,fV m,fV (sub M m),.unset,.unset,.unset,.unset,.unset,.unset]) (by kernel_rfl) ?_
  refine ao (σ':=[fV r,fV g,fV b,fV M,fV m,fV (sub M m),fV M,.unset,.unset,.unset,.unset,.unset]) (by kernel_rfl) ?_
  refine ao (oX (cE (x:=.ak m) (y:=.ak M) rfl rfl (congrArg some ne))) ?_
  refine ao (σ':=[fV r,fV g,fV b,fV M,fV m,fV (sub M m),fV M,fV (div (sub M m) M),.unset,.unset,.unset,.unset]) (cD (fu rfl rfl zM)) ?_
  refine ao (σ':=[fV r,fV g,fV b,fV M,fV m,fV (sub M m),fV M,fV (div (sub M m) M),fV (div (sub M r) (sub M m)),.unset,.unset,.unset]) (cD (fu rfl rfl zr)) ?_
  refine ao (σ':=[fV r,fV g,fV b,fV M,fV m,fV (sub M m),fV M,fV (div (sub M m) M),fV (div (sub M r) (sub M m)),fV (div (sub M g) (sub M m)),.unset,.unset]) (cD (fu rfl rfl zr)) ?_
  refine ao (σ':=[fV r,fV g,fV b,fV M,fV m,fV (sub M m),fV M,fV (div (sub M m) M),fV (div (sub M r) (sub M m)),fV (div (sub M g) (sub M m)),fV (div (sub M b) (sub M m)),.unset]) (cD (fu rfl rfl zr)) ?_
  refine ao (σ':=[fV r,fV g,fV b,fV M,fV m,fV (sub M m),fV M,fV (div (sub M m) M),fV (div (sub M r) (sub M m)),fV (div (sub M g) (sub M m)),fV (div (sub M b) (sub M m)),fV (GW r g b M m)]) ?_ ?_
  ·unfold GW
   rw[of2,T4]
   cases h1:cmp r M==some .eq with
   |true=>exact uQ (cE (x:=.ak r) (y:=.ak M) rfl rfl (congrArg some h1)) (by kernel_rfl)
   |false=>
    cases h2:cmp g M==some .eq with
    |true=>exact Gp (cE (x:=.ak r) (y:=.ak M) rfl rfl (congrArg some h1)) (bJ (uQ (cE (x:=.ak g) (y:=.ak M) rfl rfl (congrArg some h2)) (by kernel_rfl)))
    |false=>exact Gp (cE (x:=.ak r) (y:=.ak M) rfl rfl (congrArg some h1)) (bJ (Gp (cE (x:=.ak g) (y:=.ak M) rfl rfl (congrArg some h2)) (by kernel_rfl)))
  ·refine ao (σ':=[fV r,fV g,fV b,fV M,fV m,fV (sub M m),fV M,fV (div (sub M m) M),fV (div (sub M r) (sub M m)),fV (div (sub M g) (sub M m)),fV (div (sub M b) (sub M m)),fV (gQ r g b M m)]) ?_ (by kernel_rfl)
   unfold gQ
   rw[R3,wH]
   exact cD (bW (fu rfl rfl z6) rfl (av (zn z1)))
 show(AP.ex Φ _).bind _=_
 rw[show HU.slots [.ak r,.ak g,.ak b]=[fV r,fV g,fV b,.unset,.unset,.unset,.unset,.unset,.unset,.unset,.unset,.unset]from rfl,e];rfl
noncomputable abbrev zV (M m:UInt64):UInt64:=bif (cmp (div (add M m) (ofInt 2)) 0x3fe0000000000000==some .lt||cmp (div (add M m) (ofInt 2)) 0x3fe0000000000000==some .eq)then div (sub M m) (add M m)else div (sub M m) (sub (sub (ofInt 2) M) m)
theorem J9(hM:RZ r g b=M)(hm:RY r g b=m)(ne:(cmp m M==some .eq)=false)(zs:isZero (add M m)=false)(z2:isZero (sub (sub (ofInt 2) M) m)=false\/(cmp (div (add M m) (ofInt 2)) 0x3fe0000000000000==some .lt||cmp (div (add M m) (ofInt 2)) 0x3fe0000000000000==some .eq)=true)(zr:isZero (sub M m)=false):
  aG D8 c8 Φ [.ak r,.ak g,.ak b]=some (.tup [.ak (gQ r g b M m),.aH (div (add M m) (ofInt 2)),.ak (zV M m)]):=by
 have z6:isZero 0x4018000000000000=false:=by decide+kernel
 have z1:isZero 0x3ff0000000000000=false:=by decide+kernel
 have e:c8.ex Φ [fV r,fV g,fV b,.unset,.unset,.unset,.unset,.unset,.unset,.unset,.unset,.unset,.unset]=some (.ret (.tup [.ak (gQ r g b M m),.aH (div (add M m) (ofInt 2)),.ak (zV M m)])):=by
  unfold zV
  rw[of2]at z2⊢
  unfold c8
  refine ao (σ':=[fV r,fV g,fV b,fV M,.unset,.unset,.unset,.unset,.unset,.unset,.unset,.unset,.unset]) (by subst hM;kernel_rfl) ?_
  refine ao (σ':=[fV r,fV g,fV b,fV M,fV m,.unset,.unset,.unset,.unset,.unset,.unset,.unset,.unset]) (by subst hm;kernel_rfl) ?_
  refine ao (σ':=[fV r,fV g,fV b,fV M,fV m,fV (add M m),.unset,.unset,.unset,.unset,.unset,.unset,.unset]) (by kernel_rfl) ?_
  refine ao (σ':=[fV r,fV g,fV b,fV M,fV m,fV (add M m),fV (sub M m),.unset,.unset,.unset,.unset,.unset,.unset]) (by kernel_rfl) ?_
  generalize hl:div (add M m) 0x4000000000000000=l at z2⊢
  refine ao (σ':=[fV r,fV g,fV b,fV M,fV m,fV (add M m),fV (sub M m),.val (.aH l),.unset,.unset,.unset,.unset,.unset]) (by subst hl;kernel_rfl) ?_
  refine ao (oX (cE (x:=.ak m) (y:=.ak M) rfl rfl (congrArg some ne))) ?_
  generalize hk:(cmp l 0x3fe0000000000000==some .lt||cmp l 0x3fe0000000000000==some .eq)=k at z2⊢
  generalize hp:(bif k then div (sub M m) (add M m)else div (sub M m) (sub (sub 0x4000000000000000 M) m))=P
  refine ao (σ':=[fV r,fV g,fV b,fV M,fV m,fV (add M m),fV (sub M m),.val (.aH l),fV P,.unset,.unset,.unset,.unset]) ?_ ?_
  ·subst hp
   cases k with
   |true=>exact uQ (cE (x:=.aH l) (y:=.ak 0x3fe0000000000000) rfl rfl (congrArg some hk)) (bJ (cD (fu rfl rfl zs)))
   |false=>exact Gp (cE (x:=.aH l) (y:=.ak 0x3fe0000000000000) rfl rfl (congrArg some hk)) (bJ (cD (fu rfl rfl (z2.resolve_right nofun))))
  refine ao (σ':=[fV r,fV g,fV b,fV M,fV m,fV (add M m),fV (sub M m),.val (.aH l),fV P,fV (div (sub M r) (sub M m)),.unset,.unset,.unset]) (cD (fu rfl rfl zr)) ?_
  refine ao (σ':=[fV r,fV g,fV b,fV M,fV m,fV (add M m),fV (sub M m),.val (.aH l),fV P,fV (div (sub M r) (sub M m)),fV (div (sub M g) (sub M m)),.unset,.unset]) (cD (fu rfl rfl zr)) ?_
  refine ao (σ':=[fV r,fV g,fV b,fV M,fV m,fV (add M m),fV (sub M m),.val (.aH l),fV P,fV (div (sub M r) (sub M m)),fV (div (sub M g) (sub M m)),fV (div (sub M b) (sub M m)),.unset]) (cD (fu rfl rfl zr)) ?_
  refine ao (σ':=[fV r,fV g,fV b,fV M,fV m,fV (add M m),fV (sub M m),.val (.aH l),fV P,fV (div (sub M r) (sub M m)),fV (div (sub M g) (sub M m)),fV (div (sub M b) (sub M m)),fV (GW r g b M m)]) ?_ ?_
  ·unfold GW
   rw[of2,T4]
   cases h1:cmp r M==some .eq with
   |true=>exact uQ (cE (x:=.ak r) (y:=.ak M) rfl rfl (congrArg some h1)) (by kernel_rfl)
   |false=>
    cases h2:cmp g M==some .eq with
    |true=>exact Gp (cE (x:=.ak r) (y:=.ak M) rfl rfl (congrArg some h1)) (bJ (uQ (cE (x:=.ak g) (y:=.ak M) rfl rfl (congrArg some h2)) (by kernel_rfl)))
    |false=>exact Gp (cE (x:=.ak r) (y:=.ak M) rfl rfl (congrArg some h1)) (bJ (Gp (cE (x:=.ak g) (y:=.ak M) rfl rfl (congrArg some h2)) (by kernel_rfl)))
  ·refine ao (σ':=[fV r,fV g,fV b,fV M,fV m,fV (add M m),fV (sub M m),.val (.aH l),fV P,fV (div (sub M r) (sub M m)),fV (div (sub M g) (sub M m)),fV (div (sub M b) (sub M m)),fV (gQ r g b M m)]) ?_ (by kernel_rfl)
   unfold gQ
   rw[R3,wH]
   exact cD (bW (fu rfl rfl z6) rfl (av (zn z1)))
 show(c8.ex Φ _).bind _=_
 rw[show D8.slots [.ak r,.ak g,.ak b]=[fV r,fV g,fV b,.unset,.unset,.unset,.unset,.unset,.unset,.unset,.unset,.unset,.unset]from rfl,e];rfl
end
end
section
open PySem.Float64 Q1
section
variable{Φ:bO}{h l s v m1 m2 x:UInt64}
noncomputable abbrev S6:UInt64:=4595172819793696085
noncomputable abbrev uP:UInt64:=4604180019048437077
noncomputable abbrev O3:UInt64:=4599676419421066581
noncomputable abbrev HF:UInt64:=0x3fe0000000000000
noncomputable abbrev qf:UInt64:=0x4018000000000000
noncomputable abbrev EP:UInt64:=0x3ff0000000000000
theorem SA:aG LY JA Φ [.ak m1,.ak m2,.ak x]=some (.ak (vF m1 m2 x S6 HF uP qf)):=by
 have z1:isZero EP=false:=by decide+kernel
 have e:JA.ex Φ [fV m1,fV m2,fV x]=some (.ret (.ak (vF m1 m2 x S6 HF uP qf))):=by
  unfold vF
  rw[wH]
  unfold JA
  generalize hy:(divmod x 0x3ff0000000000000).2=y
  refine ao (σ':=[fV m1,fV m2,fV y]) (hy▸cD (bW rfl rfl (av (zn z1)))) ?_
  cases h1:cmp y S6==some .lt with
  |true=>exact cW (uQ (cE (x:=.ak y) (y:=.ak S6) rfl rfl (congrArg some h1)) (by kernel_rfl))
  |false=>
   refine ao (oX (cE (x:=.ak y) (y:=.ak S6) rfl rfl (congrArg some h1))) ?_
   cases h2:cmp y HF==some .lt with
   |true=>exact cW (uQ (cE (x:=.ak y) (y:=.ak HF) rfl rfl (congrArg some h2)) (by kernel_rfl))
   |false=>
    refine ao (oX (cE (x:=.ak y) (y:=.ak HF) rfl rfl (congrArg some h2))) ?_
    cases h3:cmp y uP==some .lt with
    |true=>exact cW (uQ (cE (x:=.ak y) (y:=.ak uP) rfl rfl (congrArg some h3)) (by kernel_rfl))
    |false=>exact ao (oX (cE (x:=.ak y) (y:=.ak uP) rfl rfl (congrArg some h3))) (by kernel_rfl)
 show(JA.ex Φ _).bind _=_
 rw[show LY.slots [.ak m1,.ak m2,.ak x]=[fV m1,fV m2,fV x]from rfl,e];rfl
theorem Gg(hv:∀a b c,Φ.fn 10 [.ak a,.ak b,.ak c]=some (.ak (vF a b c S6 HF uP qf)))(hs:(cmp s 0==some .eq)=false){m2 m1:UInt64}(h2:Ky l s HF EP=m2)(h1:sub (mul (ofInt 2) l) m2=m1){L:PV}(hL:L=.ak l\/L=.aH l):
  aG D9 c9 Φ [.ak h,L,.ak s]=some (.tup [.ak (vF m1 m2 (add h O3) S6 HF uP qf),.ak (vF m1 m2 h S6 HF uP qf),.ak (vF m1 m2 (sub h O3) S6 HF uP qf)]):=by
 have hLf:L.B0=some l:=by rcases hL with rfl|rfl<;>rfl
 have Wx:L.int?=none:=by rcases hL with rfl|rfl<;>rfl
 have e:c9.ex Φ [fV h,.val L,fV s,.unset,.unset]=some (.ret (.tup [.ak (vF m1 m2 (add h O3) S6 HF uP qf),.ak (vF m1 m2 h S6 HF uP qf),.ak (vF m1 m2 (sub h O3) S6 HF uP qf)])):=by
  unfold c9
  refine ao (oX (cE (x:=.ak s) (y:=.ak 0) rfl rfl (congrArg some hs))) ?_
  refine ao (σ':=[fV h,.val L,fV s,fV m2,.unset]) ?_ ?_
  ·unfold Ky at h2
   cases hk:(cmp l HF==some .lt||cmp l HF==some .eq)with
   |true=>
    rw[hk]at h2
    refine uQ (cE (x:=L) (y:=.ak HF) rfl rfl ?_) (bJ (h2▸cD (bW (x:=L) (y:=.ak (add EP s)) rfl rfl ?_)))
    ·exact bnd hLf (congrArg some hk)
    ·exact bnd hLf rfl
   |false=>
    rw[hk]at h2
    refine Gp (cE (x:=L) (y:=.ak HF) rfl rfl ?_) (bJ (h2▸cD (bW (x:=.ak (add l s)) (y:=.ak (mul l s)) (bW (x:=L) (y:=.ak s) rfl rfl (bnd hLf rfl)) (bW (x:=L) (y:=.ak s) rfl rfl (bnd hLf rfl)) rfl)))
    exact bnd hLf (congrArg some hk)
  refine ao (σ':=[fV h,.val L,fV s,fV m2,fV m1]) ?_ ?_
  ·rw[of2]at h1
   exact h1▸cD (bW (x:=.ak (mul 0x4000000000000000 l)) (y:=.ak m2) (bW (x:=.ak 0x4000000000000000) (y:=L) rfl rfl (bnd hLf rfl)) rfl rfl)
  refine cW (vN (JU (jt ?_ ?_ ?_) (bE rfl)))
  ·exact bnd (a:=[PV.ak m1,.ak m2,.ak (add h O3)]) rfl (hv _ _ _)
  ·exact bnd (a:=[PV.ak m1,.ak m2,.ak h]) rfl (hv _ _ _)
  ·exact bnd (a:=[PV.ak m1,.ak m2,.ak (sub h O3)]) rfl (hv _ _ _)
 show(c9.ex Φ _).bind _=_
 rw[show D9.slots [.ak h,L,.ak s]=[fV h,.val L,fV s,.unset,.unset]from rfl,e];rfl
theorem Gl{i:Int}{j:Nat}(hs:(cmp s 0==some .eq)=false)(hi:truncF (mul h qf)=some i)(hj:j<6)(hm:Int.fmod i 6=(j:Int))(hI:isInf (ofInt i)=false){p q t:UInt64}(hp:mul v (sub EP s)=p)(hq:mul v (sub EP (mul s (sub (mul h qf) (ofInt i))))=q)(ht:mul v (sub EP (mul s (sub EP (sub (mul h qf) (ofInt i)))))=t):
  aG Jh c12 Φ [.ak h,.ak s,.ak v]=some (.tup [.ak (outs j v p q t).1,.ak (outs j v p q t).2.1,.ak (outs j v p q t).2.2]):=by
 have e:c12.ex Φ [fV h,fV s,fV v,.unset,.unset,.unset,.unset,.unset]=some (.ret (.tup [.ak (outs j v p q t).1,.ak (outs j v p q t).2.1,.ak (outs j v p q t).2.2])):=by
  unfold c12
  refine ao (oX (cE (x:=.ak s) (y:=.ak 0) rfl rfl (congrArg some hs))) ?_
  refine ao (σ':=[fV h,fV s,fV v,.val (.int i),.unset,.unset,.unset,.unset]) ?_ ?_
  ·refine cD (a:=.int i) ?_
   show(truncF (mul h qf)).map PV.int=_
   rw[hi];rfl
  refine ao (σ':=[fV h,fV s,fV v,.val (.int i),fV (sub (mul h qf) (ofInt i)),.unset,.unset,.unset]) ?_ ?_
  ·exact cD (bW (x:=.ak (mul h qf)) (y:=.int i) rfl rfl (av (show(!isInf (ofInt i))=true by rw[hI];rfl)))
  generalize sub (mul h qf) (ofInt i)=f at hq ht⊢
  refine ao (σ':=[fV h,fV s,fV v,.val (.int i),fV f,fV p,.unset,.unset]) (hp▸rfl) ?_
  refine ao (σ':=[fV h,fV s,fV v,.val (.int i),fV f,fV p,fV q,.unset]) (hq▸rfl) ?_
  refine ao (σ':=[fV h,fV s,fV v,.val (.int i),fV f,fV p,fV q,fV t]) (ht▸rfl) ?_
  refine ao (σ':=[fV h,fV s,fV v,.val (.int j),fV f,fV p,fV q,fV t]) ?_ ?_
  ·exact hm▸cD (bW (x:=.int i) (y:=.int 6) rfl rfl rfl)
  have:j=0\/j=1\/j=2\/j=3\/j=4\/j=5:=by lia
  rcases this with rfl|rfl|rfl|rfl|rfl|rfl<;>kernel_rfl
 show(c12.ex Φ _).bind _=_
 rw[show Jh.slots [.ak h,.ak s,.ak v]=[fV h,fV s,fV v,.unset,.unset,.unset,.unset,.unset]from rfl,e];rfl
end
end
section
open Q1
section
variable{Φ:bO}
theorem AL(a b c:Int):aF Ck.gt a [b,c]=max a (max b c):=by
 show(bif decide (c>(bif decide (b>a)then b else a))then c else(bif decide (b>a)then b else a))=_
 rw[J2,J2,Int.max_assoc]
theorem N9{b:Int}(h:b≠0):nz b=true:=by unfold nz;rw[beq_eq_false_iff_ne.mpr h];rfl
def aW(x y W:Int):Int:=Int.fmod W (1025-bG x y)
noncomputable abbrev iV (x:Int):Slot:=.val (.int x)
noncomputable abbrev pt (c:V2):PV:=.tup [.int c.1,.int c.2]
theorem uo{x y W:Int}(h:bG x y≠1025):aG Az JC Φ [.tup [.int x,.int y],.int W]=some (.lst [.int (x+aO x y+aW x y W),.int (y+aO x y+aW x y W),.int (aO x y+aW x y W)]):=by
 have el:aF Ck.gt 0 [-x,-y]=aO x y:=AL _ _ _
 have et:aF Ck.gt (x+aO x y) [y+aO x y,aO x y]=bG x y:=AL _ _ _
 have e:JC.ex Φ [.val (.tup [.int x,.int y]),iV W,.unset,.unset]=some (.ret (.lst [.int (x+aO x y+aW x y W),.int (y+aO x y+aW x y W),.int (aO x y+aW x y W)])):=by
  unfold aW
  rw[<-et]
  rw[<-et]at h
  generalize aO x y=w at *
  unfold JC
  refine ao (σ':=[.val (.tup [.int x,.int y]),iV W,iV w,.unset]) (el▸(by kernel_rfl)) ?_
  refine ao (σ':=[.val (.tup [.int x,.int y]),iV W,iV w,.val (.lst [.int (x+w),.int (y+w),.int w])]) (by kernel_rfl) ?_
  generalize ht:aF Ck.gt (x+w) [y+w,w]=t at h⊢
  refine ao (σ':=[.val (.tup [.int x,.int y]),iV (Int.fmod W (1025-t)),iV w,.val (.lst [.int (x+w),.int (y+w),.int w])]) ?_ (by kernel_rfl)
  exact mp (bW (x:=.int W) (y:=.int (1025-t)) (z:=.int (Int.fmod W (1025-t))) rfl (by subst ht;kernel_rfl) (av (N9 (by lia))))
 show(JC.ex Φ _).bind _=_
 rw[show Az.slots [.tup [.int x,.int y],.int W]=[.val (.tup [.int x,.int y]),iV W,.unset,.unset]from rfl,e];rfl
theorem BB{c d:V2}(h1:sm c.1=true)(h2:sm c.2=true):aG Ji L2 Φ [pt c,pt d]=some (.int (bS c d)):=by
 have e:L2.ex Φ [.val (pt c),.val (pt d)]=some (.ret (.int (bS c d))):=
  cW (vN (bW (x:=.int (c.1*d.2)) (y:=.int (c.2*d.1)) (bW (x:=.int c.1) (y:=.int d.2) rfl rfl (av h1)) (bW (x:=.int c.2) (y:=.int d.1) rfl rfl (av h2)) rfl))
 show(L2.ex Φ _).bind _=_
 rw[show Ji.slots [pt c,pt d]=[.val (pt c),.val (pt d)]from rfl,e];rfl
end
end
section
open Q1
noncomputable def TT:Nat:=1466527648095325103425552245580957562070987340585502538366274030956029186445669926620203055944928591813692467476045499700175133494768716893296798378158584261592935779641058285947451641072625361157452219823623474490601076041932583531423228813712107553572575640543756398805238185793444001788268851629564120012773418736480957843856352496293968073755891788520521598748832898414239810577331197154050815636226215957523517261735106629831781573893741627582398207383582338535233021587161539023317231199176216936918399278330783228718948235413075612188196144622157222290730606233370472345214855654060647662508549722154692768588434745641593678904747356226951465577433351200520894245402348288570416772041617837325169372165272788349786642474851504135012290949070012467235179987079969967783590706874804269359507606281697293915726151311144452200798853353957659588529561886505746321558419599478459707184987742848404588687529893677856865971329896616581610063204757182715447939170813618513209430444474583517514079870034566130654583967698157917286542094809926847695562798213778358340200983414531307186057026555862865238229503426553204815489026079047532861866258184516200517577334941771130118389064893688282946635053965804234162398518713327351632870226206363350463220062889708624714823358532324030523281882717813121587017818899729590368366691287866438927297786265160231421713018658292915181151929560407662220727213213568499902506977451840375291095082289992119933409797828895251967529551014944951617516221324122162837898324307989195543559171131192928034006912145393560318799808028168556575193580466052557841582641172754234984494921255535652700466669567006447862291853988815050913702111352891460070770453722035326083999347678740026298095678847266542766137734669319091205025722746270404297035637062657159247763427614146468299883692643067754366583150925548723023859701634537313398369800894846765729677385682366695484873223991602551581450922853525912349166239770868818259930403298533872322087775214726338904768007127588330881869982791548476412680848809676933466083257782844275680485089881518912536945589152840385876329318297533134183330081971649445301607142342441748785911475990288229050142671040057923593298750818195444167911030999911652787815558489005083213467384862071018239636921441862901893235234450183258229947328910494866861157072301442249626608326876603643087330825300840301638973887728958461371445306355964205041663058702262286741804915077338813002590357923529321676668978156506035429872630066091389525463315820362230647275379940840174896028317266647625694236882268483738614482260121730297846302364432045005170271899515314471816476097031510558057432298462978651321008086726641625590263107355420867391598817878194051806916589201900483695105752378790823213299875508136724235969312486530903313247045638272467347734500722940600560617320173994548335869400881307501245582641448994888713747835046262052070957015107354318851022311955329686765718291178146979789587717624674357069585998734737003274833493923395109159586698590459039672342681032052517393208392874822618931072939609335391724995156421189392530294441407074748826392923493208149821923404466334179041198093673461256441039901552908783305715042364542439687850384490559437555055775568794277753249152266552159247181464638615768506859289612647044335581651798177728583503994430339018602954142741437572115477403791608341290057655136744619741354097854230929905468680884922557060061914886089909234086693225559285904461158624278322183273656545572479847176672166813346611716715044505311454436637079257181861367189036034218650877382600338366588690296267841979258869418845262749700522613386514351479048594736564527823384375247711820323227058054858906257721823235651930632359853130859419729869480553883902937493766882769455761741428821117591665784116735050801125212294677181326848567346035465869730865228354159007946332722424554097367057945868450524475728384797570954311761982646011652532559503423707245114247077082131112535969174803785199704248115560904232182888204810453841563046995322798554979531594975010677133700935551727584184876819776136715215831040
def MD(i:Nat):Bool:=Nat.beq (Nat.mod (Nat.shiftRight TT i) 2) 1
def Ke(b l:Int):Bool:=and (and (and (decide (-64<=b)) (decide (b<=63))) (and (decide (-64<=l)) (decide (l<=63)))) (MD (Nat.add (Nat.mul (Int.toNat (b+64)) 128) (Int.toNat (l+64))))
def Qe(o:Option PV)(i:Int):Bool:=Option.casesOn (motive:=λ_=>Bool) o false λp=>Option.casesOn (motive:=λ_=>Bool) p.int? false λj=>j==i
theorem Kg{o:Option PV}{i:Int}(h:Qe o i=true):o=some (.int i):=by
 cases o with
 |none=>exact nomatch h
 |some p=>
  cases q:p.int? with
  |none=>unfold Qe at h;rw[show((some p:Option PV).casesOn (motive:=λ_=>Bool) false λp=>Option.casesOn (motive:=λ_=>Bool) p.int? false λj=>j==i)=Option.casesOn (motive:=λ_=>Bool) p.int? false λj=>j==i from rfl,q]at h;exact nomatch h
  |some j=>unfold Qe at h;rw[show((some p:Option PV).casesOn (motive:=λ_=>Bool) false λp=>Option.casesOn (motive:=λ_=>Bool) p.int? false λj=>j==i)=Option.casesOn (motive:=λ_=>Bool) p.int? false λj=>j==i from rfl,q]at h;rw[PV.kY q,eq_of_beq h]
def T5(b1 l1 b l:Int):Bool:=Qe (F8.fn 17 [.tup [.int b,.int b1],.tup [.int l,.int l1]]) (-(Int.fdiv (-b) l))
def oZ(b1 l1:Int)(i:Nat):Bool:=al 128 λj=>bif MD (Nat.add (Nat.mul i 128) j)then and (not (Int.ofNat j-64==0)) (T5 b1 l1 (Int.ofNat i-64) (Int.ofNat j-64))else true
theorem Sl(b1 l1:Int):(al 16 λi=>oZ b1 l1 (Nat.add 0 i))=true:=by kernel_rfl
theorem Sm(b1 l1:Int):(al 16 λi=>oZ b1 l1 (Nat.add 16 i))=true:=by kernel_rfl
theorem Sn(b1 l1:Int):(al 16 λi=>oZ b1 l1 (Nat.add 32 i))=true:=by kernel_rfl
theorem So(b1 l1:Int):(al 16 λi=>oZ b1 l1 (Nat.add 48 i))=true:=by kernel_rfl
theorem Sp(b1 l1:Int):(al 16 λi=>oZ b1 l1 (Nat.add 64 i))=true:=by kernel_rfl
theorem Sq(b1 l1:Int):(al 16 λi=>oZ b1 l1 (Nat.add 80 i))=true:=by kernel_rfl
theorem Ss(b1 l1:Int):(al 16 λi=>oZ b1 l1 (Nat.add 96 i))=true:=by kernel_rfl
theorem Su(b1 l1:Int):(al 16 λi=>oZ b1 l1 (Nat.add 112 i))=true:=by kernel_rfl
end
section
open Q1
theorem lO{n:Nat}{f:Nat->Bool}(h:al n f=true):∀i,i<n->f i=true:=by
 induction n with
 |zero=>exactλi l=>absurd l (Nat.not_lt_zero i)
 |succ n ih=>
  have q:=(Bool.and_eq_true _ _).mp (show and (f n) (al n f)=true from h)
  intro i l
  rcases Nat.lt_or_ge i n with z|z
  ·exact ih q.2 i z
  ·rw[show i=n by lia];exact q.1
theorem an{a b:Bool}(h:and a b=true):a=true/\b=true:=(Bool.and_eq_true _ _).mp h
theorem gh{n:Nat}{f:Nat->Bool}(h:f n=true)(k:al n f=true):al (n+1) f=true:=by
 show and (f n) (al n f)=true
 rw[h,k];rfl
theorem La(b1 l1:Int)(i:Nat)(hi:i<128):oZ b1 l1 i=true:=by
 have key:=lO (n:=8) (f:=λk=>al 16 λj=>oZ b1 l1 (Nat.add (16*k) j)) (gh (Su b1 l1) (gh (Ss b1 l1) (gh (Sq b1 l1) (gh (Sp b1 l1) (gh (So b1 l1) (gh (Sn b1 l1) (gh (Sm b1 l1) (gh (Sl b1 l1) rfl))))))))
 have q:=lO (key (i/16) (by lia)) (i % 16) (by lia)
 rw[show Nat.add (16*(i/16)) (i % 16)=i from Nat.div_add_mod i 16]at q
 exact q
theorem Ka{b l:Int}(b1 l1:Int)(h:Ke b l=true):l≠0/\F8.fn 17 [.tup [.int b,.int b1],.tup [.int l,.int l1]]=some (.int (-(Int.fdiv (-b) l))):=by
 obtain⟨h,hb⟩:=an h
 obtain⟨h1,h2⟩:=an h
 have c1:=of_decide_eq_true (an h1).1
 have c2:=of_decide_eq_true (an h1).2
 have c3:=of_decide_eq_true (an h2).1
 have c4:=of_decide_eq_true (an h2).2
 have q:=lO (La b1 l1 (Int.toNat (b+64)) ((Int.toNat_lt (by clear c2 c3 c4;lia)).mpr (by clear c1 c3 c4;lia))) (Int.toNat (l+64)) ((Int.toNat_lt (by clear c1 c2 c4;lia)).mpr (by clear c1 c2 c3;lia))
 rw[hb]at q
 obtain⟨q1,q2⟩:=an (show and (not (Int.ofNat (Int.toNat (l+64))-64==0)) (T5 b1 l1 (Int.ofNat (Int.toNat (b+64))-64) (Int.ofNat (Int.toNat (l+64))-64))=true from q)
 have e1:Int.ofNat (Int.toNat (b+64))-64=b:=by show((Int.toNat (b+64):Nat):Int)-64=b;lia
 have e2:Int.ofNat (Int.toNat (l+64))-64=l:=by show((Int.toNat (l+64):Nat):Int)-64=l;lia
 rw[e1,e2]at q2
 rw[e2]at q1
 exact⟨by simpa using q1,Kg q2⟩
theorem GJ(b0 b1 l1:Int):F8.fn 17 [.tup [.int b0,.int b1],.tup [.int 0,.int l1]]=none:=by kernel_rfl
theorem CC{b l:V2}(h:l.1=0/\sm b.2=true\/Ke b.1 l.1=true):iW F8 [pt b,pt l]=some (.int (bZ b l)):=by
 obtain⟨b0,b1⟩:=b
 obtain⟨l0,l1⟩:=l
 unfold iW bZ
 rcases h with⟨h1,h2⟩|h
 ·obtain rfl:l0=0:=h1
  rw[show F8.fn 17 [pt (b0,b1),pt (0,l1)]=none from GJ b0 b1 l1]
  show(bif (0:Int)==0&&sm b1 then some (PV.int (b1*l1))else none)=_
  rw[show sm b1=true from h2];rfl
 ·obtain⟨n,e⟩:=Ka b1 l1 h
  rw[show F8.fn 17 [pt (b0,b1),pt (l0,l1)]=_ from e]
  show some (PV.int _)=some (PV.int (bif l0==0 then b1*l1 else-(Int.fdiv (-b0) l0)))
  rw[beq_eq_false_iff_ne.mpr n];rfl
def x9(fuel:Nat):Bool->Int->Int->Int->V2->V2->Bool:=
 Nat.rec (motive:=λ_=>Bool->Int->Int->Int->V2->V2->Bool) (λ_ _ _ _ _ _=>false)
  (λ_ ih past n s w b l=>bif and past (isUnit b l)then and (3*n-s==12*w) (and (decide (1<=w)) (decide (w<=3)))else
   (λf=>(λc=>and (and (bif l.1==0 then true else Ke b.1 l.1) (and (rY 419 c) (and (decide (-14<=f)) (decide (f<=8))))) (ih true (n+1) (s+f) (w+e0 b l) l c)) (jn f b l)) (bZ b l)) fuel
def BZ(f0 f1 f2 f3 f4:Int):Bool:=
 (λc2=>(λc3=>(λc4=>(λc5=>(λc6=>and (and (and (rY 419 c2) (rY 419 c3)) (and (rY 419 c4) (rY 419 c5))) (and (rY 419 c6) (x9 12 false 5 (f0+f1+f2+f3+f4) (e0 (1,0) (0,1)+e0 (0,1) c2+e0 c2 c3+e0 c3 c4+e0 c4 c5) c5 c6))) (jn f4 c4 c5)) (jn f3 c3 c4)) (jn f2 c2 c3)) (jn f1 (0,1) c2)) (jn f0 (1,0) (0,1))
def zh(i:Nat):Bool:=al 5 λa=>al 5 λb=>al 5 λc=>al 5 λd=>BZ (Int.ofNat i-3) (Int.ofNat a-1) (Int.ofNat b-1) (Int.ofNat c-1) (Int.ofNat d-1)
theorem OM:zh 0=true:=by decide+kernel
theorem ON:zh 1=true:=by decide+kernel
theorem OO:zh 2=true:=by decide+kernel
theorem OQ:zh 3=true:=by decide+kernel
theorem OR:zh 4=true:=by decide+kernel
theorem OS:zh 5=true:=by decide+kernel
theorem OU:zh 6=true:=by decide+kernel
theorem OV:zh 7=true:=by decide+kernel
theorem OW:zh 8=true:=by decide+kernel
theorem OX:zh 9=true:=by decide+kernel
theorem Lr:zh 10=true:=by decide+kernel
theorem Lu:zh 11=true:=by decide+kernel
theorem F4{a f1 f2 f3 f4:Nat}(ha:a<12)(h1:f1<5)(h2:f2<5)(h3:f3<5)(h4:f4<5):BZ ((a:Int)-3) ((f1:Int)-1) ((f2:Int)-1) ((f3:Int)-1) ((f4:Int)-1)=true:=by
 have key:zh a=true:=lO (n:=12) (gh Lu (gh Lr (gh OX (gh OW (gh OV (gh OU (gh OS (gh OR (gh OQ (gh OO (gh ON (gh OM rfl)))))))))))) a ha
 exact lO (lO (lO (lO key f1 h1) f2 h2) f3 h3) f4 h4
end
section
open Q1
section
variable{α:Type}{Φ:bO}{r:Nat->Slot}
theorem Bo{n:Nat}:clipAt (n+2) (-2)=n:=by unfold clipAt;rw[if_pos (by decide),show(-2:Int)+((n+2:Nat):Int)=(n:Int) by lia];exact qL (Nat.le_add_right ..)
theorem Bm{n:Nat}:clipAt (n+1) (-1)=n:=by unfold clipAt;rw[if_pos (by decide),show(-1:Int)+((n+1:Nat):Int)=(n:Int) by lia];exact qL (Nat.le_add_right ..)
theorem FE(xs:List α)(a b:α):cut (xs++[a,b]) (xs++[a,b]).length (some (-2)) none=[a,b]:=by
 have e:(xs++[a,b]).length=xs.length+2:=by rw[ay];rfl
 unfold cut
 rw[Option.elim_some,Option.elim_none,e,Bo,List.drop_append_of_le_length (Nat.le_refl _),List.drop_length,show xs.length+2-xs.length=2 by lia];rfl
theorem FA(xs:List α)(a:α):cut (xs++[a]) (xs++[a]).length none (some (-1))=xs:=by
 have e:(xs++[a]).length=xs.length+1:=by rw[ay];rfl
 unfold cut
 rw[Option.elim_none,Option.elim_some,e,Bm]
 show(xs++[a]).take (xs.length-0)=xs
 rw[Nat.sub_zero,List.take_left]
theorem Jf{xs:List PV}{a b:PV}(h:r 12=.own (xs++[a,b]))(hl:xs.length<=900):Ii.ex Φ (FW r)=some (.next (FW (upd (upd r 13 (.val a)) 14 (.val b)))):=by
 have hz:(xs++[a,b]).length<=1000000:=by rw[ay,show [a,b].length=2 from rfl];lia
 refine bnd (a:=.lst [a,b]) ?_ (bnd (a:=[a,b]) rfl ?_)
 ·refine bnd (sO (bz (bE rfl)) h) (bnd (a:=some (-2)) rfl (bnd (a:=none) rfl ((av (aV hz)).trans ?_)))
  exact congrArg (λz=>some (PV.lst z)) (FE xs a b)
 ·show some (Out.next (((FW r).set 13 (.val a)).set 14 (.val b)))=_
  rw[fc (bE rfl),fc (bE rfl)]
theorem HC(b l:V2):oM 6 (.tup [pt b,pt l]) (.tup [pt (1,0),pt (0,1)])=some (isUnit b l):=by
 have e:oM 6 (.tup [pt b,pt l]) (.tup [pt (1,0),pt (0,1)])=some (and (and (b.1==1) (and (b.2==0) true)) (and (and (l.1==0) (and (l.2==1) true)) true)):=rfl
 rw[e];unfold isUnit
 cases b.1==1<;>cases b.2==0<;>cases l.1==0<;>cases l.2==1<;>rfl
theorem Jg{p:Nat}{b l:V2}(h2:r 2=iV p)(J4:r 13=.val (pt b))(J5:r 14=.val (pt l)){k:Bool}(h:(bif decide ((p:Int)>5)then isUnit b l else false)=k):Ij.ex Φ (FW r)=bif k then some (.brk (FW r))else some (.next (FW r)):=by
 refine oY (k:=k) ?_ (by cases k<;>rfl)
 refine bnd (a:=decide ((p:Int)>5)) (cE (x:=.int p) (y:=.int 5) (sV (bz (bE rfl)) h2) rfl rfl) ?_
 revert h
 cases decide ((p:Int)>5)with
 |false=>exactλh=>congrArg some h
 |true=>
  intro h
  refine bnd (a:=isUnit b l) (cE (x:=.tup [pt b,pt l]) (y:=.tup [pt (1,0),pt (0,1)]) (bnd (a:=[pt b,pt l]) (gp (sV (bz (bE rfl)) J4) (sV (bz (bE rfl)) J5)) rfl) rfl (HC b l)) ?_
  rw[show isUnit b l=k from h]
  cases k<;>rfl
theorem CS(xs:List Int)(x:Int):iv (xs++[x])=iv xs++[.int x]:=List.map_append
theorem PT{p:Nat}(h2:r 2=iV p)(h:p<=4):xF.ex Φ (FW r)=some (.next (FW r)):=
 oX (cE (x:=.int p) (y:=.int 4) (sV (bz (bE rfl)) h2) rfl (congrArg some (eE (by lia))))
theorem HQ{p:Nat}{b l:V2}{fs:List Int}(h2:r 2=iV p)(hp:4<p)(h7:r 7=.own (iv fs))(J4:r 13=.val (pt b))(J5:r 14=.val (pt l))(hf:fs.length<=900)(h:l.1=0/\sm b.2=true\/Ke b.1 l.1=true):xF.ex F8 (FW r)=some (.next (FW (upd r 7 (.own (iv (fs++[bZ b l])))))):=by
 refine uQ (cE (x:=.int p) (y:=.int 4) (sV (bz (bE rfl)) h2) rfl (congrArg some (eT (by lia)))) ?_
 have hz:(iv fs).length<=1000000:=by rw[nX];lia
 refine ao (σ':=FW (upd r 7 (.own (iv (fs++[bZ b l]))))) ?_ (bJ (oX ?_))
 ·refine bnd (sO (bz (bE rfl)) h7) (bnd (gp (sV (bz (bE rfl)) J4) (sV (bz (bE rfl)) J5)) (bnd (CC h) ((av (aV hz)).trans ?_)))
  rw[fc (bE rfl),CS]
 ·have e0:eW (FW (upd r 7 (.own (iv (fs++[bZ b l]))))) 7=some (iv fs++[PV.int (bZ b l)]):=sO (bz (bE rfl)) ((yU _ _ _).trans (congrArg Slot.own (CS _ _)))
  have e:(ow (sc:=bk.sc nm) 7 ("factors":Str) (qz 303 15 22)).ev F8 (FW (upd r 7 (.own (iv (fs++[bZ b l])))))=some (iv fs++[PV.int (bZ b l)]):=e0
  have e2:=yl (Φ:=F8) (p1:=(qz 303 24 25)) (p2:=(qz 303 23 25)) (p3:=(qz 303 15 26)) (k:=0) e (by rw[nX];lia)
  exact cE (x:=.int (bZ b l)) (y:=.none) e2 rfl rfl
theorem NP{p:Nat}{b l:V2}{fs:List Int}{f:Int}(h2:r 2=iV p)(h7:r 7=.own (iv fs))(J4:r 13=.val (pt b))(J5:r 14=.val (pt l))(hp:p<=100)(hf:fs[p]?=some f)(hs:sm f=true):xA.ev Φ (FW r)=some [.int (jn f b l).1,.int (jn f b l).2]:=by
 have hx:(iv fs)[p]?=some (.int f):=by unfold iv;rw[List.getElem?_map,hf];rfl
 have g8:eW (.val (.int 0)::FW r) 8=some (iv fs):=sO (bz (i:=7) (bE rfl)) h7
 have g3:ee (.val (.int 0)::FW r) 3=some (.int p):=sV (bz (i:=2) (bE rfl)) h2
 have Nl:ee (.val (.int 0)::FW r) 15=some (pt l):=sV (bz (i:=14) (bE rfl)) J5
 have Tt:ee (.val (.int 0)::FW r) 14=some (pt b):=sV (bz (i:=13) (bE rfl)) J4
 have e0:xA.elt.ev Φ (.val (.int 0)::FW r)=some (.int (jn f b l).1):=
  bW (x:=.int (f*l.1)) (y:=.int b.1) (bW (x:=.int f) (y:=.int l.1) (vL g8 g3 (by lia) hx) (bnd Nl rfl) (av hs)) (bnd Tt rfl) rfl
 have e1:xA.elt.ev Φ (.val (.int 1)::FW r)=some (.int (jn f b l).2):=
  bW (x:=.int (f*l.2)) (y:=.int b.2) (bW (x:=.int f) (y:=.int l.2) (vL (xs:=iv fs) g8 g3 (by lia) hx) (bnd (a:=pt l) Nl rfl) (av hs)) (bnd (a:=pt b) Tt rfl) rfl
 refine lR (xs:=[PV.int 0,PV.int 1]) rfl ?_ (bE rfl)
 refine comp_map (f:=PV.int) (g:=λi=>.int (bif i==0 then(jn f b l).1 else(jn f b l).2)) (ys:=[0,1]) λy hy=>?_
 rcases eX hy with rfl|hy
 ·exact⟨Slot.val (.int 0)::FW r,rfl,rfl,e0⟩
 ·rw[fG hy]
  exact⟨Slot.val (.int 1)::FW r,rfl,rfl,e1⟩
theorem PU{p:Nat}{b l:V2}{fs:List Int}{f:Int}{cs:List PV}(h2:r 2=iV p)(h7:r 7=.own (iv fs))(J4:r 13=.val (pt b))(J5:r 14=.val (pt l))(h12:r 12=.own cs)(hc:cs.length<=900)(hp:p<=100)(hf:fs[p]?=some f)(hs:sm f=true):Ik.ex Φ (FW r)=some (.next (FW (upd r 12 (.own (cs++[pt (jn f b l)]))))):=
 bnd (sO (bz (bE rfl)) h12) (bnd (a:=pt (jn f b l)) (bnd (a:=[PV.int (jn f b l).1,PV.int (jn f b l).2]) (bnd (a:=PV.lst [PV.int (jn f b l).1,PV.int (jn f b l).2]) (gM (NP h2 h7 J4 J5 hp hf hs)) rfl) rfl) ((av (aV (by lia))).trans (by rw[fc (bE rfl)])))
end
end
section
open Q1
def oO(r r':Nat->Slot):Prop:=∀j,Nat.beq j 2=false->Nat.beq j 7=false->Nat.beq j 12=false->Nat.beq j 13=false->Nat.beq j 14=false->r' j=r j
theorem oO.trans{r r' r'':Nat->Slot}(h:oO r r')(h':oO r' r''):oO r r'':=λj a b c d e=>(h' j a b c d e).trans (h j a b c d e)
theorem tV{bind:PV->List Slot->Option (List Slot)}{f:List Slot->Option Out}{x:PV}{xs:List PV}{σ σ₁ σ₂:List Slot}(h1:bind x σ=some σ₁)(h2:f σ₁=some (.brk σ₂)):loopGo bind f (x::xs) σ=some (.next σ₂):=by
 show(bind x σ).bind _=_;rw[h1];show(f σ₁).bind _=_;rw[h2];rfl
abbrev jf:=(rV (sc:=bk.sc nm) ⟨2,"place",(qz 297 8 13)⟩).bind
noncomputable def places:Nat->Nat->List PV
 |_,0=>[]
 |p,n+1=>.int (p:Int)::places (p+1) n
section
variable{r:Nat->Slot}{p:Nat}{b l:V2}{fs:List Int}{f:Int}{pre:List V2}
theorem Be:jf (.int p) (FW r)=some (FW (upd r 2 (iV p))):=by
 show some ((FW r).set 2 (iV p))=_
 rw[fc (bE rfl)]
theorem xw{r3:Nat->Slot}(h12:r 12=.own (pre.map pt++[pt b,pt l]))(hl:pre.length<=200)(hu:(bif decide ((p:Int)>5)then isUnit b l else false)=false)
  (h3:xF.ex F8 (FW (upd (upd (upd r 2 (iV p)) 13 (.val (pt b))) 14 (.val (pt l))))=some (.next (FW r3))) (g7:r3 7=.own (iv fs)) (gk:∀j,Nat.beq j 7=false->r3 j=upd (upd (upd r 2 (iV p)) 13 (.val (pt b))) 14 (.val (pt l)) j) (hp:p<=100) (hf:fs[p]?=some f) (hs:sm f=true):
  ∃r',(∀rest,loopGo jf (iB.ex F8) (.int p::rest) (FW r)=loopGo jf (iB.ex F8) rest (FW r'))/\oO r r'/\r' 7=.own (iv fs)/\r' 12=.own ((pre++[b]).map pt++[pt l,pt (jn f b l)]):=by
 have hc:(pre.map pt++[pt b,pt l]).length<=900:=by rw[ay,List.length_map];show pre.length+2<=900;lia
 refine⟨upd r3 12 (.own ((pre.map pt++[pt b,pt l])++[pt (jn f b l)])),λrest=>cz Be (ao (Jf (r:=upd r 2 (iV p)) h12 (by rw[List.length_map];lia)) (ao ((Jg (p:=p) (b:=b) (l:=l) rfl rfl rfl hu)) (ao h3 (bJ (PU (p:=p) (b:=b) (l:=l) ((gk 2 rfl).trans rfl) g7 ((gk 13 rfl).trans rfl) ((gk 14 rfl).trans rfl) ((gk 12 rfl).trans h12) hc hp hf hs))))),?_,g7,?_⟩
 ·intro j j2 j7 VK RO RP
  rw[aM VK,gk j j7,aM RP,aM RO,aM j2]
 ·rw[yU,List.map_append]
  congr 1
  rw[List.append_assoc,List.append_assoc];rfl
theorem iN(hp:p<=4)(h7:r 7=.own (iv fs))(hf:fs[p]?=some f)(hs:sm f=true)(h12:r 12=.own (pre.map pt++[pt b,pt l]))(hl:pre.length<=200):
  ∃r',(∀rest,loopGo jf (iB.ex F8) (.int p::rest) (FW r)=loopGo jf (iB.ex F8) rest (FW r'))/\oO r r'/\r' 7=.own (iv fs)/\r' 12=.own ((pre++[b]).map pt++[pt l,pt (jn f b l)]):=
 xw h12 hl (by rw[eE (show¬(p:Int)>5 by lia)];rfl) (PT rfl hp) h7 (λ_ _=>rfl) (by lia) hf hs
theorem z9(hp:4<p)(hp2:p<=100)(hu:(bif decide ((p:Int)>5)then isUnit b l else false)=false)(h7:r 7=.own (iv fs))(hf:fs.length=p)(hs:sm (bZ b l)=true)(hh:l.1=0/\sm b.2=true\/Ke b.1 l.1=true)(h12:r 12=.own (pre.map pt++[pt b,pt l]))(hl:pre.length<=200):
  ∃r',(∀rest,loopGo jf (iB.ex F8) (.int p::rest) (FW r)=loopGo jf (iB.ex F8) rest (FW r'))/\oO r r'/\r' 7=.own (iv (fs++[bZ b l]))/\r' 12=.own ((pre++[b]).map pt++[pt l,pt (jn (bZ b l) b l)]):=
 xw (fs:=fs++[bZ b l]) h12 hl hu (HQ rfl hp h7 rfl rfl (by lia) hh) (yU _ _ _) (λj h=>aM h) hp2 (by rw[<-hf,List.getElem?_append_right (Nat.le_refl _),Nat.sub_self];rfl) hs
theorem Eb{rest:List PV}(hp:5<p)(hu:isUnit b l=true)(h12:r 12=.own (pre.map pt++[pt b,pt l]))(hl:pre.length<=200):
  ∃r',loopGo jf (iB.ex F8) (.int p::rest) (FW r)=some (.next (FW r'))/\oO r r'/\r' 7=r 7/\r' 12=r 12:=by
 refine⟨upd (upd (upd r 2 (iV p)) 13 (.val (pt b))) 14 (.val (pt l)),?_,λj j2 _ _ RO RP=>by rw[aM RP,aM RO,aM j2],rfl,rfl⟩
 have e:iB.ex F8 (FW (upd r 2 (iV p)))=some (.brk (FW (upd (upd (upd r 2 (iV p)) 13 (.val (pt b))) 14 (.val (pt l))))):=by
  refine ao (Jf (r:=upd r 2 (iV p)) h12 (by rw[List.length_map];lia)) ?_
  show f7 _ _=_
  rw[Jg (p:=p) (b:=b) (l:=l) rfl rfl rfl (show _=true by rw[eT (show(p:Int)>5 by lia)];exact hu)];rfl
 exact tV Be e
end
theorem iU(f:Int)(b l:V2):bS l (jn f b l)=bS b l:=by
 unfold bS jn
 show l.1*(f*l.2-b.2)-l.2*(f*l.1-b.1)=b.1*l.2-b.2*l.1
 grind
theorem dN(c d:V2):ent (1,0) c d=e0 c d:=by
 have h:∀c:V2,n8 (1,0) c=decide (0<c.2):=λc=>by
  unfold n8
  rw[show bS (1,0) c=c.2 by show(1:Int)*c.2-0*c.1=c.2;lia]
 unfold ent e0
 rw[h,h]
 cases decide (0<c.2)<;>cases decide (0<d.2)<;>rfl
theorem v5{m:Int}{c:V2}(h:rY m c=true):(-m<=c.1/\c.1<=m)/\-m<=c.2/\c.2<=m:=by
 obtain⟨h1,h2⟩:=an h
 exact⟨⟨of_decide_eq_true (an h1).1,of_decide_eq_true (an h1).2⟩,of_decide_eq_true (an h2).1,of_decide_eq_true (an h2).2⟩
theorem unit_eq{b l:V2}(h:isUnit b l=true):b=(1,0)/\l=(0,1):=by
 obtain⟨h1,h2⟩:=an h
 exact⟨Prod.ext (eq_of_beq (an h1).1) (eq_of_beq (an h1).2),Prod.ext (eq_of_beq (an h2).1) (eq_of_beq (an h2).2)⟩
inductive Mv(k p n:Nat)(s w:Int)(pre:List V2)(b:V2)(fs:List Int)(r:Nat->Slot)(gs:List Int)(q:List V2)(r':Nat->Slot):Prop
 |mk (h0:loopGo jf (iB.ex F8) (places p n) (FW r)=some (.next (FW r'))) (h1:oO r r') (h2:r' 7=.own (iv (fs++gs))) (h3:r' 12=.own ((pre++b::q).map pt++[pt (0,1)])) (h4:turns b q) (h5:d8 b q=(1,0)) (h6:q.length=gs.length) (h7:(∀c∈q,rY 419 c=true)) (h8:(∀g∈gs,-14<=g/\g<=8)) (h9:3*((p:Int)+gs.length)-(s+gs.sum)=12*(w+ways (1,0) b q)) (qY:gs.length<k) (h11:1<=w+ways (1,0) b q) (h12:w+ways (1,0) b q<=3):Mv k p n s w pre b fs r gs q r'
theorem Ai:∀(k:Nat) (past:Bool) (p n:Nat) (s w:Int) (pre:List V2) (b l:V2) (fs:List Int) (r:Nat->Slot),x9 k past (p:Int) s w b l=true->past=decide ((p:Int)>5)->r 7=.own (iv fs)->fs.length=p->4<p->p+k<=50->k<=n->r 12=.own (pre.map pt++[pt b,pt l])->pre.length<=p->bS b l=1->rY 419 b=true->rY 419 l=true->
  ∃(gs:List Int) (q:List V2) (r':Nat->Slot),Mv k p n s w pre b fs r gs q r':=by
 intro k
 induction k with
 |zero=>intro past p n s w pre b l fs r h;exact nomatch h
 |succ k ih=>
  intro past p n s w pre b l fs r h IG h7 hf hp hk hn h12 hl hc hb hl2
  cases n with
  |zero=>exact absurd hn (Nat.not_succ_le_zero _)
  |succ n=>
   have h:(bif and past (isUnit b l)then and (3*(p:Int)-s==12*w) (and (decide (1<=w)) (decide (w<=3)))else and (and (bif l.1==0 then true else Ke b.1 l.1) (and (rY 419 (jn (bZ b l) b l)) (and (decide (-14<=bZ b l)) (decide (bZ b l<=8))))) (x9 k true ((p:Int)+1) (s+bZ b l) (w+e0 b l) l (jn (bZ b l) b l)))=true:=h
   cases hu:and past (isUnit b l)with
   |true=>
    rw[hu]at h
    obtain⟨u1,u2⟩:=an hu
    clear hu
    obtain⟨rfl,rfl⟩:=unit_eq u2
    have Wy:(p:Int)>5:=of_decide_eq_true (IG.symm.trans u1)
    obtain⟨r',e,ke,e7,pA⟩:=Eb (p:=p) (rest:=places (p+1) n) (by lia) u2 h12 (by lia)
    obtain⟨hz,hw⟩:=an h
    have hz:3*(p:Int)-s=12*w:=eq_of_beq hz
    clear h
    have w1:=of_decide_eq_true (an hw).1
    have w2:=of_decide_eq_true (an hw).2
    refine⟨[],[],r',e,ke,e7.trans (h7.trans (by rw[List.append_nil])),pA.trans (h12.trans ?_),trivial,rfl,rfl,(λ_ h=>nomatch h),(λ_ h=>nomatch h),?_,Nat.succ_pos _,by show 1<=w+0;lia,by show w+0<=3;lia⟩
    ·rw[List.map_append,List.append_assoc];rfl
    ·show 3*((p:Int)+((0:Nat):Int))-(s+0)=12*(w+0)
     lia
   |false=>
    rw[hu]at h
    obtain⟨h1,h2⟩:=an h
    clear h
    obtain⟨h3,h4⟩:=an h1
    clear h1
    obtain⟨h5,h6⟩:=an h4
    clear h4
    have f1:=of_decide_eq_true (an h6).1
    have f2:=of_decide_eq_true (an h6).2
    have b2:=(v5 hb).2
    have hh:l.1=0/\sm b.2=true\/Ke b.1 l.1=true:=by
     cases q:l.1==0 with
     |true=>exact Or.inl ⟨eq_of_beq q,mw (by lia) (by lia)⟩
     |false=>rw[q]at h3;exact Or.inr h3
    have VG:(bif decide ((p:Int)>5)then isUnit b l else false)=false:=by
     rw[<-IG];cases past
     ·rfl
     ·exact hu
    obtain⟨r1,e1,k1,e7,pA⟩:=z9 hp (by lia) VG h7 hf (mw (by lia) (by lia)) hh h12 (by lia)
    obtain⟨gs,q,r',e,ke,g7,Nk,t1,t2,t3,t4,t5,t6,t7,t8,t9⟩:=ih true (p+1) n (s+bZ b l) (w+e0 b l) (pre++[b]) l (jn (bZ b l) b l) (fs++[bZ b l]) r1 h2 (by rw[eT (by lia)]) e7 (by rw[ay,hf];rfl) (by lia) (by lia) (by lia) pA (by rw[ay];show pre.length+1<=p+1;lia) ((iU _ _ _).trans hc) hl2 h5
    refine⟨bZ b l::gs,l::q,r',(e1 _).trans e,k1.trans ke,g7.trans (by rw[List.append_assoc];rfl),Nk.trans (by rw[List.append_assoc];rfl),⟨by rw[hc];decide,t1⟩,t2,congrArg Nat.succ t3,λc m=>?_,λg m=>?_,?_,Nat.succ_lt_succ t7,?_,?_⟩
    ·rcases eX m with rfl|m
     ·exact hl2
     ·exact t4 c m
    ·rcases eX m with rfl|m
     ·exact⟨f1,f2⟩
     ·exact t5 g m
    ·rw[List.sum_cons,List.length_cons]
     show _=12*(w+(ent (1,0) b l+ways (1,0) l q))
     rw[dN]
     lia
    ·show 1<=w+(ent (1,0) b l+ways (1,0) l q)
     rw[dN];lia
    ·show w+(ent (1,0) b l+ways (1,0) l q)<=3
     rw[dN];lia
end
section
open Q1
structure Walk(fs:List Int)(l:List V2):Prop where
 tu:turns (1,0) l
 la:d8 (1,0) l=(1,0)
 ln:l.length=fs.length
 sm:∀c∈(1,0)::l,rY 419 c=true
 fb:∀f∈fs,-14<=f/\f<=8
 eq:3*(fs.length:Int)-fs.sum=12*ways (1,0) (1,0) l
 lo:5<=fs.length
 hi:fs.length<=16
 kb:1<=ways (1,0) (1,0) l/\ways (1,0) (1,0) l<=3
theorem F3{g0 g1 g2 g3 g4:Int}(H:BZ g0 g1 g2 g3 g4=true):∃c2 c3 c4 c5 c6,jn g0 (1,0) (0,1)=c2/\jn g1 (0,1) c2=c3/\jn g2 c2 c3=c4/\jn g3 c3 c4=c5/\jn g4 c4 c5=c6/\(and (and (and (rY 419 c2) (rY 419 c3)) (and (rY 419 c4) (rY 419 c5))) (and (rY 419 c6) (x9 12 false 5 (g0+g1+g2+g3+g4) (e0 (1,0) (0,1)+e0 (0,1) c2+e0 c2 c3+e0 c3 c4+e0 c4 c5) c5 c6)))=true:=⟨_,_,_,_,_,rfl,rfl,rfl,rfl,rfl,H⟩
inductive S5(r:Nat->Slot)(g0 g1 g2 g3 g4:Int):Prop
 |mk (fs:List Int) (l:List V2) (r':Nat->Slot) (h0:A2.ex F8 (FW r)=some (.next (FW r'))) (h1:oO r r') (h2:r' 7=.own (iv fs)) (h3:r' 12=.own (((1,0)::l).map pt++[pt (0,1)])) (h4:Walk fs l) (h5:∃gs,fs=[g0,g1,g2,g3,g4]++gs):S5 r g0 g1 g2 g3 g4
theorem Bh{r:Nat->Slot}{a f1 f2 f3 f4:Nat}(ha:a<12)(h1:f1<5)(h2:f2<5)(h3:f3<5)(h4:f4<5)(h7:r 7=.own (iv [(a:Int)-3,(f1:Int)-1,(f2:Int)-1,(f3:Int)-1,(f4:Int)-1]))(h12:r 12=.own [pt (1,0),pt (0,1)]):
  S5 r ((a:Int)-3) ((f1:Int)-1) ((f2:Int)-1) ((f3:Int)-1) ((f4:Int)-1):=by
 obtain⟨c2,c3,c4,c5,c6,q2,q3,q4,q5,q6,H⟩:=F3 (F4 ha h1 h2 h3 h4)
 have b0:-14<=(a:Int)-3/\(a:Int)-3<=8:=by lia
 have b1:-14<=(f1:Int)-1/\(f1:Int)-1<=8:=by lia
 have b2:-14<=(f2:Int)-1/\(f2:Int)-1<=8:=by lia
 have b3:-14<=(f3:Int)-1/\(f3:Int)-1<=8:=by lia
 have b4:-14<=(f4:Int)-1/\(f4:Int)-1<=8:=by lia
 generalize(a:Int)-3=g0 at *
 generalize(f1:Int)-1=g1 at *
 generalize(f2:Int)-1=g2 at *
 generalize(f3:Int)-1=g3 at *
 generalize(f4:Int)-1=g4 at *
 have s:∀{g:Int},-14<=g/\g<=8->sm g=true:=λh=>mw (by lia) (by lia)
 obtain⟨r1,e1,k1,e7,pA⟩:=iN (p:=0) (pre:=[]) (b:=(1,0)) (l:=(0,1)) (bE rfl) h7 rfl (s b0) h12 (bE rfl)
 have u1:bS (1,0) (0,1)=1:=by decide
 have u2:=(iU g0 (1,0) (0,1)).trans u1
 rw[q2]at pA u2
 obtain⟨r2,e2,k2,e7,pA⟩:=iN (p:=1) (pre:=[(1,0)]) (b:=(0,1)) (l:=c2) (bE rfl) e7 rfl (s b1) pA (bE rfl)
 have u3:=(iU g1 (0,1) c2).trans u2
 rw[q3]at pA u3
 obtain⟨r3,e3,k3,e7,pA⟩:=iN (p:=2) (pre:=[(1,0),(0,1)]) (b:=c2) (l:=c3) (bE rfl) e7 rfl (s b2) pA (bE rfl)
 have u4:=(iU g2 c2 c3).trans u3
 rw[q4]at pA u4
 obtain⟨r4,e4,k4,e7,pA⟩:=iN (p:=3) (pre:=[(1,0),(0,1),c2]) (b:=c3) (l:=c4) (bE rfl) e7 rfl (s b3) pA (bE rfl)
 have u5:=(iU g3 c3 c4).trans u4
 rw[q5]at pA u5
 obtain⟨r5,e5,k5,e7,pA⟩:=iN (p:=4) (pre:=[(1,0),(0,1),c2,c3]) (b:=c4) (l:=c5) (bE rfl) e7 rfl (s b4) pA (bE rfl)
 have u6:=(iU g4 c4 c5).trans u5
 rw[q6]at pA u6
 obtain⟨ht,hw⟩:=an H
 obtain⟨ht1,VF⟩:=an ht
 obtain⟨i2,i3⟩:=an ht1
 obtain⟨i4,i5⟩:=an VF
 obtain⟨i6,hw⟩:=an hw
 obtain⟨gs,q,r',e,ke,g7,Nk,t1,t2,t3,t4,t5,t6,t7,t8,t9⟩:=Ai 12 false 5 80 _ _ [(1,0),(0,1),c2,c3,c4] c5 c6 [g0,g1,g2,g3,g4] r5 hw rfl e7 rfl (bE rfl) (bE rfl) (bE rfl) pA (bE rfl) u6 i5 i6
 refine⟨[g0,g1,g2,g3,g4]++gs,(0,1)::c2::c3::c4::c5::q,r',?_,(((((k1.trans k2).trans k3).trans k4).trans k5).trans ke),g7,Nk,?_,gs,rfl⟩
 ·show loopGo jf (iB.ex F8) (places 0 85) (FW r)=_
  exact(e1 _).trans ((e2 _).trans ((e3 _).trans ((e4 _).trans ((e5 _).trans e))))
 ·constructor
  ·exact⟨by decide,by rw[u2];decide,by rw[u3];decide,by rw[u4];decide,by rw[u5];decide,t1⟩
  ·exact t2
  ·rw[ay];show q.length+5=5+gs.length;lia
  ·exact List.forall_mem_cons.mpr ⟨rfl,List.forall_mem_cons.mpr ⟨rfl,List.forall_mem_cons.mpr ⟨i2,List.forall_mem_cons.mpr ⟨i3,List.forall_mem_cons.mpr ⟨i4,List.forall_mem_cons.mpr ⟨i5,t4⟩⟩⟩⟩⟩⟩
  ·exact List.forall_mem_append.mpr ⟨List.forall_mem_cons.mpr ⟨b0,List.forall_mem_cons.mpr ⟨b1,List.forall_mem_cons.mpr ⟨b2,List.forall_mem_cons.mpr ⟨b3,List.forall_mem_cons.mpr ⟨b4,nofun⟩⟩⟩⟩⟩,t5⟩
  ·rw[ay]
   show 3*((5+gs.length:Nat):Int)-(g0+(g1+(g2+(g3+(g4+gs.sum)))))=12*(ent (1,0) (1,0) (0,1)+(ent (1,0) (0,1) c2+(ent (1,0) c2 c3+(ent (1,0) c3 c4+(ent (1,0) c4 c5+ways (1,0) c5 q)))))
   rw[dN,dN,dN,dN,dN]
   lia
  ·rw[ay];exact Nat.le_add_right 5 _
  ·rw[ay];show 5+gs.length<=16;lia
  ·show 1<=ent (1,0) (1,0) (0,1)+(ent (1,0) (0,1) c2+(ent (1,0) c2 c3+(ent (1,0) c3 c4+(ent (1,0) c4 c5+ways (1,0) c5 q))))/\ent (1,0) (1,0) (0,1)+(ent (1,0) (0,1) c2+(ent (1,0) c2 c3+(ent (1,0) c3 c4+(ent (1,0) c4 c5+ways (1,0) c5 q))))<=3
   rw[dN,dN,dN,dN,dN,<-Int.add_assoc,<-Int.add_assoc,<-Int.add_assoc,<-Int.add_assoc]
   exact⟨t8,t9⟩
end
section
open Q1
abbrev dg(a b c d:Int):Slot:=.own (iv [a,b,c,d])
section
variable{r:Nat->Slot}
theorem SD(r:Nat->Slot):AX.ex F8 (FW r)=some (.next (FW (upd r 1 (dg 91 597 24373 131881)))):=by kernel_rfl
theorem PK(r:Nat->Slot)(n a b c d:Int)(i:Int):Ih.ex F8 (FW (upd (upd (upd r 1 (dg a b c d)) 2 (.val (.int i))) 3 (.val (.int n))))=
  (rE 4 (Int.fmod i 4)).bind λk=>((iv [a,b,c,d])[k]?).bind λx=>(jU.f x (.int (Int.fmod n 1000000))).map λy=>.next ((FW (upd (upd (upd r 1 (dg a b c d)) 2 (.val (.int i))) 3 (.val (.int n)))).set 1 (.own ((iv [a,b,c,d]).set k y))):=by kernel_rfl
theorem yW(r:Nat->Slot)(a b c d a' b' c' d':Int)(t u:Slot):(FW (upd (upd (upd r 1 (dg a b c d)) 2 t) 3 u)).set 1 (dg a' b' c' d')=FW (upd (upd (upd r 1 (dg a' b' c' d')) 2 t) 3 u):=by kernel_rfl
theorem SV(r:Nat->Slot)(n a b c d:Int)(i:Nat):∃a' b' c' d',AQ.ex F8 (FW (upd (upd (upd r 1 (dg a b c d)) 2 (.val (.int (i:Int)))) 3 (.val (.int n))))=some (.next (FW (upd (upd (upd r 1 (dg a' b' c' d')) 2 (.val (.int (i:Int)))) 3 (.val (.int n))))):=by
 have hm:Int.fmod (i:Int) 4=((i % 4:Nat):Int):=by rw[Int.fmod_eq_emod_of_nonneg _ (by lia)];rfl
 have key:=PK r n a b c d (i:Int)
 rw[hm]at key
 have hk:i % 4=0\/i % 4=1\/i % 4=2\/i % 4=3:=by lia
 rcases hk with e|e|e|e<;>rw[e]at key
 ·exact⟨a+Int.fmod n 1000000,b,c,d,ao (key.trans (congrArg (λz=>some (Out.next z)) (yW r a b c d _ _ _ _ _ _))) rfl⟩
 ·exact⟨a,b+Int.fmod n 1000000,c,d,ao (key.trans (congrArg (λz=>some (Out.next z)) (yW r a b c d _ _ _ _ _ _))) rfl⟩
 ·exact⟨a,b,c+Int.fmod n 1000000,d,ao (key.trans (congrArg (λz=>some (Out.next z)) (yW r a b c d _ _ _ _ _ _))) rfl⟩
 ·exact⟨a,b,c,d+Int.fmod n 1000000,ao (key.trans (congrArg (λz=>some (Out.next z)) (yW r a b c d _ _ _ _ _ _))) rfl⟩
abbrev I3:=(Ac (sc:=bk.sc nm) [⟨2,"place",(qz 290 8 13)⟩,⟨3,"number",(qz 290 15 21)⟩] 0 (qz 290 8 21)).bind
theorem Ly(r:Nat->Slot)(x t u:Slot)(i n:PV):I3 (.tup [i,n]) (FW (upd (upd (upd r 1 x) 2 t) 3 u))=some (FW (upd (upd (upd r 1 x) 2 (.val i)) 3 (.val n))):=by kernel_rfl
inductive Mr(r:Nat->Slot)(ns:List Int)(k:Nat)(a b c d:Int)(t u:Slot):Prop
 |mk (a':Int) (b':Int) (c':Int) (d':Int) (t':Slot) (u':Slot) (h0:loopGo I3 (AQ.ex F8) (bP k (iv ns)) (FW (upd (upd (upd r 1 (dg a b c d)) 2 t) 3 u))=some (.next (FW (upd (upd (upd r 1 (dg a' b' c' d')) 2 t') 3 u')))):Mr r ns k a b c d t u
theorem Lz(r:Nat->Slot):∀(ns:List Int) (k:Nat) (a b c d:Int) (t u:Slot),Mr r ns k a b c d t u:=by
 intro w
 induction w with
 |nil=>intro k a b c d t u;exact⟨a,b,c,d,t,u,rfl⟩
 |cons n ns ih=>
  intro k a b c d t u
  obtain⟨a',b',c',d',e⟩:=SV r n a b c d k
  obtain⟨a₂,b₂,c₂,d₂,t',u',ih⟩:=ih (k+1) a' b' c' d' (.val (.int (k:Int))) (.val (.int n))
  exact⟨a₂,b₂,c₂,d₂,t',u',jY (Ly r _ t u _ _) e ih⟩
theorem SG{ns:List Int}(hz:ns.length<=63){a b c d:Int}(h0:r 0=.val (.lst (ns.map .int)))(h1:r 1=dg a b c d):∃a' b' c' d' t u,AY.ex F8 (FW r)=some (.next (FW (upd (upd (upd r 1 (dg a' b' c' d')) 2 t) 3 u))):=by
 have hc:∃ms:List Int,cut (ns.map PV.int) (ns.map PV.int).length none (some 60)=iv ms:=⟨cut ns ns.length none (some 60),by unfold cut iv;rw[List.length_map,List.map_take,List.map_drop]⟩
 obtain⟨ms,hc⟩:=hc
 obtain⟨a',b',c',d',t,u,e⟩:=Lz r ms 0 a b c d (r 2) (r 3)
 rw[cu h1,cu (i:=2) rfl,cu (i:=3) rfl]at e
 refine⟨a',b',c',d',t,u,bnd (a:=bP 0 (iv ms)) (bnd (a:=.lst (iv ms)) ?_ rfl) e⟩
 refine bnd (Ng (sV (bz (r:=r) (i:=0) (bE rfl)) h0)) (bnd (a:=none) rfl (bnd (a:=some 60) rfl ?_))
 refine(av (aV ?_)).trans (by rw[hc])
 rw[List.length_map];lia
theorem U3(ps:List PV):F8.fn 14 ps=aG Ay JB (eO.d9 7) ps:=by kernel_rfl
theorem uY{ds:List Nat}{a b c:Nat}(h:Below ds [a,b,c]):∃x y z,ds=[x,y,z]/\(x<a/\y<b/\z<c):=by
 rcases ds with _|⟨x,_|⟨y,_|⟨z,_|_⟩⟩⟩
 ·exact h.elim
 ·exact h.2.elim
 ·exact h.2.2.elim
 ·exact⟨x,y,z,rfl,h.1,h.2.1,h.2.2.1⟩
 ·exact h.2.2.2.elim
theorem Jw{ds:List Nat}{a b c d:Nat}(h:Below ds [d,a,b,c]):∃w x y z,ds=[w,x,y,z]/\(w<d/\x<a/\y<b/\z<c):=by
 cases ds with
 |nil=>exact h.elim
 |cons w=>obtain⟨x,y,z,e,q⟩:=uY h.2;exact⟨w,x,y,z,congrArg _ e,h.1,q⟩
theorem xR(n:Int){bs:List Nat}(hb:∀b∈bs,0<b/\b<=1000)(hz:bs.length<=1000):∃ds,F8.fn 14 [.int n,.lst (nv bs)]=some (.lst (nv ds))/\Below ds bs:=by
 obtain⟨ds,e,h⟩:=BY (Φ:=eO.d9 7) (n:=n) hb hz
 exact⟨ds,(U3 _).trans e,h⟩
theorem Pw(r:Nat->Slot)(a b c d:Int):xC.ex F8 (FW (upd r 1 (dg a b c d)))=(F8.fn 14 [.int a,.lst (nv [6,2,12])]).bind λp=>(p.gw).bind λps=>(iL [⟨4,"corner",(qz 292 4 10)⟩,⟨5,"gap",(qz 292 12 15)⟩,⟨6,"first",(qz 292 17 22)⟩] ps (FW (upd r 1 (dg a b c d)))).map .next:=by kernel_rfl
theorem Px(r:Nat->Slot)(a b c:PV):iL [⟨4,"corner",(qz 292 4 10)⟩,⟨5,"gap",(qz 292 12 15)⟩,⟨6,"first",(qz 292 17 22)⟩] [a,b,c] (FW r)=some (FW (upd (upd (upd r 4 (.val a)) 5 (.val b)) 6 (.val c))):=by kernel_rfl
theorem SH{a b c d:Int}(h1:r 1=dg a b c d):∃c0 g f:Nat,(c0<6/\g<2/\f<12)/\xC.ex F8 (FW r)=some (.next (FW (upd (upd (upd r 4 (iV c0)) 5 (iV g)) 6 (iV f)))):=by
 obtain⟨ds,e,h⟩:=xR a (bs:=[6,2,12]) (by decide) (by decide)
 obtain⟨c0,g,f,ed,q⟩:=uY h
 refine⟨c0,g,f,q,?_⟩
 rw[<-cu h1,Pw,e,ed]
 exact mp (Px _ _ _ _)
theorem NO(r:Nat->Slot)(a b c d:Int):m7.it.ev F8 (FW (upd r 1 (dg a b c d)))=(F8.fn 14 [.int b,.lst (nv [5,5,5,5])]).bind PV.gw:=by kernel_rfl
theorem NN(σ:List Slot)(a b c d:Int):fq m7.tg m7.ifs m7.elt (aK m7.scope).length F8 σ [.int a,.int b,.int c,.int d]=some [.int (a-1),.int (b-1),.int (c-1),.int (d-1)]:=by kernel_rfl
theorem SJ{a b c d:Int}{f:Nat}(h1:r 1=dg a b c d)(h6:r 6=iV f):∃f1 f2 f3 f4:Nat,(f1<5/\f2<5/\f3<5/\f4<5)/\A0.ex F8 (FW r)=some (.next (FW (upd r 7 (.own (iv [(f:Int)-3,(f1:Int)-1,(f2:Int)-1,(f3:Int)-1,(f4:Int)-1]))))):=by
 obtain⟨ds,e,h⟩:=xR b (bs:=[5,5,5,5]) (by decide) (by decide)
 obtain⟨f1,f2,f3,f4,ed,q⟩:=Jw h
 refine⟨f1,f2,f3,f4,q,?_⟩
 have ek:m7.ev F8 (FW r)=some (iv [(f1:Int)-1,(f2:Int)-1,(f3:Int)-1,(f4:Int)-1]):=by
  refine lR (xs:=nv [f1,f2,f3,f4]) ?_ (NN _ _ _ _ _) (bE rfl)
  rw[<-cu h1,NO,e,ed];rfl
 rw[<-fc (bE rfl)]
 refine mp (a:=iv [(f:Int)-3,(f1:Int)-1,(f2:Int)-1,(f3:Int)-1,(f4:Int)-1]) ?_
 refine bnd (a:=[PV.int ((f:Int)-3)]) (bnd (a:=.lst [.int ((f:Int)-3)]) ?_ rfl) (bnd (a:=.lst (iv [(f1:Int)-1,(f2:Int)-1,(f3:Int)-1,(f4:Int)-1])) (gM ek) rfl)
 exact bnd (qU (bW (x:=.int f) (y:=.int 3) (sV (bz (bE rfl)) h6) rfl rfl)) rfl
theorem PG(r:Nat->Slot)(a b c d:Int):xD.ex F8 (FW (upd r 1 (dg a b c d)))=(F8.fn 14 [.int c,.lst (nv [9,9,900])]).bind λp=>(p.gw).bind λps=>(iL [⟨8,"right",(qz 294 4 9)⟩,⟨9,"up",(qz 294 11 13)⟩,⟨10,"white",(qz 294 15 20)⟩] ps (FW (upd r 1 (dg a b c d)))).map .next:=by kernel_rfl
theorem PI(r:Nat->Slot)(a b c:PV):iL [⟨8,"right",(qz 294 4 9)⟩,⟨9,"up",(qz 294 11 13)⟩,⟨10,"white",(qz 294 15 20)⟩] [a,b,c] (FW r)=some (FW (upd (upd (upd r 8 (.val a)) 9 (.val b)) 10 (.val c))):=by kernel_rfl
theorem SK{a b c d:Int}(h1:r 1=dg a b c d):∃x y w:Nat,(x<9/\y<9/\w<900)/\xD.ex F8 (FW r)=some (.next (FW (upd (upd (upd r 8 (iV x)) 9 (iV y)) 10 (iV w)))):=by
 obtain⟨ds,e,h⟩:=xR c (bs:=[9,9,900]) (by decide) (by decide)
 obtain⟨c0,g,f,ed,q⟩:=uY h
 refine⟨c0,g,f,q,?_⟩
 rw[<-cu h1,PG,e,ed]
 exact mp (PI _ _ _ _)
theorem PJ(r:Nat->Slot)(a b c d:Int):xE.ex F8 (FW (upd r 1 (dg a b c d)))=(F8.fn 14 [.int d,.lst (nv [6,6,6,6,6,3,2,4])]).map λp=>.next ((FW (upd r 1 (dg a b c d))).set 11 (.val p)):=by kernel_rfl
theorem SM{a b c d:Int}(h1:r 1=dg a b c d):∃ds:List Nat,Below ds [6,6,6,6,6,3,2,4]/\xE.ex F8 (FW r)=some (.next (FW (upd r 11 (.val (.lst (nv ds)))))):=by
 obtain⟨ds,e,h⟩:=xR d (bs:=[6,6,6,6,6,3,2,4]) (by decide) (by decide)
 refine⟨ds,h,?_⟩
 rw[<-cu h1,PJ,e]
 show some (Out.next _)=_
 rw[fc (bE rfl)]
theorem SN(r:Nat->Slot):A1.ex F8 (FW r)=some (.next (FW (upd r 12 (.own [pt (1,0),pt (0,1)])))):=by kernel_rfl
end
end
section
open Q1
abbrev oS:List PV:=[pt (1,0),pt (1,1),pt (0,1),pt (-1,0),pt (-1,-1),pt (0,-1)]
section
variable{r:Nat->Slot}
theorem SQ(r:Nat->Slot):A3.ex F8 (FW r)=some (.next (FW (upd r 15 (.val (.lst oS))))):=by kernel_rfl
theorem By{c:Nat}(h:c<6):oS[c]?=some (pt (az c)):=by
 rcases Q1.six h with rfl|rfl|rfl|rfl|rfl|rfl<;>rfl
theorem SR{c g:Nat}(hc:c<6)(hg:g<2)(h4:r 4=iV c)(h5:r 5=iV g)(Vf:r 15=.val (.lst oS)):A4.ex F8 (FW r)=some (.next (FW (upd (upd r 16 (.val (pt (az c)))) 17 (.val (pt (az ((c+g+1) % 6))))))):=by
 have g4:ee (FW r) 4=some (.int c):=sV (bz (bE rfl)) h4
 have g5:ee (FW r) 5=some (.int g):=sV (bz (bE rfl)) h5
 have Nl:ee (FW r) 15=some (.lst oS):=sV (bz (bE rfl)) Vf
 rw[<-fc (bE rfl),<-fc (bE rfl)]
 refine bnd (a:=.tup [pt (az c),pt (az ((c+g+1) % 6))]) (bnd (gp (bnd (a:=oS) (bnd Nl rfl) (bnd g4 (bnd (a:=(c:Int)) rfl (bnd (fh (by lia)) (By hc))))) (bnd (a:=oS) (bnd Nl rfl) (bnd (a:=.int ((((c+g+1) % 6:Nat)):Int)) ?_ (bnd (a:=((((c+g+1) % 6:Nat)):Int)) rfl (bnd (fh (by lia)) (By (by lia))))))) rfl) (bnd (a:=[pt (az c),pt (az ((c+g+1) % 6))]) rfl rfl)
 exact wz (d:=c+g+1) (n:=6) (bW (x:=.int ((c:Int)+g)) (y:=.int 1) (bW (x:=.int c) (y:=.int g) g4 g5 rfl) rfl rfl) rfl (bE rfl)
theorem NQ{cs:List V2}{u v:V2}(h12:r 12=.own (cs.map pt++[pt (0,1)]))(hl:cs.length<=900)(Vg:r 16=.val (pt u))(Ri:r 17=.val (pt v))(hs:∀c∈cs,rY 419 c=true):AU.ev F8 (FW r)=some ((cs.map (gu u v)).map pt):=by
 have e1:(cs.map pt++[pt (0,1)]).length<=1000000:=by rw[ay,List.length_map,List.length_singleton];lia
 have ei:AU.it.ev F8 (FW r)=some (cs.map pt):=by
  refine bnd (a:=.lst (cs.map pt)) (bnd (sO (bz (bE rfl)) h12) (bnd (a:=none) rfl (bnd (a:=some (-1)) rfl ((av (aV e1)).trans ?_)))) rfl
  rw[FA]
 refine lR ei ?_ (by rw[List.length_map,List.length_map];lia)
 rw[List.map_map]
 refine comp_map λc m=>⟨.val (.int c.1)::.val (.int c.2)::FW r,rfl,rfl,?_⟩
 have Tu:ee (.val (.int c.1)::.val (.int c.2)::FW r) 18=some (pt u):=sV (bz (i:=16) (bE rfl)) Vg
 have P9:ee (.val (.int c.1)::.val (.int c.2)::FW r) 19=some (pt v):=sV (bz (i:=17) (bE rfl)) Ri
 obtain⟨⟨a1,a2⟩,b1,b2⟩:=v5 (hs c m)
 have s1:sm c.1=true:=mw (by lia) (by lia)
 have s2:sm c.2=true:=mw (by lia) (by lia)
 refine bnd (a:=[PV.int (gu u v c).1,PV.int (gu u v c).2]) (gp ?_ ?_) rfl
 ·exact bW (x:=.int (c.1*u.1)) (y:=.int (c.2*v.1)) (bW (x:=.int c.1) (y:=.int u.1) rfl (bnd (a:=pt u) Tu rfl) (av s1)) (bW (x:=.int c.2) (y:=.int v.1) rfl (bnd (a:=pt v) P9 rfl) (av s2)) rfl
 ·exact bW (x:=.int (c.1*u.2)) (y:=.int (c.2*v.2)) (bW (x:=.int c.1) (y:=.int u.2) rfl (bnd (a:=pt u) Tu rfl) (av s1)) (bW (x:=.int c.2) (y:=.int v.2) rfl (bnd (a:=pt v) P9 rfl) (av s2)) rfl
theorem O5(r:Nat->Slot):u7.ex F8 (FW r)=some (.next (FW (upd r 19 (.own [])))):=by kernel_rfl
theorem O6(r:Nat->Slot):u9.ex F8 (FW r)=some (.next (FW (upd r 20 (iV 0)))):=by kernel_rfl
structure Head(c g x y w:Nat)(ds:List Nat)(fs:List Int)(l:List V2)(r:Nat->Slot):Prop where
 bc:c<6
 bg:g<2
 bx:x<9
 QH:y<9
 bw:w<900
 dr:Below ds [6,6,6,6,6,3,2,4]
 wk:Walk fs l
 s7:r 7=.own (iv fs)
 s8:r 8=iV x
 s9:r 9=iV y
 V7:r 10=iV w
 V8:r 11=.val (.lst (nv ds))
 V9:r 18=.val (.lst ((((1,0)::l).map (gu (az c) (az ((c+g+1) % 6)))).map pt))
 Wa:r 19=.own []
 Wb:r 20=iV 0
inductive HV(r:Nat->Slot):Prop
 |mk (c:Nat) (g:Nat) (x:Nat) (y:Nat) (w:Nat) (ds:List Nat) (fs:List Int) (l:List V2) (r':Nat->Slot) (h0:Head c g x y w ds fs l r') (h1:∀(rest:SL (bk.sc nm)) (o:Option Out),rest.ex F8 (FW r')=o->(SL.cons AX (.cons AY (.cons xC (.cons A0 (.cons xD (.cons xE (.cons A1 (.cons A2 (.cons A3 (.cons A4 (.cons AZ (.cons u7 (.cons u9 rest))))))))))))).ex F8 (FW r)=o):HV r
theorem Ge{ns:List Int}(hz:ns.length<=63)(h0:r 0=.val (.lst (ns.map .int))):HV r:=by
 obtain⟨A,B,C,D,t,u,e1⟩:=SG (r:=upd r 1 (dg 91 597 24373 131881)) hz h0 rfl
 obtain⟨c,g,f,⟨bc,bg,bf⟩,e2⟩:=SH (r:=upd (upd (upd (upd r 1 (dg 91 597 24373 131881)) 1 (dg A B C D)) 2 t) 3 u) rfl
 obtain⟨f1,f2,f3,f4,⟨b1,b2,b3,b4⟩,e3⟩:=SJ (r:=upd (upd (upd (upd (upd (upd (upd r 1 (dg 91 597 24373 131881)) 1 (dg A B C D)) 2 t) 3 u) 4 (iV c)) 5 (iV g)) 6 (iV f)) (a:=A) (b:=B) (c:=C) (d:=D) rfl rfl
 generalize hR:upd (upd (upd (upd (upd (upd (upd r 1 (dg 91 597 24373 131881)) 1 (dg A B C D)) 2 t) 3 u) 4 (iV c)) 5 (iV g)) 6 (iV f)=R at *
 have q1:R 1=dg A B C D:=by rw[<-hR];rfl
 have q4:R 4=iV c:=by rw[<-hR];rfl
 have q5:R 5=iV g:=by rw[<-hR];rfl
 obtain⟨x,y,w,⟨bx,QH,bw⟩,e4⟩:=SK (r:=upd R 7 (.own (iv [(f:Int)-3,(f1:Int)-1,(f2:Int)-1,(f3:Int)-1,(f4:Int)-1]))) (a:=A) (b:=B) (c:=C) (d:=D) q1
 obtain⟨ds,dr,e5⟩:=SM (r:=upd (upd (upd (upd R 7 (.own (iv [(f:Int)-3,(f1:Int)-1,(f2:Int)-1,(f3:Int)-1,(f4:Int)-1]))) 8 (iV x)) 9 (iV y)) 10 (iV w)) (a:=A) (b:=B) (c:=C) (d:=D) q1
 obtain⟨fs,l,r',e7,ke,g7,Nk,wk,_⟩:=Bh (r:=upd (upd (upd (upd (upd (upd R 7 (.own (iv [(f:Int)-3,(f1:Int)-1,(f2:Int)-1,(f3:Int)-1,(f4:Int)-1]))) 8 (iV x)) 9 (iV y)) 10 (iV w)) 11 (.val (.lst (nv ds)))) 12 (.own [pt (1,0),pt (0,1)])) bf b1 b2 b3 b4 rfl rfl
 have k4:r' 4=iV c:=(ke 4 rfl rfl rfl rfl rfl).trans q4
 have k5:r' 5=iV g:=(ke 5 rfl rfl rfl rfl rfl).trans q5
 have k8:r' 8=iV x:=ke 8 rfl rfl rfl rfl rfl
 have k9:r' 9=iV y:=ke 9 rfl rfl rfl rfl rfl
 have VL:r' 10=iV w:=ke 10 rfl rfl rfl rfl rfl
 have VM:r' 11=.val (.lst (nv ds)):=ke 11 rfl rfl rfl rfl rfl
 have e9:=SR (r:=upd r' 15 (.val (.lst oS))) bc bg k4 k5 rfl
 have wl:((1,0)::l).length<=900:=by
  have a:=wk.hi
  have b:=wk.ln
  show l.length+1<=900
  lia
 have ek:=NQ (r:=upd (upd (upd r' 15 (.val (.lst oS))) 16 (.val (pt (az c)))) 17 (.val (pt (az ((c+g+1) % 6))))) Nk wl rfl rfl wk.sm
 refine⟨c,g,x,y,w,ds,fs,l,upd (upd (upd (upd (upd (upd r' 15 (.val (.lst oS))) 16 (.val (pt (az c)))) 17 (.val (pt (az ((c+g+1) % 6))))) 18 (.val (.lst ((((1,0)::l).map (gu (az c) (az ((c+g+1) % 6)))).map pt)))) 19 (.own [])) 20 (iV 0),⟨bc,bg,bx,QH,bw,dr,wk,g7,k8,k9,VL,VM,rfl,rfl,rfl⟩,λrest o k=>?_⟩
 refine ao (SD r) (ao e1 (ao e2 (ao e3 (ao e4 (ao e5 (ao (SN _) (ao e7 (ao (SQ _) (ao e9 (ao (σ':=FW (upd (upd (upd (upd r' 15 (.val (.lst oS))) 16 (.val (pt (az c)))) 17 (.val (pt (az ((c+g+1) % 6))))) 18 (.val (.lst ((((1,0)::l).map (gu (az c) (az ((c+g+1) % 6)))).map pt))))) ?_ (ao (O5 _) (ao (O6 _) k))))))))))))
 rw[<-fc (bE rfl)]
 exact mp ek
end
end
section
open PySem.Float64 Q1
section
variable{x y:UInt64}{p q a b c hi lo:Int}{w:Rat}
theorem ri(h:Fn x):isInf x=false:=by
 obtain⟨s,m,e,h⟩:=h
 unfold isInf;rw[h]
theorem rpos{p:Int}(h:0<p):(0:Rat)<(p:Rat):=by
 have:=lW h
 exact this
theorem GZ{p q:Int}(h:p<=q):(p:Rat)<=(q:Rat):=fK h
theorem r0{p:Int}(h:0<=p):(0:Rat)<=(p:Rat):=fK h
theorem fN(h0:0<=p)(h1:p<=1024):Q1.Ex (cZ p 1024) ((p:Rat)/1024):=by
 have zk:((1024:Int):Rat)=1024:=rfl
 have a1:=GZ h1
 rw[zk]at a1
 have f:=dW (r0 h0) a1 (by decide+kernel)
 have k:=kQ (a:=p) (b:=1024) (by decide) (by rw[zk];exact bH (by grind) (by grind))
 rw[zk]at k
 exact k.ex _ (kL _)
theorem ug(h:Q1.Ex x ((p:Rat)/1024))(hp:0<p):isZero x=false:=by
 rw[v8 h.fn,h.eq]
 have:=rpos hp
 exact eE (by grind)
theorem yH(hx:Q1.Ex x ((p:Rat)/1024))(hy:Q1.Ex y ((q:Rat)/1024)):Q1.Ex (bif Nn.gt y x then y else x) (((max p q:Int):Rat)/1024):=by
 have g:Nn.gt y x=decide (R x<R y):=Np hy.fn hx.fn
 rw[g,hx.eq,hy.eq]
 by_cases h:p<q
 ·have:=lW h
  rw[eT (by grind),Int.max_eq_right (Int.le_of_lt h)];exact hy
 ·have:=GZ (Int.not_lt.mp h)
  rw[eE (by grind),Int.max_eq_left (Int.not_lt.mp h)];exact hx
theorem yG(hx:Q1.Ex x ((p:Rat)/1024))(hy:Q1.Ex y ((q:Rat)/1024)):Q1.Ex (bif NW.gt y x then y else x) (((min p q:Int):Rat)/1024):=by
 have g:NW.gt y x=decide (R y<R x):=mq hy.fn hx.fn
 rw[g,hx.eq,hy.eq]
 by_cases h:q<p
 ·have:=lW h
  rw[eT (by grind),Int.min_eq_right (Int.le_of_lt h)];exact hy
 ·have:=GZ (Int.not_lt.mp h)
  rw[eE (by grind),Int.min_eq_left (Int.not_lt.mp h)];exact hx
abbrev cR(a:Int):UInt64:=cZ a 1024
abbrev cM(a b c:Int):UInt64:=RZ (cR a) (cR b) (cR c)
abbrev cm(a b c:Int):UInt64:=RY (cR a) (cR b) (cR c)
def cH(a b c:Int):UInt64:=gQ (cR a) (cR b) (cR c) (cM a b c) (cm a b c)
abbrev cS(a b c:Int):UInt64:=div (sub (cM a b c) (cm a b c)) (cM a b c)
abbrev cL(a b c:Int):UInt64:=div (add (cM a b c) (cm a b c)) (ofInt 2)
abbrev cP(a b c:Int):UInt64:=zV (cM a b c) (cm a b c)
theorem jJ(C:cI a b c hi lo):Q1.Ex (cR a) ((a:Rat)/1024):=fN (by have:=C.l0;have:=C.la;lia) (by have:=C.ha;have:=C.h1;lia)
theorem jK(C:cI a b c hi lo):Q1.Ex (cR b) ((b:Rat)/1024):=fN (by have:=C.l0;have:=C.lb;lia) (by have:=C.hb;have:=C.h1;lia)
theorem jL(C:cI a b c hi lo):Q1.Ex (cR c) ((c:Rat)/1024):=fN (by have:=C.l0;have:=C.lc;lia) (by have:=C.hc;have:=C.h1;lia)
theorem eS(C:cI a b c hi lo):Q1.Ex (cM a b c) ((hi:Rat)/1024):=by
 have e:max (max a b) c=hi:=(Int.max_assoc a b c).trans (yo C.ha C.hb C.hc C.top)
 have k:=yH (yH (jJ C) (jK C)) (jL C)
 rw[e]at k;exact k
theorem iC(C:cI a b c hi lo):Q1.Ex (cm a b c) ((lo:Rat)/1024):=by
 have e:min (min a b) c=lo:=(Int.min_assoc a b c).trans (yq C.la C.lb C.lc C.bot)
 have k:=yG (yG (jJ C) (jK C)) (jL C)
 rw[e]at k;exact k
theorem rW:Q1.Ex (ofInt 2) 2:=dO (i:=2) (by decide)
theorem rR:Q1.Ex qf 6:=by
 have k:=dO (i:=6) (by decide)
 rw[R3]at k;exact k
theorem Dn:Q1.Ex EP 1:=by
 have k:Q1.Ex (ofInt 1) ((1:Int):Rat):=dO (i:=1) (by decide)
 rw[show ofInt 1=EP by decide+kernel]at k;exact k
theorem jR:Q1.Ex HF (1/2):=by
 have k:=kQ (a:=1) (b:=2) (by decide) (bH (by show(1:Rat)/2<=4096;decide+kernel) (by show-4096<=(1:Rat)/2;decide+kernel))
 rw[show ofFrac (decide ((1:Int)<0) !=decide ((2:Int)<0)) (Int.natAbs 1) (Int.natAbs 2)=HF by decide+kernel]at k
 exact k.ex 549755813888 (by show(1:Rat)/2=(549755813888:Rat)/2^40;decide+kernel)
theorem Oq:Nr S6 (1/6) (1/2^36):=by
 have k:=kQ (a:=1) (b:=6) (by decide) (bH (by show(1:Rat)/6<=4096;decide+kernel) (by show-4096<=(1:Rat)/6;decide+kernel))
 rw[show ofFrac (decide ((1:Int)<0) !=decide ((6:Int)<0)) (Int.natAbs 1) (Int.natAbs 6)=S6 by decide+kernel]at k
 exact(Rd.nr k).weak (by decide+kernel)
theorem w6:Nr uP (2/3) (1/2^36):=by
 have k:=kQ (a:=2) (b:=3) (by decide) (bH (by show(2:Rat)/3<=4096;decide+kernel) (by show-4096<=(2:Rat)/3;decide+kernel))
 rw[show ofFrac (decide ((2:Int)<0) !=decide ((3:Int)<0)) (Int.natAbs 2) (Int.natAbs 3)=uP by decide+kernel]at k
 exact(Rd.nr k).weak (by decide+kernel)
theorem IY:Nr O3 (1/3) (1/2^36):=by
 have k:=kQ (a:=1) (b:=3) (by decide) (bH (by show(1:Rat)/3<=4096;decide+kernel) (by show-4096<=(1:Rat)/3;decide+kernel))
 rw[show ofFrac (decide ((1:Int)<0) !=decide ((3:Int)<0)) (Int.natAbs 1) (Int.natAbs 3)=O3 by decide+kernel]at k
 exact(Rd.nr k).weak (by decide+kernel)
theorem Bu(C:cI a b c hi lo):(cmp (cm a b c) (cM a b c)==some .eq)=false:=by
 rw[gK (iC C) (eS C)]
 exact eE (by have:=C.lt;lia)
theorem JH(C:cI a b c hi lo):isZero (cM a b c)=false:=ug (eS C) (by have:=C.l0;have:=C.lt;lia)
theorem lQ(C:cI a b c hi lo):Q1.Ex (sub (cM a b c) (cm a b c)) (((hi-lo:Int):Rat)/1024):=fZ (eS C) (iC C) (by have:=C.lt;lia) (by have:=C.h1;have:=C.l0;lia)
theorem xM(C:cI a b c hi lo):Q1.Ex (add (cM a b c) (cm a b c)) (((hi+lo:Int):Rat)/1024):=BS (eS C) (iC C) (by have:=C.h1;have:=C.l0;have:=C.lt;lia) (by have:=C.h1;have:=C.l0;have:=C.lt;lia)
theorem Bv(C:cI a b c hi lo):Q1.Ex (sub (sub (ofInt 2) (cM a b c)) (cm a b c)) (((2048-hi-lo:Int):Rat)/1024):=FP (eS C) (iC C) rW (by have:=C.h1;have:=C.l0;have:=C.lt;lia) (by have:=C.h1;have:=C.l0;have:=C.lt;lia)
theorem sE(C:cI a b c hi lo):Q1.Ex (cL a b c) (((hi+lo:Int):Rat)/2048):=xO (xM C) rW (by have:=C.l0;have:=C.lt;lia) (by have:=C.h1;have:=C.lt;lia)
theorem sG(C:cI a b c hi lo):(cmp (cL a b c) HF==some .lt||cmp (cL a b c) HF==some .eq)=decide (hi+lo<=1024):=by
 have zk:((1024:Int):Rat)=1024:=rfl
 rw[mq (sE C).fn jR.fn,sR (sE C).fn jR.fn,(sE C).eq,jR.eq]
 by_cases h:hi+lo<=1024
 ·rw[eT h]
  have h':=GZ h
  rw[zk]at h'
  by_cases g:((hi+lo:Int):Rat)/2048<1/2
  ·rw[eT g];rfl
  ·rw[eT (x6 h' g),Bool.or_true]
 ·rw[eE h]
  have h':(1024:Rat)<((hi+lo:Int):Rat):=by
   have:=lW (show(1024:Int)<hi+lo by lia)
   rw[zk]at this;exact this
  rw[eE (half_lt h'),eE (x7 h')];rfl
theorem nG(hx:Q1.Ex x ((p:Rat)/1024))(hy:Q1.Ex y ((q:Rat)/1024))(hp:0<=p)(hq:0<q)(h:p<=q):Nr (div x y) ((p:Rat)/(q:Rat)) (1/2^40):=by
 have f:=dW (r0 hp) (GZ h) (rpos hq)
 have e:R x/R y=(p:Rat)/(q:Rat):=sN hx.eq hy.eq (rpos hq)
 have k:=pq hx.fn hy.fn (by rw[hy.eq];have:=rpos hq;grind) (by rw[e];exact bH (by grind) (by grind))
 rw[e]at k
 exact Rd.nr k
theorem Iq(C:cI a b c hi lo):Nr (cS a b c) (((hi-lo:Int):Rat)/(hi:Rat)) (1/2^40):=nG (lQ C) (eS C) (by have:=C.lt;lia) (by have:=C.lt;have:=C.l0;lia) (by have:=C.l0;lia)
theorem M4(C:cI a b c hi lo):Nr (cP a b c) (((hi-lo:Int):Rat)/((if hi+lo<=1024 then hi+lo else 2048-hi-lo:Int):Rat)) (1/2^40):=by
 unfold cP zV
 rw[show(cmp (div (add (cM a b c) (cm a b c)) (ofInt 2)) 0x3fe0000000000000==some .lt||cmp (div (add (cM a b c) (cm a b c)) (ofInt 2)) 0x3fe0000000000000==some .eq)=decide (hi+lo<=1024)from sG C]
 have:=C.lt;have:=C.l0;have:=C.h1
 by_cases h:hi+lo<=1024
 ·rw[eT h,if_pos h]
  exact nG (lQ C) (xM C) (by lia) (by lia) (by lia)
 ·rw[eE h,if_neg h]
  exact nG (lQ C) (Bv C) (by lia) (by lia) (by lia)
theorem Hu(C:cI a b c hi lo):(cmp (cS a b c) (cZ (hi-lo) hi)==some .eq)=true:=oA (lQ C) (eS C) (by have:=C.lt;lia) (by have:=C.lt;have:=C.l0;lia) (by have:=C.l0;lia)
theorem OB(C:cI a b c hi lo):(cmp (cP a b c) (cZ (hi-lo) (min (hi+lo) (2048-hi-lo)))==some .eq)=true:=by
 unfold cP zV
 rw[show(cmp (div (add (cM a b c) (cm a b c)) (ofInt 2)) 0x3fe0000000000000==some .lt||cmp (div (add (cM a b c) (cm a b c)) (ofInt 2)) 0x3fe0000000000000==some .eq)=decide (hi+lo<=1024)from sG C]
 have:=C.lt;have:=C.l0;have:=C.h1
 by_cases h:hi+lo<=1024
 ·rw[eT h,Int.min_eq_left (show hi+lo<=2048-hi-lo by clear C;lia)]
  exact oA (lQ C) (xM C) (by lia) (by lia) (by lia)
 ·rw[eE h,Int.min_eq_right (show 2048-hi-lo<=hi+lo by clear C;lia)]
  exact oA (lQ C) (Bv C) (by lia) (by lia) (by lia)
theorem o9(C:cI a b c hi lo):Nr (cH a b c) ((aR a b c hi lo:Rat)/((6*(hi-lo):Int):Rat)) (1/2^34):=(nS C (jJ C) (jK C) (jL C) (eS C) (iC C)).1
theorem Hv(C:cI a b c hi lo):(cmpInt (mul (cM a b c) (ofInt 1024)) hi==some .eq)=true:=CN (xd (eS C) (by have:=C.lt;have:=C.l0;lia) C.h1)
theorem Ht(C:cI a b c hi lo):(cmpInt (mul (cL a b c) (ofInt 2048)) (hi+lo)==some .eq)=true:=CN (xe (sE C) (by have:=C.lt;have:=C.l0;lia) (by have:=C.lt;have:=C.h1;lia))
theorem Dv(h:Nr x ((p:Rat)/(q:Rat)) (1/2^40))(hp:0<p)(hq:0<q)(h2:q<=2048):(cmp x 0==some .eq)=false:=by
 have z:=lJ false
 have hz:zero false=(0:UInt64):=by decide+kernel
 rw[hz]at z
 rw[sR h.fn z.1,z.2]
 refine eE λe=>?_
 have l:=h.hi
 have l2:=h.lo
 have q1:=rpos hq
 have q2:=GZ h2
 have zk:((2048:Int):Rat)=2048:=rfl
 rw[zk]at q2
 have p1:=GZ (show(1:Int)<=p by lia)
 have zo:((1:Int):Rat)=1:=rfl
 rw[zo]at p1
 have k:(p:Rat)/(q:Rat)*(q:Rat)=(p:Rat):=aZ q1
 have k2:(1:Rat)/2048<=(p:Rat)/(q:Rat):=by
  refine Rat.le_of_mul_le_mul_right (c:=(q:Rat)) ?_ q1
  rw[k];grind
 grind
end
end
section
open PySem.Float64 Q1
section
variable{x y:UInt64}{a b c hi lo k:Int}{Φ:bO}
theorem zK(C:cI a b c hi lo):0<=aR a b c hi lo/\aR a b c hi lo<6*(hi-lo):=vZ C
theorem kU(C:cI a b c hi lo):0<=(aR a b c hi lo:Rat)/((6*(hi-lo):Int):Rat)/\(aR a b c hi lo:Rat)/((6*(hi-lo):Int):Rat)<=1:=by
 have h:=zK C
 have l:=C.lt
 exact dW (r0 h.1) (GZ (by lia)) (rpos (by lia))
theorem NS(h:0<=k/\k<=100):Q1.Ex (ofInt k) (k:Rat):=dO (by lia)
theorem CU(h:0<=k/\k<=100):(0:Rat)<=(k:Rat)/\(k:Rat)<=100:=by
 have a:=GZ h.2
 have zk:((100:Int):Rat)=100:=rfl
 rw[zk]at a
 exact⟨r0 h.1,a⟩
theorem k_in(h:0<=k/\k<=1000):isInf (ofInt k)=false:=ri (CM (by lia)).1
theorem E8(C:cI a b c hi lo)(h:0<=k/\k<=100):Nr (add (cH a b c) (ofInt k)) ((aR a b c hi lo:Rat)/((6*(hi-lo):Int):Rat)+(k:Rat)) (1/2^34+0+1/2^40):=by
 have f:=kU C
 have g:=CU h
 exact(o9 C).add (NS h).nr (by grind) (by grind) (by decide+kernel)
theorem Hp(C:cI a b c hi lo)(h:0<=k/\k<=100):Nr (sub (cH a b c) (ofInt k)) ((aR a b c hi lo:Rat)/((6*(hi-lo):Int):Rat)-(k:Rat)) (1/2^34+0+1/2^40):=by
 have f:=kU C
 have g:=CU h
 exact(o9 C).sub (NS h).nr (by grind) (by grind) (by decide+kernel)
theorem kF{z:UInt64}{i:Int}(h:∃s m e,decode z=.fin s m e/\truncOf s m e=i):truncF z=some i:=by
 obtain⟨s,m,e,h1,h2⟩:=h
 unfold truncF;rw[h1,<-h2]
theorem zT(C:cI a b c hi lo)(h:0<=k/\k<=100):∃o:UInt64×UInt64×UInt64,aG Jh c12 Φ [.ak (add (cH a b c) (ofInt k)),.ak (cS a b c),.ak (cM a b c)]=some (.tup [.ak o.1,.ak o.2.1,.ak o.2.2])/\lK o a b c:=by
 obtain⟨i,j,ht,⟨hj,hm⟩,hi',near⟩:=CE C (E8 C h) (by decide+kernel) h (Iq C) (eS C) rR Dn
 have:=C.lt;have:=C.l0;have:=C.h1
 exact⟨_,Gl (Dv (Iq C) (by lia) (by lia) (by lia)) (kF ht) hj hm (k_in hi') rfl rfl rfl,near⟩
theorem wB{s:Int}{z:UInt64}{w:Rat}(hz:Nr z (w+(s:Rat)/3) (1/2^30))(e:w=(aR a b c hi lo:Rat)/((6*(hi-lo):Int):Rat)-(k:Rat)):Nr z ((aR a b c hi lo:Rat)/((6*(hi-lo):Int):Rat)+(((-k:Int)):Rat)+(s:Rat)/3) (1/2^30):=by
 have:((-k:Int):Rat)=-(k:Rat):=Rat.intCast_neg _
 rw[this,<-Rat.sub_eq_add_neg,<-e];exact hz
theorem zS(C:cI a b c hi lo)(h:0<=k/\k<=100)(hv:∀a b c,Φ.fn 10 [.ak a,.ak b,.ak c]=some (.ak (vF a b c S6 HF uP qf))):∃o:UInt64×UInt64×UInt64,aG D9 c9 Φ [.ak (sub (cH a b c) (ofInt k)),.aH (cL a b c),.ak (cP a b c)]=some (.tup [.ak o.1,.ak o.2.1,.ak o.2.2])/\lK o a b c:=by
 have:=C.lt;have:=C.l0;have:=C.h1
 have hP:=M4 C
 have q:=Kz C.l0 C.h1 C.lt (sE C) hP jR Dn rW
 have n0:=Hp C h
 have f:=kU C
 have g:=CU h
 have hp:(cmp (cP a b c) 0==some .eq)=false:=Dv (q:=if hi+lo<=1024 then hi+lo else 2048-hi-lo) hP (by lia) (by split<;>lia) (by split<;>lia)
 have m2:Nr (Ky (cL a b c) (cP a b c) HF EP) ((hi:Rat)/1024) (1/2^36):=q.1.weak (by decide+kernel)
 have z1:((1:Int):Rat)=1:=rfl
 have z0:((0:Int):Rat)=0:=rfl
 have zm:((-1:Int):Rat)=-1:=rfl
 generalize hw:(aR a b c hi lo:Rat)/((6*(hi-lo):Int):Rat)-(k:Rat)=w at n0
 have bw:-100<=w/\w<=1:=by constructor<;>grind
 have a1:Nr (add (sub (cH a b c) (ofInt k)) O3) (w+((1:Int):Rat)/3) (1/2^30):=by
  rw[z1];exact(n0.add IY (by grind) (by grind) (by decide+kernel)).weak (by decide+kernel)
 have a2:Nr (sub (cH a b c) (ofInt k)) (w+((0:Int):Rat)/3) (1/2^30):=by
  rw[z0,show w+(0:Rat)/3=w by grind];exact n0.weak (by decide+kernel)
 have a3:Nr (sub (sub (cH a b c) (ofInt k)) O3) (w+((-1:Int):Rat)/3) (1/2^30):=by
  rw[zm,show w+(-1:Rat)/3=w-1/3 by grind];exact(n0.sub IY (by grind) (by grind) (by decide+kernel)).weak (by decide+kernel)
 have e6:=Oq
 have eh:Nr HF (1/2) (1/2^36):=jR.nr.weak (by decide+kernel)
 have p1:=nQ (s:=1) C (Or.inl rfl) q.2 m2 (wB a1 hw.symm) e6 eh w6 rR
 have p2:=nQ (s:=0) C (Or.inr (Or.inl rfl)) q.2 m2 (wB a2 hw.symm) e6 eh w6 rR
 have p3:=nQ (s:=-1) C (Or.inr (Or.inr rfl)) q.2 m2 (wB a3 hw.symm) e6 eh w6 rR
 exact⟨(_,_,_),Gg hv hp rfl rfl (Or.inr rfl),p1,p2,p3⟩
theorem wJ{o:UInt64×UInt64×UInt64}(C:cI a b c hi lo)(h:lK o a b c):∃i j k:Int,(truncF (add (mul o.1 (ofInt 2048)) (ofInt 1))=some i/\Int.fdiv i 2=a)/\(truncF (add (mul o.2.1 (ofInt 2048)) (ofInt 1))=some j/\Int.fdiv j 2=b)/\truncF (add (mul o.2.2 (ofInt 2048)) (ofInt 1))=some k/\Int.fdiv k 2=c:=by
 obtain⟨l0,la,lb,lc,ha,hb,hc,h1,lt,top,bot⟩:=C
 obtain⟨i,e1,f1⟩:=lC h.1 (by lia) (by lia)
 obtain⟨j,e2,f2⟩:=lC h.2.1 (by lia) (by lia)
 obtain⟨k,e3,f3⟩:=lC h.2.2 (by lia) (by lia)
 exact⟨i,j,k,⟨kF e1,f1⟩,⟨kF e2,f2⟩,kF e3,f3⟩
end
end
section
open PySem.Float64 Q1
section
variable{r:Nat->Slot}{a b c hi lo:Int}
theorem RI{i:Nat}(h:Nat.ble (i+1) 55=true):i<55:=bE h
theorem gV{i:Nat}{p:PV}(e:r i=.val p)(h:Nat.ble (i+1) 55=true:=by rfl):ee (FW r) i=some p:=sV (bz (RI h)) e
theorem gO{i:Nat}{xs:List PV}(e:r i=.own xs)(h:Nat.ble (i+1) 55=true:=by rfl):eW (FW r) i=some xs:=sO (bz (RI h)) e
theorem sF{i:Nat}{t:Slot}(h:Nat.ble (i+1) 55=true:=by rfl):(FW r).set i t=FW (upd r i t):=fc (RI h)
theorem f8(ps:List PV):F8.fn 8 ps=aG D8 c8 (eO.d9 7) ps:=by kernel_rfl
theorem f9(ps:List PV):F8.fn 9 ps=aG D9 c9 (eO.d9 7) ps:=by kernel_rfl
theorem Tp(ps:List PV):F8.fn 11 ps=aG HU AP (eO.d9 7) ps:=by kernel_rfl
theorem U0(ps:List PV):F8.fn 12 ps=aG Jh c12 (eO.d9 7) ps:=by kernel_rfl
theorem U4(ps:List PV):F8.fn 15 ps=aG Ji L2 (eO.d9 7) ps:=by kernel_rfl
theorem Tq(ps:List PV):F8.fn 16 ps=aG Az JC (eO.d9 7) ps:=by kernel_rfl
theorem UZ(ps:List PV):(eO.d9 7).fn 10 ps=aG LY JA (eO.d9 6) ps:=by kernel_rfl
theorem RH(a b c:UInt64):(eO.d9 7).fn 10 [.ak a,.ak b,.ak c]=some (.ak (vF a b c S6 HF uP qf)):=(UZ _).trans SA
abbrev j6(a b c:Int):PV:=.lst [.int a,.int b,.int c]
theorem PW{p:Nat}{w x y:Int}(h2:r 2=iV p)(qY:r 10=iV w)(h21:r 21=.val (pt (x,y)))(ht:bG x y≠1025):xG.ex F8 (FW r)=some (.next (FW (upd r 22 (.val (j6 (x+aO x y+aW x y (w+77*p)) (y+aO x y+aW x y (w+77*p)) (aO x y+aW x y (w+77*p))))))):=by
 rw[<-sF]
 refine mp (bnd (a:=[pt (x,y),PV.int (w+77*p)]) (gp (gV h21) (bW (x:=.int w) (y:=.int (77*p)) (gV qY) (bW (x:=.int 77) (y:=.int p) rfl (gV h2) rfl) rfl)) ((Tq _).trans (uo ht)))
theorem RV(a b c:Int):aF ltI.gt a [b,c]=min a (min b c):=by
 show(bif decide (c<(bif decide (b<a)then b else a))then c else(bif decide (b<a)then b else a))=_
 rw[J3,J3,Int.min_assoc]
theorem PX(C:cI a b c hi lo)(h22:r 22=.val (j6 a b c)):Ba.ex F8 (FW r)=some (.next (FW (upd (upd r 24 (iV lo)) 23 (iV hi)))):=by
 have e1:aF Ck.gt a [b,c]=hi:=(AL a b c).trans (yo C.ha C.hb C.hc C.top)
 have e2:aF ltI.gt a [b,c]=lo:=(RV a b c).trans (yq C.la C.lb C.lc C.bot)
 rw[<-sF,<-sF]
 refine bnd (a:=.tup [.int hi,.int lo]) (bnd (a:=[PV.int hi,PV.int lo]) (gp ?_ ?_) rfl) (bnd (a:=[PV.int hi,PV.int lo]) rfl rfl)
 ·exact bnd (qU (gV h22)) (congrArg (λz=>some (PV.int z)) e1)
 ·exact bnd (qU (gV h22)) (congrArg (λz=>some (PV.int z)) e2)
theorem EN(r:Nat->Slot)(a b c:PV):iL [⟨25,"red",(qz 314 8 11)⟩,⟨26,"green",(qz 314 13 18)⟩,⟨27,"blue",(qz 314 20 24)⟩] [a,b,c] (FW r)=some (FW (upd (upd (upd r 25 (.val a)) 26 (.val b)) 27 (.val c))):=by kernel_rfl
theorem Og{a:Int}(h0:0<=a)(h1:a<=1024):pn.f (.int a) (.int 1024)=some (.ak (cR a)):=by
 refine av ?_
 show(nz 1024&&!isInf (cZ a 1024))=true
 rw[ri (fN h0 h1).fn];rfl
theorem qO(C:cI a b c hi lo):∀x∈[a,b,c],0<=x/\x<=1024:=by
 obtain⟨l0,la,lb,lc,ha,hb,hc,h1,lt,top,bot⟩:=C
 intro x m
 rcases eX m with rfl|m
 ·lia
 rcases eX m with rfl|m
 ·lia
 rw[fG m];lia
theorem NR(C:cI a b c hi lo)(h22:r 22=.val (j6 a b c)):Ie.ev F8 (FW r)=some [.ak (cR a),.ak (cR b),.ak (cR c)]:=by
 refine lR (xs:=[PV.int a,PV.int b,PV.int c]) (bnd (gV h22) rfl) ?_ (bE rfl)
 refine comp_map (f:=PV.int) (g:=λx=>.ak (cR x)) (ys:=[a,b,c]) λx m=>⟨.val (.int x)::FW r,rfl,rfl,?_⟩
 exact bW (x:=.int x) (y:=.int 1024) rfl rfl (Og (qO C x m).1 (qO C x m).2)
theorem PY(C:cI a b c hi lo)(h22:r 22=.val (j6 a b c)):Bb.ex F8 (FW r)=some (.next (FW (upd (upd (upd r 25 (fV (cR a))) 26 (fV (cR b))) 27 (fV (cR c))))):=
 bnd (a:=.lst [.ak (cR a),.ak (cR b),.ak (cR c)]) (gM (NR C h22)) (bnd (a:=[PV.ak (cR a),PV.ak (cR b),PV.ak (cR c)]) rfl (mp (EN r _ _ _)))
theorem LS(r:Nat->Slot)(a b c:PV):iL [⟨28,"hue",(qz 315 8 11)⟩,⟨29,"share",(qz 315 13 18)⟩,⟨30,"value",(qz 315 20 25)⟩] [a,b,c] (FW r)=some (FW (upd (upd (upd r 28 (.val a)) 29 (.val b)) 30 (.val c))):=by kernel_rfl
theorem Gj(C:cI a b c hi lo):F8.fn 11 [.ak (cR a),.ak (cR b),.ak (cR c)]=some (.tup [.ak (cH a b c),.ak (cS a b c),.ak (cM a b c)]):=
 (Tp _).trans (Kc rfl rfl (Bu C) (JH C) (ug (lQ C) (by have:=C.lt;lia)))
theorem x8(C:cI a b c hi lo):F8.fn 8 [.ak (cR a),.ak (cR b),.ak (cR c)]=some (.tup [.ak (cH a b c),.aH (cL a b c),.ak (cP a b c)]):=
 (f8 _).trans (J9 rfl rfl (Bu C) (ug (xM C) (by have:=C.lt;have:=C.l0;lia)) (Or.inl (ug (Bv C) (by have:=C.lt;have:=C.h1;lia))) (ug (lQ C) (by have:=C.lt;lia)))
theorem PZ(C:cI a b c hi lo)(Iz:r 25=fV (cR a))(IA:r 26=fV (cR b))(IB:r 27=fV (cR c)):Bc.ex F8 (FW r)=some (.next (FW (upd (upd (upd r 28 (fV (cH a b c))) 29 (fV (cS a b c))) 30 (fV (cM a b c))))):=
 bnd (bnd (jt (gV Iz) (gV IA) (gV IB)) (Gj C)) (bnd (a:=[PV.ak (cH a b c),PV.ak (cS a b c),PV.ak (cM a b c)]) rfl (mp (LS r _ _ _)))
theorem LU(r:Nat->Slot)(a b c:PV):iL [⟨31,"again",(qz 316 8 13)⟩,⟨32,"light",(qz 316 15 20)⟩,⟨33,"purity",(qz 316 22 28)⟩] [a,b,c] (FW r)=some (FW (upd (upd (upd r 31 (.val a)) 32 (.val b)) 33 (.val c))):=by kernel_rfl
theorem P0(C:cI a b c hi lo)(Iz:r 25=fV (cR a))(IA:r 26=fV (cR b))(IB:r 27=fV (cR c)):Bd.ex F8 (FW r)=some (.next (FW (upd (upd (upd r 31 (fV (cH a b c))) 32 (.val (.aH (cL a b c)))) 33 (fV (cP a b c))))):=
 bnd (bnd (jt (gV Iz) (gV IA) (gV IB)) (x8 C)) (bnd (a:=[PV.ak (cH a b c),PV.aH (cL a b c),PV.ak (cP a b c)]) rfl (mp (LU r _ _ _)))
theorem LD(jz:r 19=.own []):kK.ex F8 (FW r)=some (.next (FW r)):=
 oX (bnd (a:=false) (cE (x:=.lst []) (y:=.lst []) (mp (gO jz)) rfl rfl) rfl)
theorem KN(xs:List PV)(y:PV):ry.f (.lst (xs++[y])) (.lst [])=some true:=by
 cases xs<;>rfl
theorem HN{xs:List PV}{h h':UInt64}{k:Int}{q:Bool}(jz:r 19=.own (xs++[.ak h']))(hx:xs.length<=900)(Au:r 28=fV h)(iE:r 20=iV k)(hq:(cmp h h'==some .lt)=q):kK.ex F8 (FW r)=some (.next (FW (upd r 20 (iV (k+(bif q then 1 else 0)))))):=by
 have e0:(ow (sc:=bk.sc nm) 19 ("hues":Str) (qz 317 32 36)).ev F8 (FW r)=some (xs++[PV.ak h']):=gO jz
 have e2:=yl (Φ:=F8) (p1:=(qz 317 38 39)) (p2:=(qz 317 37 39)) (p3:=(qz 317 32 40)) (k:=0) e0 (by lia)
 refine oY (k:=q) (bnd (a:=true) (cE (x:=PV.lst (xs++[PV.ak h'])) (y:=.lst []) (mp (a:=xs++[PV.ak h']) (gO jz)) rfl (KN xs _)) (bnd (a:=q) (cE (x:=.ak h) (y:=.ak h') (gV Au) e2 (congrArg some hq)) (by cases q<;>rfl))) ?_
 cases q with
 |false=>
  rw[cu (r:=r) (i:=20) (iE.trans (by rw[show k+(bif false then 1 else 0)=k+0 from rfl,Int.add_zero]))];rfl
 |true=>
  refine bJ ?_
  rw[<-sF]
  exact bnd (gV iE) (bnd (a:=PV.int 1) rfl (mp (a:=PV.int (k+1)) rfl))
theorem LF{xs:List PV}{h:UInt64}(jz:r 19=.own xs)(hx:xs.length<=900)(Au:r 28=fV h):vn.ex F8 (FW r)=some (.next (FW (upd r 19 (.own (xs++[.ak h]))))):=
 bnd (gO jz) (bnd (a:=PV.ak h) (gV Au) ((av (aV (by lia))).trans (by rw[sF])))
theorem N6{k:Option Ordering}(h:(k==some .eq)=true):(k !=some .eq)=false:=by
 show(!(k==some .eq))=false
 rw[h];rfl
theorem LG(C:cI a b c hi lo)(h23:r 23=iV hi)(L5:r 24=iV lo)(Au:r 28=fV (cH a b c))(h30:r 30=fV (cM a b c))(Vh:r 31=fV (cH a b c))(Nt:r 32=.val (.aH (cL a b c))):vo.ex F8 (FW r)=some (.next (FW r)):=by
 have i1:Kd 1024=true:=by decide+kernel
 have i2:Kd 2048=true:=by decide+kernel
 refine oX (bnd (a:=false) (cE (x:=.ak (cH a b c)) (y:=.ak (cH a b c)) (gV Vh) (gV Au) (congrArg some (N6 (jI (o9 C).fn)))) (bnd (a:=false) ?_ (bnd (a:=false) ?_ rfl)))
 ·exact cE (x:=.ak (mul (cM a b c) (ofInt 1024))) (y:=.int hi) (bnd (a:=PV.ak (cM a b c)) (gV h30) (bnd (a:=PV.int 1024) rfl (av i1))) (gV h23) (congrArg some (N6 (Hv C)))
 ·exact cE (x:=.ak (mul (cL a b c) (ofInt 2048))) (y:=.int (hi+lo)) (bnd (a:=PV.aH (cL a b c)) (gV Nt) (bnd (a:=PV.int 2048) rfl (av i2))) (bnd (a:=PV.int hi) (gV h23) (bnd (a:=PV.int lo) (gV L5) rfl)) (congrArg some (N6 (Ht C)))
theorem M7{p q:Int}(hp:0<=p)(hq:0<q)(h:p<=q):pn.f (.int p) (.int q)=some (.ak (cZ p q)):=by
 refine av ?_
 show(nz q&&!isInf (cZ p q))=true
 rw[show isInf (cZ p q)=false from ri (xU hp hq h),N9 (by lia)];rfl
theorem VR(a b:Int):min2.f [.int a,.int b]=some (.int (min a b)):=by
 show some (PV.int (bif decide (b<a)then b else a))=_
 rw[J3]
theorem LH(C:cI a b c hi lo)(h23:r 23=iV hi)(L5:r 24=iV lo)(Nq:r 29=fV (cS a b c))(Nu:r 33=fV (cP a b c)):vp.ex F8 (FW r)=some (.next (FW r)):=by
 have:=C.l0;have:=C.lt;have:=C.h1
 refine oX (bnd (a:=false) ?_ ?_)
 ·exact cE (x:=.ak (cS a b c)) (y:=.ak (cZ (hi-lo) hi)) (gV Nq) (bnd (a:=PV.int (hi-lo)) (bnd (a:=PV.int hi) (gV h23) (bnd (a:=PV.int lo) (gV L5) rfl)) (bnd (a:=PV.int hi) (gV h23) (M7 (by lia) (by lia) (by lia)))) (congrArg some (N6 (Hu C)))
 ·refine cE (x:=.ak (cP a b c)) (y:=.ak (cZ (hi-lo) (min (hi+lo) (2048-hi-lo)))) (gV Nu) (bnd (a:=PV.int (hi-lo)) (bnd (a:=PV.int hi) (gV h23) (bnd (a:=PV.int lo) (gV L5) rfl)) (bnd (a:=PV.int (min (hi+lo) (2048-hi-lo))) ?_ (M7 (by lia) (by lia) (by lia)))) (congrArg some (N6 (OB C)))
  exact bnd (a:=[PV.int (hi+lo),PV.int (2048-hi-lo)]) (gp (bnd (a:=PV.int hi) (gV h23) (bnd (a:=PV.int lo) (gV L5) rfl)) (bnd (a:=PV.int (2048-hi)) (bnd (a:=PV.int hi) (gV h23) rfl) (bnd (a:=PV.int lo) (gV L5) rfl))) (VR _ _)
end
end
section
open PySem.Float64 Q1
section
variable{r:Nat->Slot}{a b c hi lo k:Int}
noncomputable abbrev L7 (o:UInt64×UInt64×UInt64):PV:=.tup [.ak o.1,.ak o.2.1,.ak o.2.2]
theorem IQ(h:0<=k/\k<=100):Kd k=true:=by
 unfold Kd;rw[k_in (by omega)];rfl
theorem LJ(C:cI a b c hi lo)(hk:0<=k/\k<=100)(Au:r 28=fV (cH a b c))(iE:r 20=iV k)(Nq:r 29=fV (cS a b c))(h30:r 30=fV (cM a b c)):∃o,lK o a b c/\qI.ex F8 (FW r)=some (.next (FW (upd r 34 (.val (L7 o))))):=by
 obtain⟨o,e,n⟩:=zT (Φ:=eO.d9 7) C hk
 refine⟨o,n,?_⟩
 rw[<-sF]
 exact mp (bnd (a:=[PV.ak (add (cH a b c) (ofInt k)),PV.ak (cS a b c),PV.ak (cM a b c)]) (jt (bnd (a:=PV.ak (cH a b c)) (gV Au) (bnd (a:=PV.int k) (gV iE) (av (IQ hk)))) (gV Nq) (gV h30)) ((U0 _).trans e))
theorem LK{p:Nat}(h2:r 2=iV p)(hp:p % 2=0):m9.ex F8 (FW r)=some (.next (FW r)):=by
 refine oX (cE (x:=.int ((p % 2:Nat):Int)) (y:=.int 1) (wz (d:=p) (n:=2) (p:=(qz 325 11 20)) (gV h2) rfl (bE rfl)) rfl ?_)
 rw[hp];rfl
theorem HO{p:Nat}(C:cI a b c hi lo)(hk:0<=k/\k<=100)(h2:r 2=iV p)(hp:p % 2=1)(Au:r 28=fV (cH a b c))(iE:r 20=iV k)(Nt:r 32=.val (.aH (cL a b c)))(Nu:r 33=fV (cP a b c)):∃o,lK o a b c/\m9.ex F8 (FW r)=some (.next (FW (upd r 34 (.val (L7 o))))):=by
 obtain⟨o,e,n⟩:=zS (Φ:=eO.d9 7) C hk RH
 refine⟨o,n,?_⟩
 refine uQ (cE (x:=.int ((p % 2:Nat):Int)) (y:=.int 1) (wz (d:=p) (n:=2) (p:=(qz 325 11 20)) (gV h2) rfl (bE rfl)) rfl (by rw[hp];rfl)) (bJ ?_)
 rw[<-sF]
 exact mp (bnd (a:=[PV.ak (sub (cH a b c) (ofInt k)),PV.aH (cL a b c),PV.ak (cP a b c)]) (jt (bnd (a:=PV.ak (cH a b c)) (gV Au) (bnd (a:=PV.int k) (gV iE) (av (IQ hk)))) (gV Nt) (gV Nu)) ((f9 _).trans e))
theorem Kq(σ:List Slot)(x:UInt64):xB.elt.ev F8 (.val (.ak x)::σ)=((truncF (add (mul x (ofInt 2048)) (ofInt 1))).map PV.int).bind λq=>ju.f q (.int 2):=by kernel_rfl
theorem wg{σ:List Slot}{x:UInt64}{i a:Int}(h1:truncF (add (mul x (ofInt 2048)) (ofInt 1))=some i)(h2:Int.fdiv i 2=a):xB.elt.ev F8 (.val (.ak x)::σ)=some (.int a):=by
 rw[Kq,h1,<-h2];rfl
theorem EM{o:UInt64×UInt64×UInt64}(C:cI a b c hi lo)(n:lK o a b c)(h22:r 22=.val (j6 a b c))(Vi:r 34=.val (L7 o)):qJ.ex F8 (FW r)=some (.next (FW r)):=by
 obtain⟨i,j,l,⟨e1,f1⟩,⟨e2,f2⟩,e3,f3⟩:=wJ C n
 have ek:xB.ev F8 (FW r)=some [.int a,.int b,.int c]:=by
  refine lR (xs:=[PV.ak o.1,PV.ak o.2.1,PV.ak o.2.2]) (bnd (gV Vi) rfl) ?_ (bE rfl)
  refine comp_map (α:=UInt64×Int) (f:=λy=>.ak y.1) (g:=λy=>.int y.2) (ys:=[(o.1,a),(o.2.1,b),(o.2.2,c)]) λy m=>⟨.val (.ak y.1)::FW r,rfl,rfl,?_⟩
  rcases eX m with rfl|m
  ·exact wg e1 f1
  rcases eX m with rfl|m
  ·exact wg e2 f2
  rw[fG m]
  exact wg e3 f3
 refine oX (cE (x:=j6 a b c) (y:=j6 a b c) (gM ek) (gV h22) ?_)
 show some (!(and (a==a) (and (b==b) (and (c==c) true))))=some false
 rw[beq_self_eq_true,beq_self_eq_true,beq_self_eq_true];rfl
theorem Dq{p:Nat}(C:cI a b c hi lo)(hk:0<=k/\k<=100)(h2:r 2=iV p)(iE:r 20=iV k)(h22:r 22=.val (j6 a b c))(Au:r 28=fV (cH a b c))(Nq:r 29=fV (cS a b c))(h30:r 30=fV (cM a b c))(Nt:r 32=.val (.aH (cL a b c)))(Nu:r 33=fV (cP a b c)):
  ∃t,(SL.cons qI (.cons m9 (.cons qJ .nil))).ex F8 (FW r)=some (.next (FW (upd r 34 t))):=by
 obtain⟨o,n,e⟩:=LJ C hk Au iE Nq h30
 have hp:=Nat.mod_two_eq_zero_or_one p
 rcases hp with hp|hp
 ·exact⟨_,ao e (ao (LK (r:=upd r 34 (.val (L7 o))) h2 hp) (bJ (EM C n h22 rfl)))⟩
 ·obtain⟨o',n',e'⟩:=HO (r:=upd r 34 (.val (L7 o))) C hk h2 hp Au iE Nt Nu
  rw[p8]at e'
  exact⟨_,ao e (ao e' (bJ (EM (r:=upd r 34 (.val (L7 o'))) C n' h22 rfl)))⟩
def cA(s:V2)(W:Int):Int:=s.1+aO s.1 s.2+aW s.1 s.2 W
def cB(s:V2)(W:Int):Int:=s.2+aO s.1 s.2+aW s.1 s.2 W
def cC(s:V2)(W:Int):Int:=aO s.1 s.2+aW s.1 s.2 W
theorem cU{s:V2}(W:Int)(h:¬(s.1=0/\s.2=0))(ht:bG s.1 s.2<=838):cI (cA s W) (cB s W) (cC s W) (bG s.1 s.2+aW s.1 s.2 W) (aW s.1 s.2 W):=by
 have w:=EE (w:=W) (OI ..) (Int.le_trans ht (by decide))
 exact JG h w.1 w.2
def aP(s:V2)(W:Int):UInt64:=cH (cA s W) (cB s W) (cC s W)
end
end
section
open PySem.Float64 Q1
section
variable{r:Nat->Slot}{a b c hi lo k:Int}
theorem NC{p:Nat}{w:Int}{s:V2}{xs:List PV}(hs:¬(s.1=0/\s.2=0))(ht:bG s.1 s.2<=838)(h2:r 2=iV p)(qY:r 10=iV w)(h21:r 21=.val (pt s))
  (ea:cA s (w+77*p)=a) (eb:cB s (w+77*p)=b) (ec:cC s (w+77*p)=c) (C:cI a b c hi lo):∃r',(∀(rest:SL (bk.sc nm)) (o:Option Out),rest.ex F8 (FW r')=o->(SL.cons xG (.cons Ba (.cons Bb rest))).ex F8 (FW r)=o)/\(∀j,j<22->r' j=r j)/\r' 22=.val (j6 a b c)/\r' 23=iV hi/\r' 24=iV lo/\r' 25=fV (cR a)/\r' 26=fV (cR b)/\r' 27=fV (cR c):=by
 have e5:xG.ex F8 (FW r)=some (.next (FW (upd r 22 (.val (j6 (cA s (w+77*p)) (cB s (w+77*p)) (cC s (w+77*p))))))):=PW (x:=s.1) (y:=s.2) h2 qY h21 (by lia)
 rw[ea,eb,ec]at e5
 have e6:=PX (r:=upd r 22 (.val (j6 a b c))) C rfl
 have e7:=PY (r:=upd (upd (upd r 22 (.val (j6 a b c))) 24 (iV lo)) 23 (iV hi)) C rfl
 exact⟨_,λrest o h=>ao e5 (ao e6 (ao e7 h)),λj l=>by rw[aM (bU (by lia)),aM (bU (by lia)),aM (bU (by lia)),aM (bU (by lia)),aM (bU (by lia)),aM (bU (by lia))],rfl,rfl,rfl,rfl,rfl,rfl⟩
theorem RX(C:cI a b c hi lo)(Iz:r 25=fV (cR a))(IA:r 26=fV (cR b))(IB:r 27=fV (cR c)):∃r',(∀(rest:SL (bk.sc nm)) (o:Option Out),rest.ex F8 (FW r')=o->(SL.cons Bc (.cons Bd rest)).ex F8 (FW r)=o)/\(∀j,j<25->r' j=r j)/\r' 28=fV (cH a b c)/\r' 29=fV (cS a b c)/\r' 30=fV (cM a b c)/\r' 31=fV (cH a b c)/\r' 32=.val (.aH (cL a b c))/\r' 33=fV (cP a b c):=by
 have e8:=PZ (r:=r) C Iz IA IB
 have e9:=P0 (r:=upd (upd (upd r 28 (fV (cH a b c))) 29 (fV (cS a b c))) 30 (fV (cM a b c))) C Iz IA IB
 exact⟨_,λrest o h=>ao e8 (ao e9 h),λj l=>by rw[aM (bU (by lia)),aM (bU (by lia)),aM (bU (by lia)),aM (bU (by lia)),aM (bU (by lia)),aM (bU (by lia))],rfl,rfl,rfl,rfl,rfl,rfl⟩
theorem OC{p:Nat}{k':Int}{xs:List PV}(C:cI a b c hi lo)(hk:0<=k'/\k'<=100)(hx:xs.length<=900)(g2:r 2=iV p)(P9:r 19=.own xs)(U7:r 22=.val (j6 a b c))(Tv:r 23=iV hi)(Tw:r 24=iV lo)(Q9:r 28=fV (cH a b c))(Tz:r 29=fV (cS a b c))(TA:r 30=fV (cM a b c))(U8:r 31=fV (cH a b c))(TF:r 32=.val (.aH (cL a b c)))(TG:r 33=fV (cP a b c))
  (UJ:kK.ex F8 (FW r)=some (.next (FW (upd r 20 (iV k'))))):∃r',(SL.cons kK (.cons vn (.cons vo (.cons vp (.cons qI (.cons m9 (.cons qJ .nil))))))).ex F8 (FW r)=some (.next (FW r'))/\(∀j,j<19->r' j=r j)/\r' 19=.own (xs++[.ak (cH a b c)])/\r' 20=iV k':=by
 have UK:=LF (r:=upd r 20 (iV k')) (h:=cH a b c) P9 hx Q9
 have pA:=LG (r:=upd (upd r 20 (iV k')) 19 (.own (xs++[.ak (cH a b c)]))) C Tv Tw Q9 TA U8 TF
 have Q4:=LH (r:=upd (upd r 20 (iV k')) 19 (.own (xs++[.ak (cH a b c)]))) C Tv Tw Tz TG
 obtain⟨t,Q5⟩:=Dq (r:=upd (upd r 20 (iV k')) 19 (.own (xs++[.ak (cH a b c)]))) (p:=p) C hk g2 rfl U7 Q9 Tz TA TF TG
 exact⟨_,ao UJ (ao UK (ao pA (ao Q4 Q5))),λj l=>by rw[aM (bU (by lia)),aM (bU (by lia)),aM (bU (by lia))],rfl,rfl⟩
inductive S4(p:Nat)(w k':Int)(s:V2)(xs:List PV)(r:Nat->Slot):Prop
 |mk (r':Nat->Slot) (h0:AR.ex F8 (FW r)=some (.next (FW r'))) (h1:(∀j,j<19->r' j=r j)) (h2:r' 19=.own (xs++[.ak (aP s (w+77*p))])) (h3:r' 20=iV k'):S4 p w k' s xs r
theorem su{p:Nat}{w k':Int}{s:V2}{xs:List PV}(hs:¬(s.1=0/\s.2=0))(ht:bG s.1 s.2<=838)(hk:0<=k'/\k'<=100)(h2:r 2=iV p)(qY:r 10=iV w)(jz:r 19=.own xs)(hx:xs.length<=900)(iE:r 20=iV k)(h21:r 21=.val (pt s))
  (H:∀r:Nat->Slot,r 19=.own xs->r 28=fV (aP s (w+77*p))->r 20=iV k->kK.ex F8 (FW r)=some (.next (FW (upd r 20 (iV k'))))):
  S4 p w k' s xs r:=by
 have C:=cU (w+77*p) hs ht
 obtain⟨r7,e7,k7,Ul,Um,Un,Uo,Up,Uq⟩:=NC hs ht h2 qY h21 rfl rfl rfl C (xs:=xs)
 obtain⟨r9,e9,k9,Te,Uv,Uw,Ux,Uy,Uz⟩:=RX C Uo Up Uq
 have z2:=(k9 2 (bE rfl)).trans ((k7 2 (bE rfl)).trans h2)
 have Ug:=(k9 19 (bE rfl)).trans ((k7 19 (bE rfl)).trans jz)
 have Wj:=(k9 20 (bE rfl)).trans ((k7 20 (bE rfl)).trans iE)
 have S3:=(k9 22 (bE rfl)).trans Ul
 have Wl:=(k9 23 (bE rfl)).trans Um
 have Wm:=(k9 24 (bE rfl)).trans Un
 obtain⟨r',e',kj,UE,P6⟩:=OC (r:=r9) C hk hx z2 Ug S3 Wl Wm Te Uv Uw Ux Uy Uz (H r9 Ug Te Wj)
 exact⟨r',e7 _ _ (e9 _ _ e'),λj l=>(kj j l).trans ((k9 j (by lia)).trans (k7 j (by lia))),UE,P6⟩
end
end
section
open PySem.Float64 Q1
section
variable{r:Nat->Slot}{k w:Int}
abbrev ID:=(Ac (sc:=bk.sc nm) [⟨2,"place",(qz 311 8 13)⟩,⟨21,"spot",(qz 311 15 19)⟩] 0 (qz 311 8 19)).bind
theorem Cr(r:Nat->Slot)(i n:PV):ID (.tup [i,n]) (FW r)=some (FW (upd (upd r 2 (.val i)) 21 (.val n))):=by kernel_rfl
noncomputable def jT(w:Int):Nat->List V2->List UInt64
 |_,[]=>[]
 |p,s::l=>aP s (w+77*p)::jT w (p+1) l
def Good(s:V2):Prop:=¬(s.1=0/\s.2=0)/\bG s.1 s.2<=838
abbrev fl(hs:List UInt64):List PV:=hs.map PV.ak
theorem JF{s' s:V2}{W' W:Int}(g':Good s')(g:Good s)(h:0<bS s' s):(bif cmp (aP s W) (aP s' W')==some .lt then(1:Int)else 0)=sW s' s:=by
 have C':=cU W' g'.1 g'.2
 have C:=cU W g.1 g.2
 have d:∀(s:V2) (W:Int),(cA s W-cC s W,cB s W-cC s W)=s:=λs W=>sH s.1 s.2 (aW s.1 s.2 W)
 have k:=pC C' C (jJ C') (jK C') (jL C') (eS C') (iC C') (jJ C) (jK C) (jL C) (eS C) (iC C) (by rw[d,d];exact h)
 rw[d,d]at k
 rw[<-k]
 show(bif cmp (aP s W) (aP s' W')==some .lt then(1:Int)else 0)=oU (R (aP s' W')) (R (aP s W))
 have f:Fn (aP s W):=(o9 C).fn
 have f':Fn (aP s' W'):=(o9 C').fn
 rw[mq f f']
 unfold oU
 by_cases q:R (aP s W)<R (aP s' W')
 ·rw[eT q,if_pos q];rfl
 ·rw[eE q,if_neg q];rfl
theorem Ni(c d:V2):sW c d=0\/sW c d=1:=by
 unfold sW;split
 ·exact Or.inr rfl
 ·exact Or.inl rfl
theorem vU(a b:List UInt64):fl (a++b)=fl a++fl b:=List.map_append
inductive Ml(w:Int)(l:List V2)(p:Nat)(k:Int)(xs:List UInt64)(s':V2)(W':Int)(r:Nat->Slot):Prop
 |mk (r':Nat->Slot) (h0:loopGo ID (AR.ex F8) (bP p (l.map pt)) (FW r)=some (.next (FW r'))) (h1:(∀j,j<19->j≠2->r' j=r j)) (h2:r' 19=.own (fl (xs++[aP s' W']++jT w p l))) (h3:r' 20=iV (k+fM s' l)):Ml w l p k xs s' W' r
theorem CG:∀(l:List V2) (p:Nat) (k:Int) (xs:List UInt64) (s':V2) (W':Int) (r:Nat->Slot),Good s'->(∀s∈l,Good s)->turns s' l->r 10=iV w->r 19=.own (fl (xs++[aP s' W']))->xs.length+l.length<=800->r 20=iV k->0<=k->k+l.length<=100->
  Ml w l p k xs s' W' r:=by
 intro w
 induction w with
 |nil=>intro p k xs s' W' r _ _ _ _ jz _ iE _ _;exact⟨r,rfl,λ_ _ _=>rfl,by rw[jz];unfold jT;rw[List.append_nil],by rw[iE];unfold fM;rw[Int.add_zero]⟩
 |cons s l ih=>
  intro p k xs s' W' r g' gl ht qY jz hx iE k0 k1
  have g:=gl s eF
  rw[List.length_cons]at hx k1
  have f:=Ni s' s
  have hf:=JF (W':=W') (W:=w+77*p) g' g ht.1
  obtain⟨r1,e1,j1,Jp,y9⟩:=su (r:=upd (upd r 2 (iV p)) 21 (.val (pt s))) (k:=k) (k':=k+sW s' s) (xs:=fl xs++[.ak (aP s' W')]) (p:=p) (w:=w) g.1 g.2 (by lia) rfl qY (jz.trans (congrArg Slot.own (vU _ _))) (by rw[ay,List.length_map,List.length_singleton];lia) iE rfl
   λr R9 T7 Sa=>by
    rw[<-hf]
    exact HN R9 (by rw[List.length_map];lia) T7 Sa rfl
  obtain⟨r2,e2,j2,QE,L1⟩:=ih (p+1) (k+sW s' s) (xs++[aP s' W']) s (w+77*p) r1 g (λs m=>gl s (f5 _ m)) ht.2 ((j1 10 (bE rfl)).trans qY) (Jp.trans (by rw[vU,vU];rfl)) (by rw[ay,List.length_singleton];lia) y9 (by lia) (by lia)
  refine⟨r2,jY (Cr _ _ _) e1 e2,λj h1 h2=>(j2 j h1 h2).trans ((j1 j h1).trans ?_),QE.trans ?_,L1.trans ?_⟩
  ·rw[aM (bU (by lia)),aM (bU h2)]
  ·rw[List.append_assoc (xs++[aP s' W'])];rfl
  ·rw[show fM s' (s::l)=sW s' s+fM s l from rfl,Int.add_assoc]
theorem O8{s:V2}{l:List V2}(g:Good s)(gl:∀s∈l,Good s)(ht:turns s l)(hl:l.length<=50)(qY:r 10=iV w)(xY:r 18=.val (.lst ((s::l).map pt)))(jz:r 19=.own [])(iE:r 20=iV 0):
  ∃r',qi.ex F8 (FW r)=some (.next (FW r'))/\(∀j,j<19->j≠2->r' j=r j)/\r' 19=.own (fl (aP s w::jT w 1 l))/\r' 20=iV (fM s l):=by
 obtain⟨r1,e1,j1,Jp,y9⟩:=su (r:=upd (upd r 2 (iV ((0:Nat):Int))) 21 (.val (pt s))) (k:=0) (k':=0) (xs:=[]) (p:=0) (w:=w) g.1 g.2 (by lia) rfl qY jz (Nat.zero_le _) iE rfl
  λr R9 T7 Sa=>by
   rw[cu Sa];exact LD R9
 have ew:w+77*((0:Nat):Int)=w:=by show w+77*(0:Int)=w;lia
 rw[ew]at Jp
 obtain⟨r2,e2,j2,QE,L1⟩:=CG l 1 0 [] s w r1 g gl ht ((j1 10 (bE rfl)).trans qY) Jp (by rw[List.length_nil];lia) y9 (by lia) (by lia)
 refine⟨r2,bnd (a:=bP 0 ((s::l).map pt)) (bnd (gV xY) rfl) (jY (Cr _ _ _) e1 e2),λj h1 h2=>(j2 j h1 h2).trans ((j1 j h1).trans ?_),QE,L1.trans (by rw[Int.zero_add])⟩
 rw[aM (bU (by lia)),aM (bU h2)]
end
end
section
open PySem.Float64 Q1
section
variable{Φ:bO}{g h:UInt64}{r:Nat->Slot}
theorem tW(g:UInt64):C0.f [.aH g,.aH g,.aH g]=some (.aH g):=by
 show some (PV.aH (bif ET.gt g (bif ET.gt g g then g else g)then g else(bif ET.gt g g then g else g)))=_
 cases ET.gt g g
 ·show some (PV.aH (bif ET.gt g g then g else g))=_
  cases ET.gt g g<;>rfl
 ·show some (PV.aH (bif ET.gt g g then g else g))=_
  cases ET.gt g g<;>rfl
theorem tX(g:UInt64):C5.f [.aH g,.aH g,.aH g]=some (.aH g):=by
 show some (PV.aH (bif EX.gt g (bif EX.gt g g then g else g)then g else(bif EX.gt g g then g else g)))=_
 cases EX.gt g g
 ·show some (PV.aH (bif EX.gt g g then g else g))=_
  cases EX.gt g g<;>rfl
 ·show some (PV.aH (bif EX.gt g g then g else g))=_
  cases EX.gt g g<;>rfl
abbrev gS(g:UInt64):Slot:=.val (.aH g)
theorem Ce(h:(cmp g g==some .eq)=true):aG HU AP Φ [.aH g,.aH g,.aH g]=some (.tup [.ak 0,.ak 0,.aH g]):=by
 have e:AP.ex Φ [gS g,gS g,gS g,.unset,.unset,.unset,.unset,.unset,.unset,.unset,.unset,.unset]=some (.ret (.tup [.ak 0,.ak 0,.aH g])):=by
  unfold AP
  refine ao (σ':=[gS g,gS g,gS g,gS g,.unset,.unset,.unset,.unset,.unset,.unset,.unset,.unset]) (cD (bnd (a:=[PV.aH g,PV.aH g,PV.aH g]) rfl (tW g))) ?_
  refine ao (σ':=[gS g,gS g,gS g,gS g,gS g,.unset,.unset,.unset,.unset,.unset,.unset,.unset]) (cD (bnd (a:=[PV.aH g,PV.aH g,PV.aH g]) rfl (tX g))) ?_
  refine ao (σ':=[gS g,gS g,gS g,gS g,gS g,fV (sub g g),.unset,.unset,.unset,.unset,.unset,.unset]) (by kernel_rfl) ?_
  refine ao (σ':=[gS g,gS g,gS g,gS g,gS g,fV (sub g g),gS g,.unset,.unset,.unset,.unset,.unset]) (by kernel_rfl) ?_
  exact cW (uQ (cE (x:=.aH g) (y:=.aH g) rfl rfl (congrArg some h)) (by kernel_rfl))
 show(AP.ex Φ _).bind _=_
 rw[show HU.slots [.aH g,.aH g,.aH g]=[gS g,gS g,gS g,.unset,.unset,.unset,.unset,.unset,.unset,.unset,.unset,.unset]from rfl,e];rfl
theorem Cd(h:(cmp g g==some .eq)=true):aG D8 c8 Φ [.aH g,.aH g,.aH g]=some (.tup [.ak 0,.aH (div (add g g) (ofInt 2)),.ak 0]):=by
 have e:c8.ex Φ [gS g,gS g,gS g,.unset,.unset,.unset,.unset,.unset,.unset,.unset,.unset,.unset,.unset]=some (.ret (.tup [.ak 0,.aH (div (add g g) (ofInt 2)),.ak 0])):=by
  rw[of2]
  unfold c8
  refine ao (σ':=[gS g,gS g,gS g,gS g,.unset,.unset,.unset,.unset,.unset,.unset,.unset,.unset,.unset]) (cD (bnd (a:=[PV.aH g,PV.aH g,PV.aH g]) rfl (tW g))) ?_
  refine ao (σ':=[gS g,gS g,gS g,gS g,gS g,.unset,.unset,.unset,.unset,.unset,.unset,.unset,.unset]) (cD (bnd (a:=[PV.aH g,PV.aH g,PV.aH g]) rfl (tX g))) ?_
  refine ao (σ':=[gS g,gS g,gS g,gS g,gS g,fV (add g g),.unset,.unset,.unset,.unset,.unset,.unset,.unset]) (by kernel_rfl) ?_
  refine ao (σ':=[gS g,gS g,gS g,gS g,gS g,fV (add g g),fV (sub g g),.unset,.unset,.unset,.unset,.unset,.unset]) (by kernel_rfl) ?_
  generalize hl:div (add g g) 0x4000000000000000=l
  refine ao (σ':=[gS g,gS g,gS g,gS g,gS g,fV (add g g),fV (sub g g),gS l,.unset,.unset,.unset,.unset,.unset]) (by subst hl;kernel_rfl) ?_
  exact cW (uQ (cE (x:=.aH g) (y:=.aH g) rfl rfl (congrArg some h)) (by kernel_rfl))
 show(c8.ex Φ _).bind _=_
 rw[show D8.slots [.aH g,.aH g,.aH g]=[gS g,gS g,gS g,.unset,.unset,.unset,.unset,.unset,.unset,.unset,.unset,.unset,.unset]from rfl,e];rfl
theorem Cg:F8.fn 12 [.ak h,.int 0,.aH g]=some (.tup [.aH g,.aH g,.aH g]):=by kernel_rfl
theorem zF:F8.fn 9 [.ak h,.aH g,.int 0]=some (.tup [.aH g,.aH g,.aH g]):=by kernel_rfl
end
end
section
open PySem.Float64 Q1
section
variable{r:Nat->Slot}{w:Int}{g:UInt64}
theorem O9(h0:0<=w)(h1:w<=1024)(qY:r 10=iV w):qj.ex F8 (FW r)=some (.next (FW (upd r 35 (gS (cR w))))):=by
 rw[<-sF]
 refine mp (a:=PV.aH (cR w)) (bnd (gV qY) (bnd (a:=w) rfl (av ?_)))
 show(nz 1024&&!isInf (cZ w 1024))=true
 rw[ri (fN h0 h1).fn];rfl
theorem N4(h:(cmp g g==some .eq)=true):ry.f (.tup [.ak 0,.ak 0,.aH g]) (.tup [.int 0,.int 0,.aH g])=some false:=by
 have e:oM 5 (.aH g) (.aH g)=some true:=av h
 show((oM 5 (.ak 0) (.int 0)).bind λa=>(((oM 5 (.ak 0) (.int 0)).bind λa=>(((oM 5 (.aH g) (.aH g)).bind λa=>(some true).map (a&&·)).map (a&&·))).map (a&&·))).map not=some false
 rw[e];kernel_rfl
theorem N5{l:UInt64}(h:(cmp l g==some .eq)=true):ry.f (.tup [.ak 0,.aH l,.ak 0]) (.tup [.int 0,.aH g,.int 0])=some false:=by
 have e:oM 5 (.aH l) (.aH g)=some true:=av h
 show((oM 5 (.ak 0) (.int 0)).bind λa=>(((oM 5 (.aH l) (.aH g)).bind λa=>(((oM 5 (.ak 0) (.int 0)).bind λa=>(some true).map (a&&·)).map (a&&·))).map (a&&·))).map not=some false
 rw[e];kernel_rfl
theorem IV(h:(cmp g g==some .eq)=true):ry.f (.tup [.aH g,.aH g,.aH g]) (.tup [.aH g,.aH g,.aH g])=some false:=by
 have e:oM 5 (.aH g) (.aH g)=some true:=av h
 show((oM 5 (.aH g) (.aH g)).bind λa=>(((oM 5 (.aH g) (.aH g)).bind λa=>(((oM 5 (.aH g) (.aH g)).bind λa=>(some true).map (a&&·)).map (a&&·))).map (a&&·))).map not=some false
 rw[e];kernel_rfl
theorem Gz(h0:0<=w)(h1:w<=1024):(cmp (div (add (cR w) (cR w)) (ofInt 2)) (cR w)==some .eq)=true:=by
 have e:=fN h0 h1
 have m:=xO (BS e e ⟨h0,h1⟩ ⟨h0,h1⟩) rW (by lia) (by lia)
 rw[sR m.fn e.fn,m.eq,e.eq]
 have:((w+w:Int):Rat)=(w:Rat)+(w:Rat):=Rat.intCast_add _ _
 exact eT (by rw[this];grind)
theorem Pa(h0:0<=w)(h1:w<=1024)(pF:r 35=gS (cR w)):qk.ex F8 (FW r)=some (.next (FW r)):=by
 have s:=jI (fN h0 h1).fn
 refine oX (bnd (a:=false) ?_ ?_)
 ·exact cE (x:=.tup [.ak 0,.ak 0,.aH (cR w)]) (y:=.tup [.int 0,.int 0,.aH (cR w)]) (bnd (jt (gV pF) (gV pF) (gV pF)) ((Tp _).trans (Ce s))) (bnd (a:=[PV.int 0,PV.int 0,PV.aH (cR w)]) (jt rfl rfl (gV pF)) rfl) (N4 s)
 ·exact cE (x:=.tup [.ak 0,.aH (div (add (cR w) (cR w)) (ofInt 2)),.ak 0]) (y:=.tup [.int 0,.aH (cR w),.int 0]) (bnd (jt (gV pF) (gV pF) (gV pF)) ((f8 _).trans (Cd s))) (bnd (a:=[PV.int 0,PV.aH (cR w),PV.int 0]) (jt rfl (gV pF) rfl) rfl) (N5 (Gz h0 h1))
theorem Dm{xs:List PV}{x0 x1:PV}{q1 q2 q3:Pos}{hm:isVar (bk.sc nm) 19 "hues"=true}(jz:r 19=.own (x0::x1::xs)):(SE.idx (SW.own 19 ("hues":Str) q1 hm) (.int 1 0 q2) q3).ev F8 (FW r)=some x1:=
 bnd (a:=x0::x1::xs) (gO jz) (bnd (a:=PV.int 1) rfl (bnd (a:=(1:Int)) rfl (bnd (a:=1) (fh (i:=1) (bE rfl)) rfl)))
theorem Pb{xs:List PV}{x0:PV}{h:UInt64}(h0:0<=w)(h1:w<=1024)(pF:r 35=gS (cR w))(jz:r 19=.own (x0::.ak h::xs)):qm.ex F8 (FW r)=some (.next (FW r)):=by
 have s:=jI (fN h0 h1).fn
 have t:∀{q:Pos} {k:Nat},(SE.tup [v (sc:=bk.sc nm) 35 ("grey":Str) q,v 35 ("grey":Str) q,v 35 ("grey":Str) q] k q).ev F8 (FW r)=some (.tup [.aH (cR w),.aH (cR w),.aH (cR w)]):=λ{q k}=>bnd (a:=[PV.aH (cR w),PV.aH (cR w),PV.aH (cR w)]) (jt (gV pF) (gV pF) (gV pF)) rfl
 refine oX (bnd (a:=false) ?_ ?_)
 ·exact cE (x:=.tup [.aH (cR w),.aH (cR w),.aH (cR w)]) (y:=.tup [.aH (cR w),.aH (cR w),.aH (cR w)]) (bnd (a:=[PV.ak h,PV.int 0,PV.aH (cR w)]) (jt (Dm jz) rfl (gV pF)) Cg) (bnd (a:=[PV.aH (cR w),PV.aH (cR w),PV.aH (cR w)]) (jt (gV pF) (gV pF) (gV pF)) rfl) (IV s)
 ·exact cE (x:=.tup [.aH (cR w),.aH (cR w),.aH (cR w)]) (y:=.tup [.aH (cR w),.aH (cR w),.aH (cR w)]) (bnd (a:=[PV.ak h,PV.aH (cR w),PV.int 0]) (jt (Dm jz) (gV pF) rfl) zF) (bnd (a:=[PV.aH (cR w),PV.aH (cR w),PV.aH (cR w)]) (jt (gV pF) (gV pF) (gV pF)) rfl) (IV s)
theorem Pc{x y:Nat}(hx:x<9)(hy:y<9)(h8:r 8=iV x)(h9:r 9=iV y):∃G:V2,Good G/\(-4<=G.1/\G.1<=4)/\(-4<=G.2/\G.2<=4)/\qo.ex F8 (FW r)=some (.next (FW (upd r 36 (.val (pt G))))):=by
 have t:(SE.ev (SE.tup [v (sc:=bk.sc nm) 8 ("right":Str) (qz 334 35 40),v 9 ("up":Str) (qz 334 42 44)] 0 (qz 334 34 45)) F8 (FW r))=some (.tup [.int x,.int y]):=bnd (a:=[PV.int x,PV.int y]) (gp (gV h8) (gV h9)) rfl
 have e:ry.f (.tup [.int x,.int y]) (.tup [.int 4,.int 4])=some (!(and ((x:Int)==4) (and ((y:Int)==4) true))):=rfl
 by_cases h:x=4/\y=4
 ·obtain⟨rfl,rfl⟩:=h
  refine⟨(1,0),⟨by decide,by decide⟩,by decide,by decide,?_⟩
  rw[<-sF]
  exact mp (a:=pt (1,0)) (bnd (a:=false) (cE (x:=.tup [.int (4:Nat),.int (4:Nat)]) (y:=.tup [.int 4,.int 4]) t rfl e) rfl)
 ·have q:(!(and ((x:Int)==4) (and ((y:Int)==4) true)))=true:=by
   cases a:((x:Int)==4)with
   |false=>rfl
   |true=>
    have:=eq_of_beq a
    rw[beq_eq_false_iff_ne.mpr (show¬(y:Int)=4 by lia)];rfl
  rw[q]at e
  refine⟨((x:Int)-4,(y:Int)-4),⟨by show¬((x:Int)-4=0/\(y:Int)-4=0);lia,Int.le_trans (Lo (m:=4) (by decide) (by lia) (by lia)).2 (by decide)⟩,by show-4<=(x:Int)-4/\(x:Int)-4<=4;lia,by show-4<=(y:Int)-4/\(y:Int)-4<=4;lia,?_⟩
  rw[<-sF]
  refine mp (a:=pt ((x:Int)-4,(y:Int)-4)) (bnd (a:=true) (cE (x:=.tup [.int x,.int y]) (y:=.tup [.int 4,.int 4]) t rfl e) ?_)
  exact bnd (a:=[PV.int ((x:Int)-4),PV.int ((y:Int)-4)]) (gp (bW (x:=.int x) (y:=.int 4) (gV h8) rfl rfl) (bW (x:=.int y) (y:=.int 4) (gV h9) rfl rfl)) rfl
theorem Pd{G:V2}(gG:Good G)(qY:r 10=iV w)(Cn:r 36=.val (pt G)):qp.ex F8 (FW r)=some (.next (FW (upd (upd (upd r 25 (fV (cR (cA G w)))) 26 (fV (cR (cB G w)))) 27 (fV (cR (cC G w)))))):=by
 have C:=cU w gG.1 gG.2
 have ep:F8.fn 16 [pt G,.int w]=some (j6 (cA G w) (cB G w) (cC G w)):=(Tq _).trans (uo (by have:=gG.2;lia))
 have ek:Ig.ev F8 (FW r)=some [.ak (cR (cA G w)),.ak (cR (cB G w)),.ak (cR (cC G w))]:=by
  refine lR (xs:=[PV.int (cA G w),PV.int (cB G w),PV.int (cC G w)]) (bnd (bnd (gp (gV Cn) (gV qY)) ep) rfl) ?_ (bE rfl)
  refine comp_map (f:=PV.int) (g:=λx=>.ak (cR x)) (ys:=[cA G w,cB G w,cC G w]) λx m=>⟨.val (.int x)::FW r,rfl,rfl,?_⟩
  exact bW (x:=.int x) (y:=.int 1024) rfl rfl (Og (qO C x m).1 (qO C x m).2)
 exact bnd (a:=.lst [.ak (cR (cA G w)),.ak (cR (cB G w)),.ak (cR (cC G w))]) (gM ek) (bnd (a:=[PV.ak (cR (cA G w)),PV.ak (cR (cB G w)),PV.ak (cR (cC G w))]) rfl (mp (EN r _ _ _)))
theorem Pe{G:V2}(gG:Good G)(Iz:r 25=fV (cR (cA G w)))(IA:r 26=fV (cR (cB G w)))(IB:r 27=fV (cR (cC G w))):qq.ex F8 (FW r)=some (.next (FW (upd r 37 (fV (aP G w))))):=by
 rw[<-sF]
 exact mp (a:=PV.ak (aP G w)) (bnd (bnd (jt (gV Iz) (gV IA) (gV IB)) (x8 (cU w gG.1 gG.2))) rfl)
theorem Pg(r:Nat->Slot):qt.ex F8 (FW r)=some (.next (FW (upd r 38 (iV 0)))):=by kernel_rfl
theorem Ph(r:Nat->Slot):qu.ex F8 (FW r)=some (.next (FW (upd r 39 (iV 0)))):=by kernel_rfl
end
end
section
open PySem.Float64 Q1
section
variable{w:Int}{s s':V2}{W W':Int}
theorem IL(g:Good s):aP s W=aP s W':=by
 have C:=cU W g.1 g.2
 have C':=cU W' g.1 g.2
 have d:∀W,bG s.1 s.2+aW s.1 s.2 W-aW s.1 s.2 W=bG s.1 s.2:=λW=>by omega
 have da:∀W,bG s.1 s.2+aW s.1 s.2 W-cA s W=bG s.1 s.2-s.1-aO s.1 s.2:=λW=>by unfold cA;omega
 have db:∀W,bG s.1 s.2+aW s.1 s.2 W-cB s W=bG s.1 s.2-s.2-aO s.1 s.2:=λW=>by unfold cB;omega
 have dc:∀W,bG s.1 s.2+aW s.1 s.2 W-cC s W=bG s.1 s.2-aO s.1 s.2:=λW=>by unfold cC;omega
 exact CI C C' (jJ C) (jK C) (jL C) (eS C) (iC C) (jJ C') (jK C') (jL C') (eS C') (iC C') (by rw[d,d,da,da]) (by rw[d,d,db,db]) (by rw[d,d,dc,dc])
theorem FQ(g':Good s')(g:Good s)(h:0<bS s' s):oU (R (aP s' W')) (R (aP s W))=sW s' s:=by
 have C':=cU W' g'.1 g'.2
 have C:=cU W g.1 g.2
 have d:∀(s:V2) (W:Int),(cA s W-cC s W,cB s W-cC s W)=s:=λs W=>sH s.1 s.2 (aW s.1 s.2 W)
 have k:=pC C' C (jJ C') (jK C') (jL C') (eS C') (iC C') (jJ C) (jK C) (jL C) (eS C) (iC C) (by rw[d,d];exact h)
 rw[d,d]at k
 exact k
theorem zz:∀(l:List V2) (p:Nat) (c:V2) (W':Int),Good c->(∀s∈l,Good s)->turns c l->kP (R (aP c W')) ((jT w p l).map R)=fM c l:=by
 intro w
 induction w with
 |nil=>intros;exact rfl
 |cons s l ih=>
  intro p c W' g gl t
  have gs:=gl s eF
  show oU (R (aP c W')) (R (aP s (w+77*p)))+kP (R (aP s (w+77*p))) ((jT w (p+1) l).map R)=sW c s+fM s l
  rw[FQ g gs t.1,ih (p+1) s _ gs (λs m=>gl s (f5 _ m)) t.2]
theorem CV:∀(l:List V2) (p:Nat) (c:V2) (W':Int),Good c->(∀s∈l,Good s)->pL (R (aP c W')) ((jT w p l).map R)=R (aP (d8 c l) 0):=by
 intro w
 induction w with
 |nil=>intro _ c W' g _;show R (aP c W')=R (aP c 0);rw[IL (W:=W') (W':=0) g]
 |cons s l ih=>
  intro p c W' g gl
  show pL (R (aP s (w+77*p))) ((jT w (p+1) l).map R)=R (aP (d8 s l) 0)
  exact ih (p+1) s (w+77*p) (gl s eF) λs m=>gl s (f5 _ m)
theorem GA{l:List V2}{c:V2}{S:Rat}(g:Good c)(gl:∀s∈l,Good s)(t:turns c l)(hl:d8 c l=c):rt S (R (aP c w)) ((jT w 1 l).map R)=fM c l:=by
 rw[wm S (by rw[CV l 1 c w g gl,hl,IL (W:=0) (W':=w) g]),zz l 1 c w g gl t]
theorem xW(g:Good s):(-838<=s.1/\s.1<=838)/\-838<=s.2/\s.2<=838:=Hy g.2
theorem Ju{α:Type}(pre:List α)(a:α)(l:List α):(pre++a::l)[pre.length]?=some a:=by
 rw[List.getElem?_append_right (Nat.le_refl _),Nat.sub_self];rfl
theorem Fd{α:Type}(pre:List α)(a b:α)(l:List α):(pre++a::b::l)[pre.length+1]?=some b:=by
 rw[List.getElem?_append_right (by omega),Nat.add_sub_cancel_left];rfl
theorem FD{α:Type}(pre:List α)(a b:α)(l:List α):cut (pre++a::b::l) (pre++a::b::l).length (some (pre.length:Int)) (some ((pre.length+2:Nat):Int))=[a,b]:=by
 have e:(pre++a::b::l).length=pre.length+(l.length+2):=by rw[ay];rfl
 rw[xN (by omega) (by omega),List.drop_append_of_le_length (Nat.le_refl _),List.drop_length,Nat.add_sub_cancel_left];rfl
end
section
variable{r:Nat->Slot}{G:V2}{S x y:UInt64}{p:Nat}
theorem HP(r:Nat->Slot)(a b:PV):iL [⟨40,"begin",(qz 340 8 13)⟩,⟨41,"end",(qz 340 15 18)⟩] [a,b] (FW r)=some (FW (upd (upd r 40 (.val a)) 41 (.val b))):=by kernel_rfl
theorem LL{pre l:List PV}{a b:PV}(h2:r 2=iV pre.length)(jz:r 19=.own (pre++a::b::l))(hz:pre.length+l.length<=900):A5.ex F8 (FW r)=some (.next (FW (upd (upd r 40 (.val a)) 41 (.val b)))):=by
 have e:(pre++a::b::l).length<=1000000:=by rw[ay];show pre.length+(l.length+2)<=_;omega
 refine bnd (a:=.lst [a,b]) (bnd (gO jz) (bnd (a:=some (pre.length:Int)) (bnd (gV h2) rfl) (bnd (a:=some ((pre.length+2:Nat):Int)) (bnd (a:=PV.int ((pre.length+2:Nat):Int)) (bnd (gV h2) rfl) rfl) ((av (aV e)).trans ?_)))) (bnd (a:=[a,b]) rfl (mp (HP r a b)))
 exact congrArg (λz=>some (PV.lst z)) (FD pre a b l)
theorem BA{c d:V2}(h1:sm c.1=true)(h2:sm c.2=true):F8.fn 15 [pt c,pt d]=some (.int (bS c d)):=(U4 _).trans (BB h1 h2)
theorem Qh{i:Int}(h:-838<=i/\i<=838):sm i=true:=mw (Int.le_trans (by decide) h.1) (Int.le_trans h.2 (by decide))
theorem LM{pre l:List PV}{c d:V2}{k:Int}(h2:r 2=iV pre.length)(xY:r 18=.val (.lst (pre++pt c::pt d::l)))(Cn:r 36=.val (pt G))(Av:r 38=iV k)(hG:Good G)(hc:Good c)(hz:pre.length<=900):vq.ex F8 (FW r)=some (.next (FW (upd r 38 (iV (k+ent G c d))))):=by
 have gG:=xW hG
 have gc:=xW hc
 have e1:bS c G=-bS G c:=sL G c
 have t:(bif decide (bS G d>0)then(bif decide (bS c G>=0)then true else false)else false)=(!n8 G c&&n8 G d):=by
  have q:decide (bS c G>=0)=!n8 G c:=by
   unfold n8
   by_cases h:0<bS G c
   ·rw[eT h,eE (Int.not_le.mpr (e1▸Int.neg_neg_of_pos h))];rfl
   ·rw[eE h,eT (show bS c G>=0 from e1▸Int.neg_nonneg_of_nonpos (Int.not_lt.mp h))];rfl
  rw[q,show decide (bS G d>0)=n8 G d from rfl]
  cases n8 G c<;>cases n8 G d<;>rfl
 have z:vq.ex F8 (FW r)=bif (!n8 G c&&n8 G d)then(SL.cons (au (sc:=bk.sc nm) jU ⟨38,"ways",(qz 342 12 16)⟩ (.int 1 0 (qz 342 20 21)) (qz 342 12 21)) .nil).ex F8 (FW r)else some (.next (FW r)):=by
  refine oY (k:=(!n8 G c&&n8 G d)) ?_ rfl
  rw[<-t]
  refine bnd (a:=decide (bS G d>0)) (cE (x:=.int (bS G d)) (y:=.int 0) (bnd (a:=[pt G,pt d]) (gp (gV Cn) ?_) (BA (Qh gG.1) (Qh gG.2))) rfl rfl) ?_
  ·exact bnd (a:=pre++pt c::pt d::l) (bnd (gV xY) rfl) (bnd (a:=PV.int ((pre.length+1:Nat):Int)) (bnd (gV h2) rfl) (bnd (a:=((pre.length+1:Nat):Int)) rfl (bnd (fh (by omega)) (Fd pre _ _ l))))
  cases decide (bS G d>0)with
  |false=>rfl
  |true=>
   refine bnd (a:=decide (bS c G>=0)) (cE (x:=.int (bS c G)) (y:=.int 0) (bnd (a:=[pt c,pt G]) (gp ?_ (gV Cn)) (BA (Qh gc.1) (Qh gc.2))) rfl rfl) (by cases decide (bS c G>=0)<;>rfl)
   exact bnd (a:=pre++pt c::pt d::l) (bnd (gV xY) rfl) (bnd (a:=PV.int (pre.length:Int)) (gV h2) (bnd (a:=(pre.length:Int)) rfl (bnd (fh (by omega)) (Ju pre _ _))))
 rw[z]
 unfold ent
 cases(!n8 G c&&n8 G d)with
 |false=>
  rw[if_neg (by decide),cu (r:=r) (i:=38) (Av.trans (by rw[Int.add_zero]))];rfl
 |true=>
  rw[if_pos rfl]
  refine bJ ?_
  rw[<-sF]
  exact bnd (gV Av) (bnd (a:=PV.int 1) rfl (mp (a:=PV.int (k+1)) rfl))
theorem Ep(a b:Rat):(decide (a<b)||decide (a=b))=decide (a<=b):=by
 by_cases h:a<b
 ·rw[eT h,eT (show a<=b by grind)];rfl
 ·by_cases k:a=b
  ·rw[eE h,eT k,eT (show a<=b by grind)];rfl
  ·rw[eE h,eE k,eE (show¬a<=b by grind)];rfl
theorem RU(hx:Fn x)(hy:Fn y):(cmp x y==some .lt||cmp x y==some .eq)=decide (R x<=R y):=by
 rw[mq hx hy,sR hx hy];exact Ep _ _
theorem Rb(hx:Fn x)(hy:Fn y):(cmp x y==some .gt||cmp x y==some .eq)=decide (R y<=R x):=by
 rw[Np hx hy,sR hx hy,<-Ep]
 congr 1
 exact decide_eq_decide.mpr ⟨Eq.symm,Eq.symm⟩
theorem LN{k:Int}(hS:Fn S)(hx:Fn x)(hy:Fn y)(EU:r 37=fV S)(Aw:r 39=iV k)(Rj:r 40=fV x)(Rk:r 41=fV y):vt.ex F8 (FW r)=some (.next (FW (upd r 39 (iV (k+rm (R S) (R x) (R y)))))):=by
 have t:(bif (bif decide (R x<=R S)then decide (R S<R y)else false)then true else(bif decide (R y<R x)then(bif (bif decide (R x<=R S)then true else decide (R S<R y))then true else false)else false))=decide ((R x<=R S/\R S<R y)\/(R y<R x/\(R x<=R S\/R S<R y))):=by
  by_cases a:R x<=R S<;>by_cases b:R S<R y<;>by_cases c:R y<R x<;>simp[a,b,c]
 have z:vt.ex F8 (FW r)=bif decide ((R x<=R S/\R S<R y)\/(R y<R x/\(R x<=R S\/R S<R y)))then(SL.cons (au (sc:=bk.sc nm) jU ⟨39,"met",(qz 344 12 15)⟩ (.int 1 0 (qz 344 19 20)) (qz 344 12 20)) .nil).ex F8 (FW r)else some (.next (FW r)):=by
  refine oY (k:=decide ((R x<=R S/\R S<R y)\/(R y<R x/\(R x<=R S\/R S<R y)))) ?_ rfl
  rw[<-t]
  refine bnd (a:=bif decide (R x<=R S)then decide (R S<R y)else false) (bnd (gV Rj) (bnd (gV EU) (bnd (a:=decide (R x<=R S)) (congrArg some (RU hx hS)) ?_))) ?_
  ·cases decide (R x<=R S)with
   |false=>rfl
   |true=>exact bnd (gV Rk) (congrArg some (mq hS hy))
  ·cases(bif decide (R x<=R S)then decide (R S<R y)else false)with
   |true=>rfl
   |false=>
    refine bnd (a:=decide (R y<R x)) (cE (x:=.ak y) (y:=.ak x) (gV Rk) (gV Rj) (congrArg some (mq hy hx))) ?_
    cases decide (R y<R x)with
    |false=>rfl
    |true=>
     refine bnd (a:=bif decide (R x<=R S)then true else decide (R S<R y)) (bnd (a:=decide (R x<=R S)) (cE (x:=.ak S) (y:=.ak x) (gV EU) (gV Rj) (congrArg some (Rb hS hx))) ?_) (by cases(bif decide (R x<=R S)then true else decide (R S<R y))<;>rfl)
     cases decide (R x<=R S)with
     |true=>rfl
     |false=>exact cE (x:=.ak S) (y:=.ak y) (gV EU) (gV Rk) (congrArg some (mq hS hy))
 rw[z]
 unfold rm
 by_cases q:(R x<=R S/\R S<R y)\/(R y<R x/\(R x<=R S\/R S<R y))
 ·rw[eT q,if_pos q]
  refine bJ ?_
  rw[<-sF]
  exact bnd (gV Aw) (bnd (a:=PV.int 1) rfl (mp (a:=PV.int (k+1)) rfl))
 ·rw[eE q,if_neg q,cu (r:=r) (i:=39) (Aw.trans (by rw[Int.add_zero]))];rfl
end
end
section
open PySem.Float64 Q1
section
variable{r:Nat->Slot}{G:V2}{S:UInt64}{w:Int}
abbrev yV:=(rV (sc:=bk.sc nm) ⟨2,"place",(qz 339 8 13)⟩).bind
theorem PM(p:Nat)(r:Nat->Slot):yV (.int (p:Int)) (FW r)=some (FW (upd r 2 (iV p))):=by
 show some ((FW r).set 2 (iV p))=_
 rw[sF]
theorem EB{pre hpre l hl:List PV}{c d:V2}{x y:UInt64}{a b:Int}(hS:Fn S)(hx:Fn x)(hy:Fn y)(hG:Good G)(hc:Good c)(hp:hpre.length=pre.length)(hz:pre.length<=400)(WA:hl.length<=400)(xY:r 18=.val (.lst (pre++pt c::pt d::l)))(jz:r 19=.own (hpre++.ak x::.ak y::hl))(Cn:r 36=.val (pt G))(EU:r 37=fV S)(Av:r 38=iV a)(Aw:r 39=iV b):
  ∃r',(∀rest,loopGo yV (xy.ex F8) (.int (pre.length:Int)::rest) (FW r)=loopGo yV (xy.ex F8) rest (FW r'))/\r' 38=iV (a+ent G c d)/\r' 39=iV (b+rm (R S) (R x) (R y))/\∀j,j<38->j≠2->r' j=r j:=by
 have e1:=LL (r:=upd r 2 (iV pre.length)) (pre:=hpre) (l:=hl) (a:=.ak x) (b:=.ak y) (by rw[hp];rfl) jz (by lia)
 have e2:=LM (r:=upd (upd (upd r 2 (iV pre.length)) 40 (fV x)) 41 (fV y)) (pre:=pre) (l:=l) (c:=c) (d:=d) (k:=a) rfl xY Cn Av hG hc (by lia)
 have e3:=LN (r:=upd (upd (upd (upd r 2 (iV pre.length)) 40 (fV x)) 41 (fV y)) 38 (iV (a+ent G c d))) (k:=b) hS hx hy EU Aw rfl rfl
 exact⟨_,λrest=>cz (PM _ _) (ao e1 (ao e2 (bJ e3))),rfl,rfl,λj h1 h2=>by rw[aM (bU (by lia)),aM (bU (by lia)),aM (bU (by lia)),aM (bU (by lia)),aM (bU h2)]⟩
inductive Mu(S:UInt64)(G:V2)(l:List V2)(hl:List UInt64)(pre:List PV)(c:V2)(x:UInt64)(a b:Int)(r:Nat->Slot):Prop
 |mk (r':Nat->Slot) (h0:loopGo yV (xy.ex F8) (places pre.length l.length) (FW r)=some (.next (FW r'))) (h1:r' 38=iV (a+ways G c l)) (h2:r' 39=iV (b+rt (R S) (R x) (hl.map R))) (h3:∀j,j<38->j≠2->r' j=r j):Mu S G l hl pre c x a b r
theorem Ez:∀(l:List V2) (hl:List UInt64) (pre hpre:List PV) (c:V2) (x:UInt64) (a b:Int) (r:Nat->Slot),l.length=hl.length->Fn S->Fn x->(∀y∈hl,Fn y)->Good G->Good c->(∀s∈l,Good s)->hpre.length=pre.length->pre.length+l.length<=300->r 18=.val (.lst (pre++pt c::l.map pt))->r 19=.own (hpre++.ak x::fl hl)->r 36=.val (pt G)->r 37=fV S->r 38=iV a->r 39=iV b->
  Mu S G l hl pre c x a b r:=by
 intro w
 induction w with
 |nil=>
  intro v
  cases v with
  |nil=>intro pre hpre c x a b r _ _ _ _ _ _ _ _ _ _ _ _ _ Av Aw;exact⟨r,rfl,by rw[Av];show iV a=iV (a+0);rw[Int.add_zero],by rw[Aw];show iV b=iV (b+0);rw[Int.add_zero],λ_ _ _=>rfl⟩
  |cons _ _=>intro _ _ _ _ _ _ _ h _ _ _ _ _ _ _ _ _ _ _ _ _ _;exact nomatch h
 |cons d l ih=>
  intro v
  cases v with
  |nil=>intro _ _ _ _ _ _ _ h _ _ _ _ _ _ _ _ _ _ _ _ _ _;exact nomatch h
  |cons y hl=>
   intro pre hpre c x a b r hn hS hx hy hG hc gl hp hz xY jz Cn EU Av Aw
   rw[List.length_cons]at hz
   have hn':l.length=hl.length:=Nat.succ.inj hn
   have hd:=gl d eF
   have fy:=hy y eF
   obtain⟨r1,e1,Ur,Us,k1⟩:=EB (pre:=pre) (hpre:=hpre) (l:=l.map pt) (hl:=fl hl) (c:=c) (d:=d) (x:=x) (y:=y) (a:=a) (b:=b) hS hx fy hG hc hp (by lia) (by rw[List.length_map];lia) xY jz Cn EU Av Aw
   have q:∀j,j<38->j≠2->r1 j=r j:=k1
   obtain⟨r2,e2,UA,UB,k2⟩:=ih hl (pre++[pt c]) (hpre++[.ak x]) d y (a+ent G c d) (b+rm (R S) (R x) (R y)) r1 hn' hS fy (λy m=>hy y (f5 _ m)) hG hd (λs m=>gl s (f5 _ m)) (by rw[ay,ay,hp];rfl) (by rw[ay,List.length_singleton];lia) (by rw[List.append_assoc];exact(k1 18 (bE rfl) (by decide)).trans xY) (by rw[List.append_assoc];exact(k1 19 (bE rfl) (by decide)).trans jz) ((k1 36 (bE rfl) (by decide)).trans Cn) ((k1 37 (bE rfl) (by decide)).trans EU) Ur Us
   refine⟨r2,(e1 _).trans (by rw[ay]at e2;exact e2),UA.trans ?_,UB.trans ?_,λj h1 h2=>(k2 j h1 h2).trans (k1 j h1 h2)⟩
   ·rw[show ways G c (d::l)=ent G c d+ways G d l from rfl,Int.add_assoc]
   ·rw[show rt (R S) (R x) ((y::hl).map R)=rm (R S) (R x) (R y)+rt (R S) (R y) (hl.map R)from rfl,Int.add_assoc]
theorem zU:∀(n p:Nat),places p n=(List.range n).map λi=>PV.int ((p+i:Nat):Int):=by
 intro w
 induction w with
 |zero=>intros;exact rfl
 |succ n ih=>
  intro p
  rw[List.range_succ_eq_map,List.map_cons,List.map_map]
  show PV.int (p:Int)::places (p+1) n=_
  rw[ih (p+1)]
  refine congrArg (PV.int (p:Int)::·) (List.map_congr_left λi _=>?_)
  show PV.int ((p+1+i:Nat):Int)=PV.int ((p+(i+1):Nat):Int)
  rw[show p+1+i=p+(i+1) by lia]
theorem zW(n:Nat):ranges 0 (n:Int)=places 0 n:=by
 rw[zU]
 unfold ranges
 rw[show((n:Int)-0).toNat=n by lia]
 refine List.map_congr_left λi _=>?_
 rw[Nat.zero_add,Int.zero_add]
theorem CF:∀(l:List V2) (p:Nat),(jT w p l).length=l.length:=by
 intro w
 induction w with
 |nil=>intros;exact rfl
 |cons _ l ih=>intro p;exact congrArg Nat.succ (ih (p+1))
theorem vY{s:V2}{W:Int}(g:Good s):Fn (aP s W):=(o9 (cU W g.1 g.2)).fn
theorem Gm:∀(l:List V2) (p:Nat),(∀s∈l,Good s)->∀y∈jT w p l,Fn y:=by
 intro w
 induction w with
 |nil=>intro _ _ _ m;exact nomatch m
 |cons s l ih=>
  intro p g y m
  rcases eX m with rfl|m
  ·exact vY (g s eF)
  ·exact ih (p+1) (λs m=>g s (f5 _ m)) y m
theorem Pj{l:List V2}{c:V2}{fs:List Int}(hG:Good G)(hc:Good c)(gl:∀s∈l,Good s)(hS:Fn S)(hl:l.length=fs.length)(hz:fs.length<=100)(h7:r 7=.own (iv fs))(xY:r 18=.val (.lst ((c::l).map pt)))(jz:r 19=.own (fl (aP c w::jT w 1 l)))(Cn:r 36=.val (pt G))(EU:r 37=fV S)(Av:r 38=iV 0)(Aw:r 39=iV 0):
  ∃r',qv.ex F8 (FW r)=some (.next (FW r'))/\r' 38=iV (ways G c l)/\r' 39=iV (rt (R S) (R (aP c w)) ((jT w 1 l).map R))/\∀j,j<38->j≠2->r' j=r j:=by
 obtain⟨r',e,e1,e2,e3⟩:=Ez (S:=S) (G:=G) l (jT w 1 l) [] [] c (aP c w) 0 0 r (CF l 1).symm hS (vY hc) (Gm l 1 gl) hG hc gl rfl (by rw[List.length_nil];lia) xY jz Cn EU Av Aw
 have ez:(iv fs).length=fs.length:=nX fs
 refine⟨r',bnd (a:=places 0 l.length) ?_ e,e1.trans (by rw[Int.zero_add]),e2.trans (by rw[Int.zero_add]),e3⟩
 refine bnd (a:=PV.int (fs.length:Int)) (bnd (a:=PV.lst (iv fs)) (mp (gO h7)) ((mK (by rw[ez];lia)).trans (by rw[ez]))) (bnd (a:=(fs.length:Int)) rfl ((av ?_).trans ?_))
 ·unfold DY;exact Nat.blt_eq.mpr (Nat.lt_of_le_of_lt hz (by decide))
 ·rw[zW,hl]
theorem Pk{k:Int}(iE:r 20=iV k)(Av:r 38=iV k)(Aw:r 39=iV k):qw.ex F8 (FW r)=some (.next (FW r)):=by
 have e:oM 6 (.int k) (.int k)=some true:=by show some (k==k)=some true;rw[beq_self_eq_true]
 exact oX (mp (a:=true) (bnd (gV iE) (bnd (gV Av) (bnd (a:=true) e (bnd (gV Aw) e)))))
end
end
section
open PySem.Float64 Q1
section
variable{r:Nat->Slot}
theorem BC{c d:V2}(h:0<bS c d):¬(c.1=0/\c.2=0)/\¬(d.1=0/\d.2=0):=by
 unfold bS at h
 constructor
 ·rintro⟨a,b⟩
  rw[a,b,Int.zero_mul,Int.zero_mul]at h;lia
 ·rintro⟨a,b⟩
  rw[a,b,Int.mul_zero,Int.mul_zero]at h;lia
theorem Eo:∀(l:List V2) (c:V2),turns c l->∀s∈l,¬(s.1=0/\s.2=0):=by
 intro w
 induction w with
 |nil=>intro _ _ _ m;exact nomatch m
 |cons d l ih=>
  intro c t s m
  rcases eX m with rfl|m
  ·exact(BC t.1).2
  ·exact ih d t.2 s m
theorem Fx{G S0:V2}{w:Int}{fs:List Int}{d:V2}{l:List V2}{c:V2}{x y:Nat}{K:Int}(hx:x<9)(hy:y<9)(w0:0<=w)(w1:w<=1024)(hc:Good c)(gl:∀s∈d::l,Good s)(tu:turns c (d::l))(la:d8 c (d::l)=c)(hl:(d::l).length=fs.length)(hz:fs.length<=50)
  (hK:∀g:V2,g≠(0,0)->ways g c (d::l)=K) (hF:fM c (d::l)=K) (h7:r 7=.own (iv fs)) (h8:r 8=iV x) (h9:r 9=iV y) (qY:r 10=iV w) (xY:r 18=.val (.lst ((c::d::l).map pt))) (jz:r 19=.own []) (iE:r 20=iV 0):
  ∃r',(∀(rest:SL (bk.sc nm)) (o:Option Out),rest.ex F8 (FW r')=o->(SL.cons qi (.cons qj (.cons qk (.cons qm (.cons qo (.cons qp (.cons qq (.cons qt (.cons qu (.cons qv (.cons qw rest))))))))))).ex F8 (FW r)=o)/\r' 7=.own (iv fs)/\r' 11=r 11/\r' 20=iV K:=by
 obtain⟨r1,Q4,k1,Jp,y9⟩:=O8 (w:=w) hc gl tu (by lia) qY xY jz iE
 have q:∀j,j<19->j≠2->r1 j=r j:=k1
 have b7:=(q 7 (bE rfl) (by decide)).trans h7
 have b8:=(q 8 (bE rfl) (by decide)).trans h8
 have b9:=(q 9 (bE rfl) (by decide)).trans h9
 have Td:=(q 10 (bE rfl) (by decide)).trans qY
 have MC:=q 11 (bE rfl) (by decide)
 have Uu:=(q 18 (bE rfl) (by decide)).trans xY
 have Q5:=O9 w0 w1 Td
 have UL:=Pa (r:=upd r1 35 (gS (cR w))) w0 w1 rfl
 have UM:=Pb (r:=upd r1 35 (gS (cR w))) w0 w1 rfl Jp
 obtain⟨G,gG,gx,gy,UN⟩:=Pc (r:=upd r1 35 (gS (cR w))) hx hy b8 b9
 have UO:=Pd (r:=upd (upd r1 35 (gS (cR w))) 36 (.val (pt G))) gG Td rfl
 have UP:=Pe (r:=upd (upd (upd (upd (upd r1 35 (gS (cR w))) 36 (.val (pt G))) 25 (fV (cR (cA G w)))) 26 (fV (cR (cB G w)))) 27 (fV (cR (cC G w)))) gG rfl rfl rfl
 obtain⟨r2,UR,Tf,Th,k2⟩:=Pj (r:=upd (upd (upd (upd (upd (upd (upd (upd r1 35 (gS (cR w))) 36 (.val (pt G))) 25 (fV (cR (cA G w)))) 26 (fV (cR (cB G w)))) 27 (fV (cR (cC G w)))) 37 (fV (aP G w))) 38 (iV 0)) 39 (iV 0)) (S:=aP G w) gG hc gl (vY gG) hl (by lia) b7 Uu Jp rfl rfl rfl rfl
 have gn:G≠(0,0):=λe=>gG.1 (by rw[e];exact⟨rfl,rfl⟩)
 rw[hK G gn]at Tf
 rw[GA hc gl tu la,hF]at Th
 rw[hF]at y9
 have P6:r2 20=iV K:=(k2 20 (bE rfl) (by decide)).trans y9
 refine⟨r2,λrest o h=>ao Q4 (ao Q5 (ao UL (ao UM (ao UN (ao UO (ao UP (ao (Pg _) (ao (Ph _) (ao UR (ao (Pk P6 Tf Th) h)))))))))),(k2 7 (bE rfl) (by decide)).trans b7,(k2 11 (bE rfl) (by decide)).trans MC,P6⟩
inductive S7(ds:List Nat)(fs:List Int)(r:Nat->Slot):Prop
 |mk (r':Nat->Slot) (K:Int) (h0:(∀(rest:SL (bk.sc nm)) (o:Option Out),rest.ex F8 (FW r')=o->(SL.cons qi (.cons qj (.cons qk (.cons qm (.cons qo (.cons qp (.cons qq (.cons qt (.cons qu (.cons qv (.cons qw rest))))))))))).ex F8 (FW r)=o)) (h1:r' 7=.own (iv fs)) (h2:r' 11=.val (.lst (nv ds))) (h3:r' 20=iV K) (h4:3*(fs.length:Int)-fs.sum=12*K) (h5:(1<=K/\K<=3)):S7 ds fs r
theorem zl{c g x y w:Nat}{ds:List Nat}{fs:List Int}{l:List V2}(H:Head c g x y w ds fs l r):S7 ds fs r:=by
 have hv:=vE H.bc H.bg
 have W:=H.wk
 have ht:=pZ hv l (1,0) W.tu
 have hl:=tR (az c) (az ((c+g+1) % 6)) l (1,0)
 rw[W.la]at hl
 have top:∀s∈(1,0)::l,bG (gu (az c) (az ((c+g+1) % 6)) s).1 (gu (az c) (az ((c+g+1) % 6)) s).2<=838:=λs m=>by
  have b:=v5 (W.sm s m)
  exact DZ (a:=s.1) (b:=s.2) H.bc H.bg b.1 b.2
 have hs:=H.V9
 have w1:=H.bw
 have lo:=W.lo
 have ln:=W.ln
 have tu:=W.tu
 have la:=W.la
 have hi:=W.hi
 cases l with
 |nil=>rw[List.length_nil]at ln;lia
 |cons d l=>
  have gc:Good (gu (az c) (az ((c+g+1) % 6)) (1,0)):=⟨(BC ht.1).1,top _ eF⟩
  have gl:∀s∈(d::l).map (gu (az c) (az ((c+g+1) % 6))),Good s:=λs m=>by
   refine⟨Eo _ _ ht s m,?_⟩
   obtain⟨z,mz,rfl⟩:=List.mem_map.mp m
   exact top z (f5 _ mz)
  obtain⟨r',e,a7,LZ,y9⟩:=Fx (G:=(0,0)) (S0:=(0,0)) (w:=w) (fs:=fs) (d:=gu (az c) (az ((c+g+1) % 6)) d) (l:=l.map (gu (az c) (az ((c+g+1) % 6)))) (K:=ways (1,0) (1,0) (d::l)) H.bx H.QH (by lia) (by lia) gc gl ht hl ((List.length_map _).trans ln) (by lia) (λg' hg=>(oF hv tu la hg).1) (oF hv tu la (g:=(1,0)) (by decide)).2 H.s7 H.s8 H.s9 H.V7 hs H.Wa H.Wb
  exact⟨r',_,e,a7,LZ.trans H.V8,y9,W.eq,W.kb⟩
end
end
noncomputable def BR(i:Nat)(e:Bool)(c:Nat):List (Nat×List Nat):=if e then [(i,[92,c])]else if c=92 then []else [(i,[c])]
noncomputable def jO(e:Bool)(c:Nat):Bool:=!e&&Nat.beq c 92
noncomputable def sU:Nat->Bool->List Nat->List (Nat×List Nat)
 |_,_,[]=>[]
 |i,e,c::cs=>BR i e c++sU (i+1) (jO e c) cs
noncomputable def nH:Bool->List Nat->Bool
 |e,[]=>e
 |e,c::cs=>nH (jO e c) cs
def cF(x:Nat×List Nat):PV:=.tup [.int (x.1:Int),.str (tx x.2)]
def yX(c:Nat):Prop:=c=34\/c=40\/c=41\/c=92
theorem Cb{Φ:bO}{y:Str}{i:Nat}(e:Bool){c:Nat}(h:yX c):Aq.body.ev Φ [.val (.str y),.val (.int i),.val (.bool e),.val (.str (tx [c]))]=some ((BR i e c).map cF,[.val (.str y),.val (.int i),.val (.bool (jO e c)),.val (.str (tx [c]))]):=by
 rcases h with rfl|rfl|rfl|rfl<;>cases e<;>kernel_rfl
noncomputable def endPos(i:Nat)(q:PV):List Nat->PV
 | []=>q
 |c::cs=>endPos (i+1) (.int (i:Int)) cs
theorem Ca{Φ:bO}{y:Str}:∀(xs:List Nat) (i:Nat) (q:PV) (e:Bool) (t:Slot),(∀c∈xs,yX c)->∃t',lT Aq.tg.bind (Aq.body.ev Φ) (bP i (xs.map λc=>.str (tx [c]))) [.val (.str y),.val q,.val (.bool e),t]=
  some ((sU i e xs).map cF,[.val (.str y),.val (endPos i q xs),.val (.bool (nH e xs)),t']):=by
 intro w
 induction w with
 |nil=>intro i q e t _;exact⟨t,rfl⟩
 |cons c xs ih=>
  intro i q e t h
  obtain⟨t',ih⟩:=ih (i+1) (.int i) (jO e c) (.val (.str (tx [c]))) λc m=>h c (f5 _ m)
  refine⟨t',?_⟩
  show(Aq.body.ev Φ [.val (.str y),.val (.int i),.val (.bool e),.val (.str (tx [c]))]).bind (λy2=>(lT Aq.tg.bind (Aq.body.ev Φ) (bP (i+1) (xs.map λc=>.str (tx [c]))) y2.2).map λz=>(y2.1++z.1,z.2))=_
  rw[Cb e (h c eF)]
  show(lT _ _ _ [.val (.str y),.val (.int i),.val (.bool (jO e c)),.val (.str (tx [c]))]).map _=_
  rw[ih]
  show some (_,_)=some (_,_)
  rw[sU,List.map_append];rfl
def Atom(a:List Nat):Prop:=a=[34]\/a=[40]\/a=[41]\/∃c,yX c/\a=[92,c]
noncomputable def dX:List (List Nat)->Prop
 | []=>True
 |a::r=>(Atom a/\dX r)\/(a=[92]/\r=[])
noncomputable def itemsOf:Nat->List (List Nat)->List (Nat×List Nat)
 |_,[]=>[]
 |i,a::r=>(i+a.length-1,a)::itemsOf (i+a.length) r
theorem uW:∀{as:List (List Nat)},dX as->∀c∈as.flatten,yX c:=by
 intro w
 induction w with
 |nil=>intro _ _ m;exact nomatch m
 |cons a r ih=>
  intro h c m
  rw[List.flatten_cons]at m
  rcases h with⟨h,hr⟩|⟨h,hr⟩
  ·rcases List.mem_append.mp m with m|m
   ·rcases h with rfl|rfl|rfl|⟨d,hd,rfl⟩
    ·rw[fG m];exact .inl rfl
    ·rw[fG m];exact .inr (.inl rfl)
    ·rw[fG m];exact .inr (.inr (.inl rfl))
    ·rcases eX m with rfl|m
     ·exact .inr (.inr (.inr rfl))
     ·rw[fG m];exact hd
   ·exact ih hr c m
  ·subst h hr
   rw[List.flatten_nil,List.append_nil]at m
   rw[fG m];exact .inr (.inr (.inr rfl))
def qW(i:Nat)(q:PV)(xs:List Nat):List PV:=(sU i false xs).map cF++bif nH false xs then [.tup [endPos i q xs,.str (tx [92])]]else []
theorem zy:∀(as:List (List Nat)) (i:Nat) (q:PV),dX as->qW i q as.flatten=(itemsOf i as).map cF:=by
 intro w
 induction w with
 |nil=>intros;exact rfl
 |cons a r ih=>
  intro i q h
  rcases h with⟨h,hr⟩|⟨h,hr⟩
  ·have st:∃q',qW i q (a++r.flatten)=cF (i+a.length-1,a)::qW (i+a.length) q' r.flatten:=by
    rcases h with rfl|rfl|rfl|⟨c,hc,rfl⟩
    ·exact⟨.int i,rfl⟩
    ·exact⟨.int i,rfl⟩
    ·exact⟨.int i,rfl⟩
    ·rcases hc with rfl|rfl|rfl|rfl<;>exact⟨.int ((i+1:Nat):Int),rfl⟩
   obtain⟨q',e⟩:=st
   rw[List.flatten_cons,e,ih (i+a.length) q' hr];rfl
  ·subst h hr;rfl
theorem qX{k:Nat}{as:List (List Nat)}(h:dX as):(eO.d9 (k+1)).gen 0 [.str (tx as.flatten)]=some ((itemsOf 0 as).map cF):=by
 obtain⟨t',ih⟩:=Ca (Φ:=eO.d9 k) (y:=tx as.flatten) as.flatten 0 (.int 0) false .unset (uW h)
 show(lT Aq.tg.bind (Aq.body.ev (eO.d9 k)) (bP 0 (signs (tx as.flatten))) [.val (.str (tx as.flatten)),.val (.int 0),.val (.bool false),.unset]).bind (λr=>(Aq.post.ev (eO.d9 k) r.2).map λq=>r.1++q.1)=_
 rw[show signs (tx as.flatten)=as.flatten.map λc=>PV.str (tx [c])from rfl,ih,<-zy as 0 (.int 0) h]
 unfold qW
 generalize endPos 0 (.int 0) as.flatten=q
 generalize tx as.flatten=y
 show((Aq.post.ev (eO.d9 k) [.val (.str y),.val q,.val (.bool (nH false as.flatten)),t']).map λp=>(sU 0 false as.flatten).map cF++p.1)=_
 cases nH false as.flatten with
 |true=>rfl
 |false=>rfl
noncomputable def iS:Int->List (List Nat)->Bool
 |o,[]=>o==0
 |o,c::cs=>if c=[40]then iS (o+1) cs else if c=[41]then(if o-1<0 then false else iS (o-1) cs)else iS o cs
def Item(l:List Nat):Prop:=∃c,yX c/\(l=[c]\/l=[92,c])
theorem zj{l:List Nat}(h:Item l)(h1:l≠[40])(h2:l≠[41]){Φ:bO}{s0 s2:Slot}{o:PV}:zf.ex Φ [s0,.val o,s2,.val (.str (tx l))]=some (.next [s0,.val o,s2,.val (.str (tx l))]):=by
 obtain⟨c,hc,q⟩:=h
 rcases hc with rfl|rfl|rfl|rfl<;>rcases q with rfl|rfl<;>first|exact absurd rfl h1|exact absurd rfl h2|kernel_rfl
abbrev CT:=(Ac (sc:=D1.sc nm) [⟨2,"pos",(qz 199 8 11)⟩,⟨3,"ch",(qz 199 13 15)⟩] 0 (qz 199 8 15)).bind
theorem Bk{Φ:bO}{s0:Slot}:∀(its:List (Nat×List Nat)) (o:Int) (s2 s3:Slot),(∀x∈its,Item x.2)->(loopGo CT (zf.ex Φ) (its.map cF) [s0,.val (.int o),s2,s3]=some (.ret (.bool false))/\iS o (its.map (·.2))=false)\/
  ∃o' s2' Se,loopGo CT (zf.ex Φ) (its.map cF) [s0,.val (.int o),s2,s3]=some (.next [s0,.val (.int o'),s2',Se])/\iS o (its.map (·.2))=(o'==0):=by
 intro w
 induction w with
 |nil=>intro o s2 s3 _;exact .inr ⟨o,s2,s3,rfl,rfl⟩
 |cons il its ih=>
  intro o s2 s3 h
  obtain⟨i,l⟩:=il
  have hb:CT (cF (i,l)) [s0,.val (.int o),s2,s3]=some [s0,.val (.int o),.val (.int i),.val (.str (tx l))]:=rfl
  have hr:=λx m=>h x (f5 _ m)
  rw[List.map_cons,List.map_cons]
  show(_/\iS o (l::its.map (·.2))=false)\/∃o' s2' Se,_/\iS o (l::its.map (·.2))=_
  unfold iS
  by_cases h1:l=[40]
  ·subst h1
   rw[if_pos rfl,cz hb (show zf.ex Φ _=some (.next [s0,.val (.int (o+1)),.val (.int i),.val (.str (tx [40]))]) by kernel_rfl)]
   exact ih _ _ _ hr
  ·rw[if_neg h1]
   by_cases h2:l=[41]
   ·subst h2
    rw[if_pos rfl]
    have e:zf.ex Φ [s0,.val (.int o),.val (.int i),.val (.str (tx [41]))]=bif decide (o-1<0)then some (.ret (.bool false))else some (.next [s0,.val (.int (o-1)),.val (.int i),.val (.str (tx [41]))]):=by
     show f7 (f7 (f7 (bif decide (o-1<0)then some (.ret (.bool false))else some (.next [s0,.val (.int (o-1)),.val (.int i),.val (.str (tx [41]))])) λσ=>some (.next σ)) λσ=>some (.next σ)) (λσ=>some (.next σ))=_
     cases decide (o-1<0)<;>rfl
    by_cases q:o-1<0
    ·rw[eT q]at e
     rw[if_pos q]
     exact .inl ⟨CZ hb e,rfl⟩
    ·rw[eE q]at e
     rw[if_neg q,cz hb e]
     exact ih _ _ _ hr
   ·rw[if_neg h2,cz hb (zj (h _ eF) h1 h2)]
    exact ih _ _ _ hr
theorem JD{Φ:bO}{xs:List Nat}{y:Str}{its:List (Nat×List Nat)}(h0:Φ.fn 0 [.str (tx xs)]=some (.str y))(hg:Φ.gen 0 [.str y]=some (its.map cF))(hi:∀x∈its,Item x.2):aG D1 c1 Φ [.str (tx xs)]=some (.bool (iS 0 (its.map (·.2)))):=by
 have e:c1.ex Φ [.val (.str (tx xs)),.unset,.unset,.unset]=some (.ret (.bool (iS 0 (its.map (·.2))))):=by
  refine ao (σ':=[.val (.str y),.unset,.unset,.unset]) (mp h0) (ao (σ':=[.val (.str y),.val (.int 0),.unset,.unset]) rfl ?_)
  rcases Bk (Φ:=Φ) (s0:=.val (.str y)) its 0 .unset .unset hi with⟨q1,q2⟩|⟨o',s2',Se,q1,q2⟩
  ·rw[q2];exact cW (bnd hg q1)
  ·rw[q2];exact ao (bnd hg q1) rfl
 show(c1.ex Φ [.val (.str (tx xs)),.unset,.unset,.unset]).bind _=_
 rw[e];rfl
abbrev yM:=(Ac (sc:=D0.sc nm) [⟨4,"pos",(qz 184 8 11)⟩,⟨5,"ch",(qz 184 13 15)⟩] 0 (qz 184 8 15)).bind
noncomputable def sA:Option (List (List Nat))->List (List Nat)->List (List Nat)
 |none,[]=>[]
 |none,a::r=>if a=[34]then sA (some [a]) r else a::sA none r
 |some p,[]=>p
 |some p,a::r=>if a=[34]then sA none r else sA (some (p++[a])) r
section
variable{Φ:bO}
theorem RJ{sc:SC}{σ:List Slot}{pos:Pos}{t:SB sc}{A:SL sc}(e:t.ev Φ σ=some false):(SS.ite t A .nil pos).ex Φ σ=some (.next σ):=oY e rfl
theorem RK{sc:SC}{σ:List Slot}{pos:Pos}{t:SB sc}{A B:SL sc}{o:Option Out}(e:t.ev Φ σ=some true)(h:A.ex Φ σ=o):(SS.ite t A B pos).ex Φ σ=o:=oY e h
theorem GR{sc:SC}{σ σ':List Slot}{s:SS sc}(e:s.ex Φ σ=some (.next σ')):(SL.cons s .nil).ex Φ σ=some (.next σ'):=ao e rfl
theorem str_is(a b:List Nat):((tx a==tx b):Bool)=decide (a=b):=by
 rw[Lp]
 by_cases h:a=b
 ·rw[eT h,h,beq_self_eq_true]
 ·rw[eE h,beq_eq_false_iff_ne.mpr h]
def bV(xs:List (List Nat)):List PV:=xs.map λl=>.str (tx l)
theorem gY(a:List (List Nat)):(bV a).length=a.length:=List.length_map _
theorem AK{s0 s1 s2 s3:Slot}{i:Int}{l:List Nat}(h:l≠[34]):ze.ex Φ [s0,s1,s2,s3,.val (.int i),.val (.str (tx l))]=some (.next [s0,s1,s2,s3,.val (.int i),.val (.str (tx l))]):=by
 have e1:(tx l==("\"":Str))=false:=(str_is l [34]).trans (eE h)
 show f7 (bif (tx l==("\"":Str))then _ else some (.next _)) _=_
 rw[e1];rfl
theorem Jv{s0 s1 s3:Slot}{i:Int}:ze.ex Φ [s0,s1,.val .none,s3,.val (.int i),.val (.str (tx [34]))]=some (.next [s0,s1,.val (.int i),s3,.val (.int i),.val (.str (tx [34]))]):=by kernel_rfl
theorem Fg{xs:List Nat}{st op i:Nat}{acc:List (List Nat)}(hz:xs.length<=1000)(hs:st<=op)(ho:op<=xs.length)(ha:acc.length<=100000):
  ze.ex Φ [.val (.str (tx xs)),.val (.int st),.val (.int op),.own (bV acc),.val (.int i),.val (.str (tx [34]))]=some (.next [.val (.str (tx xs)),.val (.int (i+1:Nat)),.val .none,.own (bV (if st=op then acc else acc++[(xs.drop st).take (op-st)])),.val (.int i),.val (.str (tx [34]))]):=by
 refine ao ((kO (k:=true) (by kernel_rfl)).trans (ao ((kO (k:=false) rfl).trans ?_) rfl)) rfl
 refine ao (σ':=[.val (.str (tx xs)),.val (.int st),.val (.int op),.own (bV (if st=op then acc else acc++[(xs.drop st).take (op-st)])),.val (.int i),.val (.str (tx [34]))]) ?_ rfl
 by_cases h:st=op
 ·subst h
  rw[if_pos rfl]
  exact RJ (cE (x:=.int st) (y:=.int st) rfl rfl (by show some (!((st:Int)==st))=_;rw[beq_self_eq_true];rfl))
 ·rw[if_neg h]
  refine RK (cE (x:=.int st) (y:=.int op) rfl rfl (by show some (!((st:Int)==op))=some true;rw[beq_eq_false_iff_ne.mpr (by lia)];rfl)) (GR ?_)
  have l1:((tx xs).length:Nat)<=1000000:=by rw[fF];lia
  have l2:(bV acc).length<=1000000:=by rw[gY];lia
  refine bnd (a:=PV.str (tx ((xs.drop st).take (op-st)))) ((av (aV l1)).trans (congrArg (λx=>some (PV.str x)) (BD (by lia) ho))) ((av (aV l2)).trans ?_)
  unfold bV;rw[List.map_append];rfl
theorem uG{xs:List Nat}{st i n:Nat}(h:st<=i):(xs.drop st).take (i+n-st)=(xs.drop st).take (i-st)++(xs.drop i).take n:=by
 rw[Nat.sub_add_comm h,List.take_add,List.drop_drop,Nat.add_sub_cancel' h]
theorem BK{xs:List Nat}{st o:Nat}(h:st<=o):xs.drop st=(xs.drop st).take (o-st)++xs.drop o:=by
 have:=List.take_append_drop (o-st) (xs.drop st)
 rw[List.drop_drop,show st+(o-st)=o by lia]at this
 exact this.symm
noncomputable def VY:Option (Nat×List (List Nat))->PV
 |none=>.none
 |some x=>.int (x.1:Int)
noncomputable def Inv(xs:List Nat)(i st:Nat)(acc:List (List Nat))(V:List Nat):Option (Nat×List (List Nat))->Prop
 |none=>st<=i/\acc.flatten++(xs.drop st).take (i-st)=V
 |some x=>st<=x.1/\x.1<=i/\acc.flatten++(xs.drop st).take (x.1-st)=V/\(xs.drop x.1).take (i-x.1)=x.2.flatten
inductive AD(Φ:bO)(xs:List Nat)(as:List (List Nat))(i st:Nat)(op:Option (Nat×List (List Nat)))(acc:List (List Nat))(V:List Nat)(s4 s5:Slot):Prop
 |mk (st':Nat) (acc':List (List Nat)) (s2:Slot) (t4:Slot) (t5:Slot) (h0:loopGo yM (ze.ex Φ) ((itemsOf i as).map cF) [.val (.str (tx xs)),.val (.int st),.val (VY op),.own (bV acc),s4,s5]=some (.next [.val (.str (tx xs)),.val (.int (st':Nat)),s2,.own (bV acc'),t4,t5])) (h1:(acc'++[xs.drop st']).flatten=V++(sA (op.map (·.2)) as).flatten) (h2:acc'.length<=acc.length+as.length):AD Φ xs as i st op acc V s4 s5
theorem wZ{xs:List Nat}(hz:xs.length<=1000):∀(as:List (List Nat)) (i st:Nat) (op:Option (Nat×List (List Nat))) (acc:List (List Nat)) (V:List Nat) (s4 s5:Slot),Inv xs i st acc V op->xs.drop i=as.flatten->i<=xs.length->acc.length+as.length<=5000->
  AD Φ xs as i st op acc V s4 s5:=by
 intro as
 induction as with
 |nil=>
  intro i st op acc V s4 s5 h hd hi ha
  cases op with
  |none=>
   refine⟨st,acc,_,s4,s5,rfl,?_,Nat.le_add_right _ _⟩
   have e:xs.length<=i:=List.drop_eq_nil_iff.mp hd
   rw[List.flatten_append,List.flatten_singleton,<-h.2,List.take_of_length_le (by rw[List.length_drop];exact Nat.sub_le_sub_right e st)]
   exact(List.append_nil _).symm
  |some x=>
   obtain⟨o,p⟩:=x
   refine⟨st,acc,_,s4,s5,rfl,?_,Nat.le_add_right _ _⟩
   have e:xs.length<=i:=List.drop_eq_nil_iff.mp hd
   obtain⟨h1,h2,h3,h4⟩:=h
   show _=V++p.flatten
   rw[List.flatten_append,List.flatten_singleton,<-h3,<-h4,List.take_of_length_le (l:=xs.drop o) (by rw[List.length_drop];exact Nat.sub_le_sub_right e o),List.append_assoc]
   exact congrArg (acc.flatten++·) (BK h1)
 |cons a r ih=>
  intro i st op acc V s4 s5 h hd hi ha
  rw[List.flatten_cons]at hd
  rw[List.length_cons]at ha
  have hl:a.length+r.flatten.length=xs.length-i:=by rw[<-ay,<-hd,List.length_drop]
  have hle:i+a.length<=xs.length:=Nat.add_le_of_le_sub' hi (hl▸Nat.le_add_right _ _)
  have hd':xs.drop (i+a.length)=r.flatten:=by rw[<-List.drop_drop,hd,List.drop_left]
  have ht:(xs.drop i).take a.length=a:=by rw[hd,List.take_left]
  by_cases q:a=[34]
  ·subst q
   have e0:i+[34].length-1=i:=by show i+1-1=i;lia
   cases op with
   |none=>
    obtain⟨h1,h2⟩:=h
    obtain⟨st',acc',s2,t4,t5,e,e2,e3⟩:=ih (i+[34].length) st (some (i,[[34]])) acc V (.val (.int i)) (.val (.str (tx [34]))) ⟨h1,Nat.le_add_right _ _,h2,by rw[Nat.add_sub_cancel_left];exact ht⟩ hd' hle (by lia)
    refine⟨st',acc',s2,t4,t5,?_,e2.trans (by rw[show sA ((none:Option (Nat×List (List Nat))).map (·.2)) ([34]::r)=sA (some [[34]]) r from if_pos rfl];rfl),by rw[List.length_cons];lia⟩
    show loopGo yM _ (cF (i+[34].length-1,[34])::(itemsOf (i+[34].length) r).map cF) _=_
    rw[e0]
    exact jY rfl Jv e
   |some x=>
    obtain⟨o,p⟩:=x
    obtain⟨h1,h2,h3,h4⟩:=h
    have h1:st<=o:=h1
    have h2:o<=i:=h2
    obtain⟨st',acc',s2,t4,t5,e,e2,e3⟩:=ih (i+[34].length) (i+1) none (if st=o then acc else acc++[(xs.drop st).take (o-st)]) V (.val (.int i)) (.val (.str (tx [34]))) ⟨Nat.le_refl _,by
     rw[show i+[34].length-(i+1)=0 by show i+1-(i+1)=0;lia,List.take_zero,List.append_nil,<-h3]
     by_cases z:st=o
     ·subst z;rw[if_pos rfl];show _=acc.flatten++List.take (st-st) _;rw[Nat.sub_self,List.take_zero,List.append_nil]
     ·rw[if_neg z,List.flatten_append,List.flatten_singleton]⟩ hd' hle (by split<;>(try rw[ay,List.length_singleton])<;>lia)
    refine⟨st',acc',s2,t4,t5,?_,e2.trans (by rw[show sA ((some (o,p)).map (·.2)) ([34]::r)=sA none r from if_pos rfl];rfl),?_⟩
    ·show loopGo yM _ (cF (i+[34].length-1,[34])::(itemsOf (i+[34].length) r).map cF) _=_
     rw[e0]
     exact jY rfl (Fg hz h1 (by lia) (by lia)) e
    ·revert e3
     rw[List.length_cons]
     split
     ·lia
     ·rw[ay,List.length_singleton];lia
  ·cases op with
   |none=>
    obtain⟨h1,h2⟩:=h
    obtain⟨st',acc',s2,t4,t5,e,e2,e3⟩:=ih (i+a.length) st none acc (V++a) (.val (.int (i+a.length-1:Nat))) (.val (.str (tx a))) ⟨by lia,by rw[uG h1,ht,<-h2,List.append_assoc]⟩ hd' hle (by lia)
    refine⟨st',acc',s2,t4,t5,jY rfl (AK q) e,e2.trans ?_,by rw[List.length_cons];lia⟩
    rw[show sA ((none:Option (Nat×List (List Nat))).map (·.2)) (a::r)=a::sA none r from if_neg q,List.flatten_cons,List.append_assoc];rfl
   |some x=>
    obtain⟨o,p⟩:=x
    obtain⟨h1,h2,h3,h4⟩:=h
    have h2:o<=i:=h2
    obtain⟨st',acc',s2,t4,t5,e,e2,e3⟩:=ih (i+a.length) st (some (o,p++[a])) acc V (.val (.int (i+a.length-1:Nat))) (.val (.str (tx a))) ⟨h1,Nat.le_trans h2 (Nat.le_add_right _ _),h3,by rw[uG h2,ht,h4,List.flatten_append,List.flatten_singleton]⟩ hd' hle (by lia)
    refine⟨st',acc',s2,t4,t5,jY rfl (AK q) e,e2.trans ?_,by rw[List.length_cons];lia⟩
    rw[show sA ((some (o,p)).map (·.2)) (a::r)=sA (some (p++[a])) r from if_neg q];rfl
end
section
variable{Φ:bO}
theorem yN:∀l:List (List Nat),DM rZ (bV l)=some (l.map tx)
 | []=>rfl
 |x::l=>by
  show(DM rZ (bV l)).map (tx x::·)=_
  rw[yN l];rfl
theorem Hr:∀l:List (List Nat),rU (l.map tx)=l.flatten.length:=by
 intro w
 induction w with
 |nil=>exact rfl
 |cons x l ih=>
  have ih:=ih
  unfold rU at ih⊢
  rw[List.map_cons,List.map_cons,List.sum_cons,ih,List.flatten_cons,ay,fF]
theorem Fl(l:List (List Nat)):Bf (l.map tx)=tx l.flatten:=by
 have h:∀l:List (List Nat),(l.map tx).flatMap (λx=>x.cps.toList)=l.flatten:=λl=>by
  induction l with
  |nil=>rfl
  |cons x l ih=>rw[List.map_cons,List.flatMap_cons,ih];rfl
 exact congrArg (λx:List Nat=>(⟨x.toArray⟩:Str)) (h l)
theorem nZ{l:List (List Nat)}(h:l.flatten.length<=1000000):joinM.f (.str "") [.lst (bV l)]=some (.str (tx l.flatten)):=by
 show(DM rZ (bV l)).bind _=_
 rw[yN,<-Fl]
 exact av (aV (by rw[Hr];exact h))
theorem pH{xs:List Nat}:Txt.contains (tx xs) ("\"":Str)=decide (34∈xs):=by
 have:=StrLaws.found_one (tx xs) 34
 unfold Txt.contains
 rw[show("\"":Str)=(⟨#[34]⟩:Str)from rfl,this]
 rfl
theorem uE{xs:List Nat}(h:34∉xs):aG D0 c0 Φ [.str (tx xs)]=some (.str (tx xs)):=by
 have e:c0.ex Φ [.val (.str (tx xs)),.unset,.unset,.unset,.unset,.unset]=some (.ret (.str (tx xs))):=
  cW ((kO (k:=true) (by show some (!Txt.contains (tx xs) ("\"":Str))=some true;rw[pH,eE h];rfl)).trans rfl)
 show(c0.ex Φ [.val (.str (tx xs)),.unset,.unset,.unset,.unset,.unset]).bind _=_
 rw[e];rfl
theorem Ab{xs:List Nat}{its:List PV}{acc:List (List Nat)}{st:Nat}{s2 t4 t5:Slot}(h:34∈xs)(hg:Φ.gen 0 [.str (tx xs)]=some its)(hz:xs.length<=1000)(ha:acc.length<=5000)(hf:(acc++[xs.drop st]).flatten.length<=1000000)
  (hl:loopGo yM (ze.ex Φ) its [.val (.str (tx xs)),.val (.int 0),.val .none,.own [],.unset,.unset]=some (.next [.val (.str (tx xs)),.val (.int st),s2,.own (bV acc),t4,t5])):
  aG D0 c0 Φ [.str (tx xs)]=some (.str (tx (acc++[xs.drop st]).flatten)):=by
 have e:c0.ex Φ [.val (.str (tx xs)),.unset,.unset,.unset,.unset,.unset]=some (.ret (.str (tx (acc++[xs.drop st]).flatten))):=by
  refine ao (σ':=[.val (.str (tx xs)),.unset,.unset,.unset,.unset,.unset]) ((kO (k:=false) (by show some (!Txt.contains (tx xs) ("\"":Str))=some false;rw[pH,eT h];rfl)).trans rfl) ?_
  refine ao (σ':=[.val (.str (tx xs)),.val (.int 0),.unset,.unset,.unset,.unset]) rfl (ao (σ':=[.val (.str (tx xs)),.val (.int 0),.val .none,.unset,.unset,.unset]) rfl (ao (σ':=[.val (.str (tx xs)),.val (.int 0),.val .none,.own [],.unset,.unset]) rfl ?_))
  refine ao (bnd hg hl) ?_
  have hx:((tx xs).length:Nat)<=1000000:=by rw[fF];lia
  have ht:∀b,decide ((st:Int)<xs.length)=b->(SB.cmp zN (SE.x (v (sc:=D0.sc nm) 1 "start" (qz 193 7 12))) (SE.x (bi jX [(v 0 "addr" (qz 193 19 23))] (qz 193 15 18) (qz 193 15 24))) (qz 193 7 24)).ev Φ [.val (.str (tx xs)),.val (.int st),s2,.own (bV acc),t4,t5]=some b:=λb hb=>by
   refine cE (x:=.int st) (y:=.int xs.length) rfl ?_ (congrArg some hb)
   refine(av (aV hx)).trans ?_
   rw[fF]
  have hlen:(bV acc).length<=1000000:=by rw[gY];lia
  by_cases hst:st<xs.length
  ·refine ao (σ':=[.val (.str (tx xs)),.val (.int st),s2,.own (bV (acc++[xs.drop st])),t4,t5]) ((kO (k:=true) (ht true (eT (Int.ofNat_lt.mpr hst)))).trans (ao (bnd (a:=PV.str (tx (xs.drop st))) ((av (aV hx)).trans (congrArg (λx=>some (PV.str x)) (zu (Nat.le_of_lt hst)))) ((av (aV hlen)).trans ?_)) rfl)) ?_
   ·unfold bV;rw[List.map_append];rfl
   ·exact cW (mp (nZ hf))
  ·have e0:xs.drop st=[]:=List.drop_eq_nil_iff.mpr (by lia)
   have e1:(acc++[xs.drop st]).flatten=acc.flatten:=by rw[e0,List.flatten_append,List.flatten_singleton,List.append_nil]
   rw[e1]at hf⊢
   refine ao (σ':=[.val (.str (tx xs)),.val (.int st),s2,.own (bV acc),t4,t5]) ((kO (k:=false) (ht false (eE (by lia)))).trans rfl) ?_
   exact cW (mp (nZ hf))
 show(c0.ex Φ [.val (.str (tx xs)),.unset,.unset,.unset,.unset,.unset]).bind _=_
 rw[e];rfl
end
theorem gj:∀{p q:List (List Nat)},(∀a∈p,Atom a)->dX q->dX (p++q):=by
 intro w
 induction w with
 |nil=>intro _ _ h;exact h
 |cons a p ih=>intro q hp h;exact .inl ⟨hp a eF,ih (λb m=>hp b (f5 _ m)) h⟩
theorem za{p:List (List Nat)}(hp:∀a∈p,Atom a):dX p:=by
 have:=gj hp (q:=[]) trivial
 rw[List.append_nil]at this;exact this
theorem DK:∀(as:List (List Nat)) (op:Option (List (List Nat))),dX as->(∀p,op=some p->∀a∈p,Atom a)->dX (sA op as):=by
 intro w
 induction w with
 |nil=>
  intro v
  cases v with
  |none=>intros;exact trivial
  |some p=>intro _ hp;exact za (hp p rfl)
 |cons a r ih=>
  intro v
  cases v with
  |none=>
   intro h hp
   by_cases q:a=[34]
   ·rw[show sA none (a::r)=sA (some [a]) r from if_pos q]
    rcases h with⟨h,hr⟩|⟨h,hr⟩
    ·exact ih _ hr λp e b m=>by
      cases e;rw[fG m];exact h
    ·rw[h]at q;exact absurd q (by decide)
   ·rw[show sA none (a::r)=a::sA none r from if_neg q]
    rcases h with⟨h,hr⟩|⟨h,hr⟩
    ·exact .inl ⟨h,ih none hr hp⟩
    ·subst hr;exact .inr ⟨h,rfl⟩
  |some p=>
   intro h hp
   by_cases q:a=[34]
   ·rw[show sA (some p) (a::r)=sA none r from if_pos q]
    rcases h with⟨h,hr⟩|⟨h,hr⟩
    ·exact ih none hr λp e=>nomatch e
    ·rw[h]at q;exact absurd q (by decide)
   ·rw[show sA (some p) (a::r)=sA (some (p++[a])) r from if_neg q]
    rcases h with⟨h,hr⟩|⟨h,hr⟩
    ·exact ih _ hr λp' e b m=>by
      cases e
      rcases List.mem_append.mp m with m|m
      ·exact hp p rfl b m
      ·rw[fG m];exact h
    ·subst hr h
     exact gj (hp p rfl) (.inr ⟨rfl,rfl⟩)
theorem Le:∀(as:List (List Nat)) (op:Option (List (List Nat))),(sA op as).flatten.length<=(op.getD []).flatten.length+as.flatten.length:=by
 intro w
 induction w with
 |nil=>
  intro v
  cases v with
  |none=>exact Nat.le_refl _
  |some p=>exact Nat.le_add_right _ _
 |cons a r ih=>
  intro v
  cases v with
  |none=>
   rw[List.flatten_cons,ay]
   by_cases q:a=[34]
   ·rw[show sA none (a::r)=sA (some [a]) r from if_pos q]
    have:=ih (some [a])
    rw[show((some [a]:Option (List (List Nat))).getD []).flatten=a from List.flatten_singleton]at this
    show _<=0+_
    lia
   ·rw[show sA none (a::r)=a::sA none r from if_neg q,List.flatten_cons,ay]
    have:=ih none
    have e:((none:Option (List (List Nat))).getD []).flatten.length=0:=rfl
    lia
  |some p=>
   rw[List.flatten_cons,ay]
   have e:((some p:Option (List (List Nat))).getD []).flatten.length=p.flatten.length:=rfl
   by_cases q:a=[34]
   ·rw[show sA (some p) (a::r)=sA none r from if_pos q]
    have:=ih none
    have e:((none:Option (List (List Nat))).getD []).flatten.length=0:=rfl
    lia
   ·rw[show sA (some p) (a::r)=sA (some (p++[a])) r from if_neg q]
    have:=ih (some (p++[a]))
    have e2:((some (p++[a]):Option (List (List Nat))).getD []).flatten.length=p.flatten.length+a.length:=by show(p++[a]).flatten.length=_;rw[List.flatten_append,List.flatten_singleton,ay]
    lia
theorem yL:∀(as:List (List Nat)),(∀a∈as,a≠[34])->sA none as=as
 | [],_=>rfl
 |a::r,h=>by
  rw[show sA none (a::r)=a::sA none r from if_neg (h a eF),yL r λb m=>h b (f5 _ m)]
theorem VP(k:Nat)(ps:List PV):(eO.d9 (k+2)).fn 0 ps=aG D0 c0 (eO.d9 (k+1)) ps:=by kernel_rfl
theorem VQ(k:Nat)(ps:List PV):(eO.d9 (k+3)).fn 1 ps=aG D1 c1 (eO.d9 (k+2)) ps:=by kernel_rfl
theorem Ed{k:Nat}{as:List (List Nat)}(h:dX as)(hz:as.flatten.length<=1000)(hn:as.length<=1000):(eO.d9 (k+2)).fn 0 [.str (tx as.flatten)]=some (.str (tx (sA none as).flatten)):=by
 rw[VP]
 by_cases q:34∈as.flatten
 ·obtain⟨st',acc',s2,t4,t5,e,e2,e3⟩:=wZ (Φ:=eO.d9 (k+1)) hz as 0 0 none [] [] .unset .unset ⟨Nat.le_refl _,rfl⟩ rfl (Nat.zero_le _) (by rw[List.length_nil];lia)
  rw[List.nil_append]at e2
  have l:=Le as none
  rw[List.length_nil,Nat.zero_add]at e3
  have z:((none:Option (List (List Nat))).getD []).flatten.length=0:=rfl
  have w:=Ab q (qX h) hz (acc:=acc') (st:=st') (by lia) (by rw[e2];show(sA none as).flatten.length<=_;lia) e
  rw[e2]at w
  exact w
 ·rw[yL as λa m e=>q (List.mem_flatten.mpr ⟨a,m,by rw[e];exact eF⟩)]
  exact uE q
theorem pK:∀(as:List (List Nat)) (i:Nat),(itemsOf i as).map (·.2)=as
 | [],_=>rfl
 |a::r,i=>congrArg (a::·) (pK r _)
theorem we:∀(as:List (List Nat)) (i:Nat),dX as->∀x∈itemsOf i as,Item x.2:=by
 intro w
 induction w with
 |nil=>intro _ _ _ m;exact nomatch m
 |cons a r ih=>
  intro i h x m
  rcases h with⟨h,hr⟩|⟨h,hr⟩
  ·rcases eX m with rfl|m
   ·rcases h with h|h|h|⟨c,hc,h⟩
    ·exact⟨34,.inl rfl,.inl h⟩
    ·exact⟨40,.inr (.inl rfl),.inl h⟩
    ·exact⟨41,.inr (.inr (.inl rfl)),.inl h⟩
    ·exact⟨c,hc,.inr h⟩
   ·exact ih _ hr x m
  ·subst hr
   rw[fG m]
   exact⟨92,.inr (.inr (.inr rfl)),.inl h⟩
theorem Bj{k:Nat}{as:List (List Nat)}(h:dX as)(hz:as.flatten.length<=1000)(hn:as.length<=1000):(eO.d9 (k+3)).fn 1 [.str (tx as.flatten)]=some (.bool (iS 0 (sA none as))):=by
 have g:=DK as none h λp e=>nomatch e
 have:=JD (Φ:=eO.d9 (k+2)) (Ed (k:=k) h hz hn) (qX (k:=k+1) g) (we _ 0 g)
 rw[pK]at this
 rw[VQ];exact this
noncomputable def bad:List Nat:=[40,39,39,44,32,39,39,41]
def said(x:List Nat×Bool):List Nat:=bif x.2 then x.1 else bad
abbrev O1:=(rV (sc:=D2.sc nm) ⟨2,"v",(qz 209 8 9)⟩).bind
theorem Eu{Φ:bO}{s0:Slot}:∀(ls:List (List Nat×Bool)) (acc:List (List Nat)) (t:Slot),(∀x∈ls,Φ.fn 1 [.str (tx x.1)]=some (.bool x.2))->acc.length+ls.length<=1000->
  ∃t',loopGo O1 (M0.ex Φ) (bV (ls.map (·.1))) [s0,.own (bV acc),t]=some (.next [s0,.own (bV (acc++ls.map said)),t']):=by
 intro w
 induction w with
 |nil=>intro acc t _ _;exact⟨t,by rw[show acc++([]:List (List Nat×Bool)).map said=acc from List.append_nil _];rfl⟩
 |cons x ls ih=>
  intro acc t h hz
  obtain⟨t',ih⟩:=ih (acc++[said x]) (.val (.str (tx (said x)))) (λx m=>h x (f5 _ m)) (by rw[ay];simp only[List.length_cons,List.length_nil]at hz⊢;lia)
  refine⟨t',jY (σ₂:=[s0,.own (bV (acc++[said x])),.val (.str (tx (said x)))]) rfl (ao (σ':=[s0,.own (bV acc),.val (.str (tx (said x)))]) (oY (k:=!x.2) ?_ ?_) (ao ?_ rfl)) ?_⟩
  ·refine mp (f:=λb=>!b) (bnd (h x eF) ?_)
   rfl
  ·obtain⟨x1,x2⟩:=x
   cases x2<;>rfl
  ·refine(av (aV ?_)).trans ?_
   ·unfold bV;rw[List.length_map];simp only[List.length_cons]at hz;lia
   ·unfold bV;rw[List.map_append];rfl
  ·refine ih.trans ?_
   rw[List.append_assoc];rfl
theorem Lx{Φ:bO}{ls:List (List Nat×Bool)}(h:∀x∈ls,Φ.fn 1 [.str (tx x.1)]=some (.bool x.2))(hz:ls.length<=1000):aG D2 c2 Φ [.lst (bV (ls.map (·.1)))]=some (.lst (bV (ls.map said))):=by
 obtain⟨t',ih⟩:=Eu (Φ:=Φ) (s0:=.val (.lst (bV (ls.map (·.1))))) ls [] .unset h (by rw[List.length_nil,Nat.zero_add];exact hz)
 revert ih
 generalize bV (ls.map (·.1))=L
 intro ih
 have e1:M1.ex Φ [.val (.lst L),.own [],.unset]=_:=ih
 have e:c2.ex Φ [.val (.lst L),.unset,.unset]=some (.ret (.lst (bV (ls.map said)))):=
  ao (σ':=[.val (.lst L),.own [],.unset]) rfl (ao e1 rfl)
 show(c2.ex Φ [.val (.lst L),.unset,.unset]).bind _=_
 rw[e];rfl
def Cl(u u':List (List Nat)):Prop:=∀v,sA none (u++v)=u'++sA none v
theorem Cl.app{u u' w w':List (List Nat)}(h:Cl u u')(k:Cl w w'):Cl (u++w) (u'++w'):=λv=>by
 rw[List.append_assoc,h,k,List.append_assoc]
theorem vA:Cl [] []:=λ_=>rfl
theorem vB{a:List Nat}(h:a≠[34]):Cl [a] [a]:=λv=>if_neg h
theorem nk{a:List Nat}(h:a≠[34]):∀n,Cl (List.replicate n a) (List.replicate n a):=by
 intro w
 induction w with
 |zero=>exact vA
 |succ n ih=>
  exactλv=>by
   rw[List.replicate_succ,List.cons_append,show sA none (a::(List.replicate n a++v))=a::sA none (List.replicate n a++v)from if_neg h,ih v];rfl
def S8(u:List (List Nat)):Prop:=∀a∈u,a≠[40]/\a≠[41]
theorem Fo:∀{u:List (List Nat)} (_:S8 u) (o:Int) (v:List (List Nat)),iS o (u++v)=iS o v:=by
 intro w
 induction w with
 |nil=>intros;exact rfl
 |cons a u ih=>
  intro h o v
  obtain⟨h1,h2⟩:=h a eF
  rw[<-ih (λb m=>h b (f5 _ m)) o v]
  show(if a=[40]then _ else if a=[41]then _ else _)=_
  rw[if_neg h1,if_neg h2];rfl
theorem nj(n:Nat):∀(o:Int) (v:List (List Nat)),iS o (List.replicate n [40]++v)=iS (o+n) v:=by
 induction n with
 |zero=>intro o v;rw[show o+((0:Nat):Int)=o by lia];rfl
 |succ n ih=>
  intro o v
  rw[List.replicate_succ,List.cons_append]
  show iS (o+1) (List.replicate n [40]++v)=_
  rw[ih,show o+1+(n:Int)=o+((n+1:Nat):Int) by lia]
theorem o7(n:Nat):∀(o:Int) (v:List (List Nat)),(n:Int)<=o->iS o (List.replicate n [41]++v)=iS (o-n) v:=by
 induction n with
 |zero=>intro o v _;rw[show o-((0:Nat):Int)=o by lia];rfl
 |succ n ih=>
  intro o v h
  rw[List.replicate_succ,List.cons_append]
  show(if o-1<0 then false else iS (o-1) (List.replicate n [41]++v))=_
  rw[if_neg (by lia),ih _ _ (by lia),show o-1-(n:Int)=o-((n+1:Nat):Int) by lia]
theorem Bl(n:Nat):∀(o:Int) (v:List (List Nat)),0<=o->o<n->iS o (List.replicate n [41]++v)=false:=by
 induction n with
 |zero=>intro o v h1 h2;lia
 |succ n ih=>
  intro o v h1 h2
  rw[List.replicate_succ,List.cons_append]
  show(if o-1<0 then false else iS (o-1) (List.replicate n [41]++v))=_
  by_cases q:o-1<0
  ·rw[if_pos q]
  ·rw[if_neg q];exact ih _ _ (by lia) (by lia)
noncomputable def fE(h:List (List Nat))(f:Int):List (List Nat):=h++(List.replicate (3-f).toNat [40]++List.replicate (f-3).toNat [41])
noncomputable def dR(hid:Nat->List (List Nat)):Nat->List Int->List (List Nat)
 |_,[]=>[]
 |p,f::fs=>fE (hid p) f++dR hid (p+1) fs
noncomputable def aB:Int->Int->List Int->Int
 |_,k,[]=>k
 |d,k,f::fs=>aB (d+(3-f)) (max k (-(d+(3-f)))) fs
noncomputable def qS:Int->List Int->Int
 |d,[]=>d
 |d,f::fs=>qS (d+(3-f)) fs
theorem yi:∀(fs:List Int) (d k:Int),k<=aB d k fs:=by
 intro w
 induction w with
 |nil=>intros;exact Int.le_refl _
 |cons f fs ih=>intro d k;exact Int.le_trans (Int.le_max_left ..) (ih (d+(3-f)) (max k (-(d+(3-f)))))
def Hid(u:List (List Nat)):Prop:=∃u',Cl u u'/\S8 u'
theorem HB(f:Int):((3-f).toNat:Int)-((f-3).toNat:Int)=3-f:=by
 rcases Int.le_total f 3 with h|h
 ·rw[Int.toNat_of_nonneg (Int.sub_nonneg_of_le h),Int.toNat_of_nonpos (Int.sub_nonpos_of_le h)];exact Int.sub_zero _
 ·rw[Int.toNat_of_nonneg (Int.sub_nonneg_of_le h),Int.toNat_of_nonpos (Int.sub_nonpos_of_le h)];lia
theorem Er{f:Int}{n:Nat}(h1:3-f<=n)(h2:f-3<=n):(3-f).toNat+(f-3).toNat<=n:=by
 rcases Int.le_total f 3 with h|h
 ·rw[Int.toNat_of_nonpos (Int.sub_nonpos_of_le h)];exact Int.toNat_le.mpr h1
 ·rw[Int.toNat_of_nonpos (Int.sub_nonpos_of_le h),Nat.zero_add];exact Int.toNat_le.mpr h2
theorem Ea{h v:List (List Nat)}{f o:Int}(H:Hid h)(ho:0<=o):iS o (sA none (fE h f++v))=if 0<=o+(3-f)then iS (o+(3-f)) (sA none v)else false:=by
 obtain⟨u',hc,hn⟩:=H
 have c:=hc.app ((nk (a:=[40]) (by decide) (3-f).toNat).app (nk (a:=[41]) (by decide) (f-3).toNat)) v
 unfold fE
 rw[c,List.append_assoc,Fo hn,List.append_assoc,nj]
 have t:=HB f
 generalize(3-f).toNat=a at *
 generalize(f-3).toNat=b at *
 by_cases q:0<=o+(3-f)
 ·rw[if_pos q,o7 _ _ _ (by lia),show o+(a:Int)-(b:Int)=o+(3-f) by lia]
 ·rw[if_neg q,Bl _ _ _ (Int.add_nonneg ho (Int.natCast_nonneg a)) (by lia)]
theorem yK{hid:Nat->List (List Nat)}{v:List (List Nat)}{L:Int}(H:∀p,Hid (hid p)):∀(fs:List Int) (p:Nat) (d k o:Int),o=L+d->0<=o->
  (aB d k fs<=L->iS o (sA none (dR hid p fs++v))=iS (L+qS d fs) (sA none v))/\(k<=L->L<aB d k fs->iS o (sA none (dR hid p fs++v))=false):=by
 intro w
 induction w with
 |nil=>intro p d k o e ho;exact⟨λ_=>by rw[e];rfl,λh1 h2=>absurd (Int.lt_of_le_of_lt h1 h2) (Int.lt_irrefl _)⟩
 |cons f fs ih=>
  intro p d k o e ho
  have g:=yi fs (d+(3-f)) (max k (-(d+(3-f))))
  have s:=Ea (v:=dR hid (p+1) fs++v) (f:=f) (H p) ho
  rw[show dR hid p (f::fs)=fE (hid p) f++dR hid (p+1) fs from rfl,List.append_assoc,s]
  show(aB (d+(3-f)) (max k (-(d+(3-f)))) fs<=L->_=iS (L+qS (d+(3-f)) fs) _)/\(k<=L->L<aB (d+(3-f)) (max k (-(d+(3-f)))) fs->_)
  by_cases q:0<=o+(3-f)
  ·rw[if_pos q]
   obtain⟨i1,i2⟩:=ih (p+1) (d+(3-f)) (max k (-(d+(3-f)))) (o+(3-f)) (by lia) q
   exact⟨i1,λ(a:k<=L) b=>i2 (Int.max_le.mpr ⟨a,by lia⟩) b⟩
  ·rw[if_neg q]
   exact⟨λa=>absurd a (Int.not_le.mpr (Int.lt_of_lt_of_le (show L< -(d+(3-f)) by clear g s;lia) (Int.le_trans (Int.le_max_right ..) g))),λ_ _=>rfl⟩
noncomputable def cj:Nat->List (List Nat)
 |0=>[[41]] |1=>[[34],[41]] |_=>[[41],[92]]
noncomputable def pW:Nat->List (List Nat)
 |0=>[[41],[40]] |1=>[[34],[41],[40]] |_=>[[41],[92,40]]
def g9(hid:Nat->List (List Nat))(fs:List Int)(L m:Nat)(t:List (List Nat)):List (List Nat):=List.replicate L [40]++(dR hid 0 fs++(List.replicate m [41]++t))
theorem tS{hid:Nat->List (List Nat)}{fs:List Int}{L m:Nat}{t:List (List Nat)}(H:∀p,Hid (hid p))(h:aB 0 0 fs<=L)(hm:(m:Int)<=L+qS 0 fs):iS 0 (sA none (g9 hid fs L m t))=iS (L+qS 0 fs-m) (sA none t):=by
 unfold g9
 rw[nk (by decide) L,nj,(yK (L:=L) H fs 0 0 0 (0+L) (by lia) (by lia)).1 h,nk (by decide) m,o7 _ _ _ hm]
theorem CY{hid:Nat->List (List Nat)}{fs:List Int}{L m:Nat}{t:List (List Nat)}(H:∀p,Hid (hid p))(h:(L:Int)<aB 0 0 fs):iS 0 (sA none (g9 hid fs L m t))=false:=by
 unfold g9
 rw[nk (by decide) L,nj]
 exact(yK (L:=L) H fs 0 0 0 (0+L) (by lia) (by lia)).2 (by lia) h
theorem Ej{t:Nat}(ht:t<3):iS 1 (sA none (cj t))=true:=by
 have:t=0\/t=1\/t=2:=by lia
 rcases this with rfl|rfl|rfl<;>decide
theorem Ek{t:Nat}(ht:t<3):iS 2 (sA none (cj t))=false:=by
 have:t=0\/t=1\/t=2:=by lia
 rcases this with rfl|rfl|rfl<;>decide
theorem mul_neg{c:Nat}{n:Int}(h1:-1000<=n)(h2:n<=1000):iG.f (.str (tx [c])) (.int n)=some (.str (tx (List.replicate n.toNat c))):=by
 show(bif few n&&fits ((tx [c]).length*n.toNat)then some (PV.str (zX (tx [c]) n.toNat))else none)=_
 rw[Iv (by lia) (by lia),Lq,fF,List.length_singleton,Nat.one_mul,aV (by lia)];rfl
theorem dj{a b:List Nat}(h:a.length+b.length<=1000000):d7.f (.str (tx a)) (.str (tx b))=some (.str (tx (a++b))):=by
 show(bif fits ((tx a).length+(tx b).length)then some (PV.str (tx a++tx b))else none)=_
 rw[fF,fF,Es,aV h];rfl
theorem Gn{a b:List Nat}(h:a.length+b.length<=1000000):IM.f (.str (tx a)) (.str (tx b))=some (.str (tx (a++b))):=by
 show(bif fits ((tx a).length+(tx b).length)then some (PV.str (tx a++tx b))else none)=_
 rw[fF,fF,Es,aV h];rfl
theorem TZ(a b:Int):max2.f [.int a,.int b]=some (.int (max a b)):=by
 show some (PV.int (bif decide (b>a)then b else a))=_
 rw[Q1.J2]
noncomputable def zG:Nat->List (List Nat)
 |0=>[] |1=>[[92,41]] |2=>[[34],[40],[34]] |3=>[[34],[92,34],[41],[34]] |4=>[[92,92]] |_=>[[92,34]]
def hid(ds:List Nat)(p:Nat):List (List Nat):=if p<5 then zG (ds.getD p 0)else []
theorem Cy(n:Nat):Hid (zG n):=by
 match n with
 |0=>exact⟨[],vA,λ_ m=>nomatch m⟩
 |1=>exact⟨_,vB (by decide),λa m=>by rw[fG m];decide⟩
 |2=>exact⟨[],λ_=>rfl,λ_ m=>nomatch m⟩
 |3=>exact⟨[],λ_=>rfl,λ_ m=>nomatch m⟩
 |4=>exact⟨_,vB (by decide),λa m=>by rw[fG m];decide⟩
 |n+5=>exact⟨_,vB (by decide),λa m=>by rw[fG m];decide⟩
theorem q8(ds:List Nat)(p:Nat):Hid (hid ds p):=by
 unfold hid;split
 ·exact Cy _
 ·exact⟨[],vA,λ_ m=>nomatch m⟩
abbrev oW:List PV:=bV [[],[92,41],[34,40,34],[34,92,34,41,34],[92,92],[92,34]]
theorem Gf{n:Nat}(h:n<6):oW[n]?=some (.str (tx (zG n).flatten)):=by
 rcases Q1.six h with rfl|rfl|rfl|rfl|rfl|rfl<;>rfl
theorem Cz(n:Nat):(zG n).flatten.length<=5/\(zG n).length<=4:=by
 match n with
 |0=>decide
 |1=>decide
 |2=>decide
 |3=>decide
 |4=>decide
 |n+5=>exact⟨by show 2<=5;decide,by show 1<=4;decide⟩
theorem q9(ds:List Nat)(p:Nat):(hid ds p).flatten.length<=5/\(hid ds p).length<=4:=by
 unfold hid;split
 ·exact Cz _
 ·decide
theorem Dj{ds:List Nat}{p:Nat}(h:p<ds.length):(nv ds)[p]?=some (.int (ds.getD p 0:Nat)):=by
 unfold nv
 rw[List.getElem?_map,List.getD_eq_getElem?_getD,List.getElem?_eq_getElem h];rfl
section
variable{r:Nat->Slot}{p:Nat}{f:Int}{ds:List Nat}{R:List Nat}
theorem J7(h2:r 2=iV p)(h11:r 11=.val (.lst (nv ds)))(IC:r 42=.val (.lst oW))(hd:ds.length=8)(hb:∀i,i<5->ds.getD i 0<6)(hp:p<=100){t:SB (bk.sc nm)}{a b:SE (bk.sc nm)}{q:Pos}(ht:t.ev F8 (FW r)=some (decide ((p:Int)<5)))(ha:∀n:Nat,n<5->p=n->a.ev F8 (FW r)=(oW[ds.getD n 0]?))(Vs:b.ev F8 (FW r)=some (.str (tx []))):(SE.ite t a b q).ev F8 (FW r)=some (.str (tx (hid ds p).flatten)):=by
 rw[JT ht]
 unfold hid
 by_cases h:p<5
 ·rw[eT (show(p:Int)<5 by lia),if_pos h]
  exact(ha p (by lia) rfl).trans (Gf (hb p h))
 ·rw[eE (show¬(p:Int)<5 by lia),if_neg h]
  exact Vs
theorem j9(n c:Nat):(List.replicate n [c]).flatten=List.replicate n c:=by
 induction n with
 |zero=>rfl
 |succ n ih=>rw[List.replicate_succ,List.flatten_cons,ih,List.replicate_succ];rfl
theorem lG(u:List (List Nat)):(fE u f).flatten=(u.flatten++List.replicate (3-f).toNat 40)++List.replicate (f-3).toNat 41:=by
 unfold fE
 rw[List.flatten_append,List.flatten_append,j9,j9,List.append_assoc]
theorem LP(h2:r 2=iV p)(h11:r 11=.val (.lst (nv ds)))(IC:r 42=.val (.lst oW))(xZ:r 43=.val (.str (tx R)))(Qa:r 46=iV f)(hd:ds.length=8)(hb:∀i,i<5->ds.getD i 0<6)(hp:p<=100)(hf:-100<=f/\f<=100)(hR:R.length<=10000):A6.ex F8 (FW r)=some (.next (FW (upd r 43 (.val (.str (tx (R++(fE (hid ds p) f).flatten))))))):=by
 have hl:=(q9 ds p).1
 have RQ:(List.replicate (3-f).toNat 40).length<=200:=by rw[List.length_replicate];exact Int.toNat_le.mpr (by lia)
 have TX:(List.replicate (f-3).toNat 41).length<=200:=by rw[List.length_replicate];exact Int.toNat_le.mpr (by lia)
 rw[<-sF,lG]
 refine bnd (gV xZ) (bnd (a:=PV.str (tx (((hid ds p).flatten++List.replicate (3-f).toNat 40)++List.replicate (f-3).toNat 41))) ?_ (mp (Gn (by rw[ay,ay];exact Nat.le_trans (Nat.add_le_add hR (Nat.add_le_add (Nat.add_le_add hl RQ) TX)) (by decide)))))
 refine bW (x:=.str (tx ((hid ds p).flatten++List.replicate (3-f).toNat 40))) (y:=.str (tx (List.replicate (f-3).toNat 41))) (bW (x:=.str (tx (hid ds p).flatten)) (y:=.str (tx (List.replicate (3-f).toNat 40))) ?_ ?_ (dj (Nat.le_trans (Nat.add_le_add hl RQ) (by decide)))) ?_ (dj (by rw[ay];exact Nat.le_trans (Nat.add_le_add (Nat.add_le_add hl RQ) TX) (by decide)))
 ·refine J7 h2 h11 IC hd hb hp (cE (x:=.int p) (y:=.int 5) (gV h2) rfl rfl) (λn hn e=>?_) rfl
  subst e
  exact bnd (a:=oW) (bnd (gV IC) rfl) (bnd (a:=PV.int (ds.getD p 0:Nat)) (bnd (a:=nv ds) (bnd (gV h11) rfl) (bnd (a:=PV.int (p:Int)) (gV h2) (bnd (a:=(p:Int)) rfl (bnd (fh (by lia)) (Dj (by lia)))))) (bnd (a:=((ds.getD p 0:Nat):Int)) rfl (bnd (fh (Nat.lt_of_lt_of_le (hb p hn) (bE rfl))) rfl)))
 ·exact bW (x:=.str (tx [40])) (y:=.int (3-f)) rfl (bW (x:=.int 3) (y:=.int f) rfl (gV Qa) rfl) (mul_neg (by lia) (by lia))
 ·exact bW (x:=.str (tx [41])) (y:=.int (f-3)) rfl (bW (x:=.int f) (y:=.int 3) (gV Qa) rfl rfl) (mul_neg (by lia) (by lia))
end
section
variable{r:Nat->Slot}{p:Nat}{f d k:Int}{ds:List Nat}{R:List Nat}
theorem LQ(Co:r 44=iV d)(Qa:r 46=iV f):A8.ex F8 (FW r)=some (.next (FW (upd r 44 (iV (d+(3-f)))))):=by
 rw[<-sF]
 exact bnd (gV Co) (bnd (a:=PV.int (3-f)) (bW (x:=.int 3) (y:=.int f) rfl (gV Qa) rfl) (mp (a:=PV.int (d+(3-f))) rfl))
theorem LR(Co:r 44=iV d)(pG:r 45=iV k):A9.ex F8 (FW r)=some (.next (FW (upd r 45 (iV (max k (-d)))))):=by
 rw[<-sF]
 exact mp (a:=PV.int (max k (-d))) (bnd (a:=[PV.int k,PV.int (-d)]) (gp (gV pG) (bnd (gV Co) rfl)) (TZ k (-d)))
abbrev ur:=(Ac (sc:=bk.sc nm) [⟨2,"place",(qz 351 8 13)⟩,⟨46,"factor",(qz 351 15 21)⟩] 0 (qz 351 8 21)).bind
theorem K2(r:Nat->Slot)(i n:PV):ur (.tup [i,n]) (FW r)=some (FW (upd (upd r 2 (.val i)) 46 (.val n))):=by kernel_rfl
theorem DF(h11:r 11=.val (.lst (nv ds)))(IC:r 42=.val (.lst oW))(xZ:r 43=.val (.str (tx R)))(Co:r 44=iV d)(pG:r 45=iV k)(hd:ds.length=8)(hb:∀i,i<5->ds.getD i 0<6)(hp:p<=100)(hf:-100<=f/\f<=100)(hR:R.length<=10000):
  ∃r',(∀rest,loopGo ur (sC.ex F8) (.tup [.int p,.int f]::rest) (FW r)=loopGo ur (sC.ex F8) rest (FW r'))/\r' 43=.val (.str (tx (R++(fE (hid ds p) f).flatten)))/\r' 44=iV (d+(3-f))/\r' 45=iV (max k (-(d+(3-f))))/\∀j,j<43->j≠2->r' j=r j:=by
 have e1:=LP (r:=upd (upd r 2 (iV p)) 46 (iV f)) (p:=p) (f:=f) rfl h11 IC xZ rfl hd hb hp hf hR
 have e2:=LQ (r:=upd (upd (upd r 2 (iV p)) 46 (iV f)) 43 (.val (.str (tx (R++(fE (hid ds p) f).flatten))))) (d:=d) (f:=f) Co rfl
 have e3:=LR (r:=upd (upd (upd (upd r 2 (iV p)) 46 (iV f)) 43 (.val (.str (tx (R++(fE (hid ds p) f).flatten))))) 44 (iV (d+(3-f)))) (d:=d+(3-f)) (k:=k) rfl pG
 exact⟨_,λrest=>cz (K2 _ _ _) (ao e1 (ao e2 (bJ e3))),rfl,rfl,rfl,λj h1 h2=>by rw[aM (bU (by lia)),aM (bU (by lia)),aM (bU (by lia)),aM (bU (by lia)),aM (bU h2)]⟩
theorem Ec(hf:-100<=f/\f<=100):(fE (hid ds p) f).flatten.length<=208:=by
 have:=(q9 ds p).1
 rw[lG,ay,ay,List.length_replicate,List.length_replicate,Nat.add_assoc]
 exact Nat.le_trans (Nat.add_le_add this (Er (n:=103) (by lia) (by lia))) (by decide)
inductive Mp(ds:List Nat)(fs:List Int)(p:Nat)(R:List Nat)(d k:Int)(r:Nat->Slot):Prop
 |mk (r':Nat->Slot) (h0:loopGo ur (sC.ex F8) (bP p (iv fs)) (FW r)=some (.next (FW r'))) (h1:r' 43=.val (.str (tx (R++(dR (hid ds) p fs).flatten)))) (h2:r' 44=iV (qS d fs)) (h3:r' 45=iV (aB d k fs)) (h4:∀j,j<43->j≠2->r' j=r j):Mp ds fs p R d k r
theorem DG(hd:ds.length=8)(hb:∀i,i<5->ds.getD i 0<6):∀(fs:List Int) (p:Nat) (R:List Nat) (d k:Int) (r:Nat->Slot),(∀f∈fs,-100<=f/\f<=100)->r 11=.val (.lst (nv ds))->r 42=.val (.lst oW)->r 43=.val (.str (tx R))->r 44=iV d->r 45=iV k->p+fs.length<=40->R.length+208*fs.length<=10000->
  Mp ds fs p R d k r:=by
 intro w
 induction w with
 |nil=>intro p R d k r _ _ _ xZ Co pG _ _;exact⟨r,rfl,by rw[xZ];show _=Slot.val (.str (tx (R++[])));rw[List.append_nil],Co,pG,λ_ _ _=>rfl⟩
 |cons f fs ih=>
  intro p R d k r hf h11 IC xZ Co pG hp hR
  rw[List.length_cons]at hp hR
  have f0:=hf f eF
  have sl:=Ec (ds:=ds) (p:=p) f0
  obtain⟨r1,e1,Mw,Mx,My,k1⟩:=DF (p:=p) (f:=f) h11 IC xZ Co pG hd hb (by lia) f0 (by lia)
  obtain⟨r2,e2,UC,QG,UD,k2⟩:=ih (p+1) (R++(fE (hid ds p) f).flatten) (d+(3-f)) (max k (-(d+(3-f)))) r1 (λf m=>hf f (f5 _ m)) ((k1 11 (bE rfl) (by decide)).trans h11) ((k1 42 (bE rfl) (by decide)).trans IC) Mw Mx My (by lia) (by rw[ay];lia)
  refine⟨r2,(e1 _).trans e2,UC.trans ?_,QG,UD,λj h1 h2=>(k2 j h1 h2).trans (k1 j h1 h2)⟩
  rw[show dR (hid ds) p (f::fs)=fE (hid ds p) f++dR (hid ds) (p+1) fs from rfl,List.flatten_append,List.append_assoc]
theorem Pn(r:Nat->Slot):qx.ex F8 (FW r)=some (.next (FW (upd r 42 (.val (.lst oW))))):=by kernel_rfl
theorem Po(r:Nat->Slot):qy.ex F8 (FW r)=some (.next (FW (upd r 43 (.val (.str (tx [])))))):=by kernel_rfl
theorem Pp(r:Nat->Slot):qA.ex F8 (FW r)=some (.next (FW (upd r 44 (iV 0)))):=by kernel_rfl
theorem Pq(r:Nat->Slot):qB.ex F8 (FW r)=some (.next (FW (upd r 45 (iV 0)))):=by kernel_rfl
theorem U5{xs:List PV}{t:SL (bk.sc nm)}(h:r 7=.own xs):(SL.freeze 7 t).ex F8 (FW r)=t.ex F8 (FW (upd r 7 (.val (.lst xs)))):=by
 rw[<-sF]
 exact bnd (gO h) rfl
theorem Pr{xs:List PV}{o:Option Out}(h7:r 7=.val (.lst xs))(e:loopGo ur (sC.ex F8) (bP 0 xs) (FW r)=o):qC.ex F8 (FW r)=o:=bnd (a:=bP 0 xs) (bnd (gV h7) rfl) e
theorem G0{fs:List Int}(hd:ds.length=8)(hb:∀i,i<5->ds.getD i 0<6)(hf:∀f∈fs,-14<=f/\f<=8)(hz:fs.length<=16)(h7:r 7=.own (iv fs))(h11:r 11=.val (.lst (nv ds))):∃r',(∀(rest:SL (bk.sc nm)) (o:Option Out),rest.ex F8 (FW r')=o->(SL.cons qx (.cons qy (.cons qA (.cons qB (.freeze 7 (.cons qC rest)))))).ex F8 (FW r)=o)/\
  r' 7=.val (.lst (iv fs))/\r' 11=.val (.lst (nv ds))/\r' 20=r 20/\r' 43=.val (.str (tx (dR (hid ds) 0 fs).flatten))/\r' 44=iV (qS 0 fs)/\r' 45=iV (aB 0 0 fs):=by
 obtain⟨r',e,Mw,Mx,My,kp⟩:=DG hd hb fs 0 [] 0 0 (upd (upd (upd (upd (upd r 42 (.val (.lst oW))) 43 (.val (.str (tx [])))) 44 (iV 0)) 45 (iV 0)) 7 (.val (.lst (iv fs)))) (λf m=>by have:=hf f m;lia) h11 rfl rfl rfl rfl (by lia) (by rw[List.length_nil];lia)
 refine⟨r',λrest o h=>ao (Pn _) (ao (Po _) (ao (Pp _) (ao (Pq _) ((U5 (r:=upd (upd (upd (upd r 42 (.val (.lst oW))) 43 (.val (.str (tx [])))) 44 (iV 0)) 45 (iV 0)) h7).trans (ao (Pr rfl e) h))))),(kp 7 (bE rfl) (by decide)).trans rfl,(kp 11 (bE rfl) (by decide)).trans h11,kp 20 (bE rfl) (by decide),Mw,Mx,My⟩
end
section
variable{r:Nat->Slot}{k K:Int}{ds:List Nat}{R T C:List Nat}
theorem f2(ps:List PV):F8.fn 2 ps=aG D2 c2 (eO.d9 7) ps:=by kernel_rfl
theorem sP{i:Nat}{q1 q2 q3:Pos}{hm:isVar (bk.sc nm) 11 "dress"=true}{j:Nat}(h11:r 11=.val (.lst (nv ds)))(hi:i<ds.length)(hs:i<1000):(SE.idx (.of (SE.var 11 ("dress":Str) q1 hm)) (.int (i:Int) j q2) q3).ev F8 (FW r)=some (.int (ds.getD i 0:Nat)):=
 bnd (a:=nv ds) (bnd (gV h11) rfl) (bnd (a:=PV.int (i:Int)) rfl (bnd (a:=(i:Int)) rfl (bnd (fh (by lia)) (Dj hi))))
theorem Pu(h11:r 11=.val (.lst (nv ds)))(hd:ds.length=8)(ht:ds.getD 5 0<3):qD.ex F8 (FW r)=some (.next (FW (upd r 47 (.val (.str (tx (cj (ds.getD 5 0)).flatten)))))):=by
 rw[<-sF]
 refine mp (a:=PV.str (tx (cj (ds.getD 5 0)).flatten)) (vL (xs:=bV [[41],[34,41],[41,92]]) (i:=ds.getD 5 0) (by rfl) (sP (i:=5) h11 (by lia) (by lia)) (by lia) ?_)
 have:ds.getD 5 0=0\/ds.getD 5 0=1\/ds.getD 5 0=2:=by lia
 rcases this with e|e|e<;>rw[e]<;>rfl
noncomputable def dz(k K:Int)(j:Int)(R T:List Nat):List Nat:=((List.replicate (k-(j-1)).toNat 40++R)++List.replicate (k+12*K-j).toNat 41)++T
theorem Py(iE:r 20=iV K)(xZ:r 43=.val (.str (tx R)))(pG:r 45=iV k)(Rm:r 47=.val (.str (tx T)))(hk:0<=k/\k<=300)(hK:0<=K/\K<=3)(hR:R.length<=5000)(hT:T.length<=10):qE.ex F8 (FW r)=some (.next (FW (upd r 48 (.val (.str (tx (dz k K 1 R T))))))):=by
 have l1:(List.replicate k.toNat 40).length<=300:=by rw[List.length_replicate];exact Int.toNat_le.mpr (by lia)
 have l2:(List.replicate (k+12*K-1).toNat 41).length<=400:=by rw[List.length_replicate];exact Int.toNat_le.mpr (by lia)
 rw[<-sF]
 unfold dz
 rw[show k-(1-1)=k by lia]
 refine mp (a:=PV.str (tx (((List.replicate k.toNat 40++R)++List.replicate (k+12*K-1).toNat 41)++T))) ?_
 refine bW (x:=.str (tx ((List.replicate k.toNat 40++R)++List.replicate (k+12*K-1).toNat 41))) (y:=.str (tx T)) (bW (x:=.str (tx (List.replicate k.toNat 40++R))) (y:=.str (tx (List.replicate (k+12*K-1).toNat 41))) (bW (x:=.str (tx (List.replicate k.toNat 40))) (y:=.str (tx R)) (bW (x:=.str (tx [40])) (y:=.int k) rfl (gV pG) (mul_neg (by lia) (by lia))) (gV xZ) (dj (Nat.le_trans (Nat.add_le_add l1 hR) (by decide)))) ?_ (dj (by rw[ay];exact Nat.le_trans (Nat.add_le_add (Nat.add_le_add l1 hR) l2) (by decide)))) (gV Rm) (dj (by rw[ay,ay];exact Nat.le_trans (Nat.add_le_add (Nat.add_le_add (Nat.add_le_add l1 hR) l2) hT) (by decide)))
 exact bW (x:=.str (tx [41])) (y:=.int (k+12*K-1)) rfl (bW (x:=.int (k+12*K)) (y:=.int 1) (bW (x:=.int k) (y:=.int (12*K)) (gV pG) (bW (x:=.int 12) (y:=.int K) rfl (gV iE) rfl) rfl) rfl rfl) (mul_neg (by lia) (by lia))
noncomputable def br(u:Nat)(C:List Nat):List Nat:=if u=0 then([41]++C)++[40]else [40]++C
theorem Pz(h11:r 11=.val (.lst (nv ds)))(hd:ds.length=8)(hu:ds.getD 6 0<2)(Nv:r 48=.val (.str (tx C)))(hC:C.length<=6000):qF.ex F8 (FW r)=some (.next (FW (upd r 49 (.own (bV [C,br (ds.getD 6 0) C]))))):=by
 rw[<-sF]
 have es:∀x:PV,(bV [([41]++C)++[40],[40]++C])[ds.getD 6 0]?=some x->x=.str (tx (br (ds.getD 6 0) C)):=λx h=>by
  have:ds.getD 6 0=0\/ds.getD 6 0=1:=by lia
  rcases this with e|e<;>rw[e]at h⊢<;>exact(aq h).symm
 have ei:(bV [([41]++C)++[40],[40]++C])[ds.getD 6 0]?=some (.str (tx (br (ds.getD 6 0) C))):=by
  cases h:(bV [([41]++C)++[40],[40]++C])[ds.getD 6 0]? with
  |none=>
   have:=List.getElem?_eq_none_iff.mp h
   rw[gY]at this
   exact absurd this (by show¬2<=_;lia)
  |some x=>rw[es x h]
 refine mp (a:=bV [C,br (ds.getD 6 0) C]) (bnd (a:=bV [C,br (ds.getD 6 0) C]) (gp (gV Nv) ?_) rfl)
 refine bnd (a:=bV [([41]++C)++[40],[40]++C]) (bnd (a:=.lst (bV [([41]++C)++[40],[40]++C])) (bnd (a:=bV [([41]++C)++[40],[40]++C]) (gp ?_ ?_) rfl) rfl) (bnd (a:=PV.int (ds.getD 6 0:Nat)) (sP (i:=6) h11 (by lia) (by lia)) (bnd (a:=((ds.getD 6 0:Nat):Int)) rfl (bnd (fh (by lia)) ei)))
 ·exact bW (x:=.str (tx ([41]++C))) (y:=.str (tx [40])) (bW (x:=.str (tx [41])) (y:=.str (tx C)) rfl (gV Nv) (dj (by show 1+_<=_;lia))) rfl (dj (by rw[ay];show 1+_+1<=_;lia))
 ·exact bW (x:=.str (tx [40])) (y:=.str (tx C)) rfl (gV Nv) (dj (by show 1+_<=_;lia))
theorem Ew(pG:r 45=iV k)(hk:k=0):m8.ex F8 (FW r)=some (.next (FW r)):=by
 refine oX (cE (x:=.int k) (y:=.int 0) (gV pG) rfl ?_)
 rw[hk];rfl
theorem Ah{Ls:List (List Nat)}(iE:r 20=iV K)(xZ:r 43=.val (.str (tx R)))(pG:r 45=iV k)(Rm:r 47=.val (.str (tx T)))(L6:r 49=.own (bV Ls))(hL:Ls.length<=10)(hk:0<k/\k<=300)(hK:1<=K/\K<=3)(hR:R.length<=5000)(hT:T.length<=10):m8.ex F8 (FW r)=some (.next (FW (upd r 49 (.own (bV (Ls++[dz k K 2 R T])))))):=by
 have l1:(List.replicate (k-1).toNat 40).length<=300:=by rw[List.length_replicate];exact Int.toNat_le.mpr (by lia)
 have l2:(List.replicate (k+12*K-2).toNat 41).length<=400:=by rw[List.length_replicate];exact Int.toNat_le.mpr (by lia)
 refine uQ (cE (x:=.int k) (y:=.int 0) (gV pG) rfl (congrArg some (eT hk.1))) (bJ ?_)
 rw[<-sF]
 unfold dz
 rw[show k-(2-1)=k-1 by lia]
 refine bnd (gO L6) (bnd (a:=PV.str (tx (((List.replicate (k-1).toNat 40++R)++List.replicate (k+12*K-2).toNat 41)++T))) ?_ ((av (aV (by rw[gY];lia))).trans (by unfold bV;rw[List.map_append];rfl)))
 refine bW (x:=.str (tx ((List.replicate (k-1).toNat 40++R)++List.replicate (k+12*K-2).toNat 41))) (y:=.str (tx T)) (bW (x:=.str (tx (List.replicate (k-1).toNat 40++R))) (y:=.str (tx (List.replicate (k+12*K-2).toNat 41))) (bW (x:=.str (tx (List.replicate (k-1).toNat 40))) (y:=.str (tx R)) (bW (x:=.str (tx [40])) (y:=.int (k-1)) rfl (bW (x:=.int k) (y:=.int 1) (gV pG) rfl rfl) (mul_neg (by lia) (by lia))) (gV xZ) (dj (Nat.le_trans (Nat.add_le_add l1 hR) (by decide)))) ?_ (dj (by rw[ay];exact Nat.le_trans (Nat.add_le_add (Nat.add_le_add l1 hR) l2) (by decide)))) (gV Rm) (dj (by rw[ay,ay];exact Nat.le_trans (Nat.add_le_add (Nat.add_le_add (Nat.add_le_add l1 hR) l2) hT) (by decide)))
 exact bW (x:=.str (tx [41])) (y:=.int (k+12*K-2)) rfl (bW (x:=.int (k+12*K)) (y:=.int 2) (bW (x:=.int k) (y:=.int (12*K)) (gV pG) (bW (x:=.int 12) (y:=.int K) rfl (gV iE) rfl) rfl) rfl rfl) (mul_neg (by lia) (by lia))
theorem Jd{Ls:List (List Nat)}(L6:r 49=.own (bV Ls))(hL:Ls.length<=10):qG.ex F8 (FW r)=some (.next (FW (upd r 50 (.val (.lst (bV Ls)))))):=by
 rw[<-sF]
 exact mp (a:=PV.lst (bV Ls)) (bnd (gO L6) (av (aV (by rw[gY];lia))))
theorem FL(n:Nat):∀a:List (List Nat),ES (oM (n+1)) (bV a) (bV a)=some true:=by
 intro w
 induction w with
 |nil=>exact rfl
 |cons x a ih=>
  show(some (tx x==tx x)).bind (λb=>(ES (oM (n+1)) (bV a) (bV a)).map (b&&·))=_
  rw[ih,beq_self_eq_true];rfl
theorem De(a:List (List Nat)):ry.f (.lst (bV a)) (.lst (bV a))=some false:=by
 show(ES (oM 5) (bV a) (bV a)).map not=_
 rw[FL 4];rfl
theorem rep1{x:PV}{n:Nat}(h:n<=1000):C8.f (.lst [x]) (.int (n:Int))=some (.lst (List.replicate n x)):=by
 refine(av ?_).trans ?_
 ·rw[Iv (by lia) (by lia)]
  exact aV (by rw[Int.toNat_natCast,List.length_singleton,Nat.one_mul];lia)
 ·rw[Int.toNat_natCast]
  congr 2
  induction n with
  |zero=>rfl
  |succ n ih=>rw[List.replicate_succ,List.flatten_cons,ih (by lia),List.replicate_succ];rfl
theorem Je{fs:List (List Nat)}(hC:(eO.d9 7).fn 1 [.str (tx C)]=some (.bool true))(hF:∀x∈fs,(eO.d9 7).fn 1 [.str (tx x)]=some (.bool false))(hn:fs.length<=9)(Nv:r 48=.val (.str (tx C)))(L6:r 49=.own (bV (C::fs)))(TJ:r 50=.val (.lst (bV (C::fs)))):qH.ex F8 (FW r)=some (.next (FW r)):=by
 have ev:F8.fn 2 [.lst (bV (C::fs))]=some (.lst (bV (C::List.replicate fs.length bad))):=by
  have v:=Lx (Φ:=eO.d9 7) (ls:=(C,true)::fs.map λx=>(x,false)) (λx m=>by
   rcases eX m with rfl|m
   ·exact hC
   ·obtain⟨y,my,rfl⟩:=List.mem_map.mp m;exact hF y my) (by rw[List.length_cons,List.length_map];lia)
  rw[f2]
  have e1:(((C,true)::fs.map λx=>(x,false)).map (·.1))=C::fs:=by
   rw[List.map_cons,List.map_map]
   exact congrArg (C::·) (List.map_id fs)
  have e2:(((C,true)::fs.map λx=>(x,false)).map said)=C::List.replicate fs.length bad:=by
   rw[List.map_cons,List.map_map]
   refine congrArg (C::·) ?_
   rw[show(said∘λx:List Nat=>(x,false))=Function.const _ bad from rfl];exact List.map_const
  rw[e1,e2]at v
  exact v
 have el:(bV (C::fs)).length=fs.length+1:=by rw[gY];rfl
 refine oX (bnd (a:=false) ?_ ?_)
 ·refine cE (x:=.lst (bV (C::List.replicate fs.length bad))) (y:=.lst (bV (C::List.replicate fs.length bad))) (bnd (qU (gV TJ)) ev) ?_ (De _)
  have er:bV (C::List.replicate fs.length bad)=[.str (tx C)]++List.replicate fs.length (.str (tx bad)):=by
   unfold bV;rw[List.map_cons,List.map_replicate];rfl
  rw[er]
  refine bnd (a:=PV.lst [.str (tx C)]) (bnd (qU (gV Nv)) rfl) (bnd (a:=PV.lst (List.replicate fs.length (.str (tx bad)))) ?_ (av (aV (by rw[List.length_replicate];show 1+_<=_;lia))))
  refine bnd (a:=PV.int (fs.length:Int)) ?_ (rep1 (x:=.str (tx bad)) (by lia))
  refine bnd (a:=PV.int ((fs.length+1:Nat):Int)) (bnd (a:=PV.lst (bV (C::fs))) (mp (gO L6)) ((mK (by rw[el];lia)).trans (by rw[el]))) ?_
  show some (PV.int (((fs.length+1:Nat):Int)-1))=_
  rw[show((fs.length+1:Nat):Int)-1=fs.length by lia]
 ·exact cE (x:=.lst (bV (C::fs))) (y:=.lst (bV (C::fs))) (gV TJ) (mp (gO L6)) (De _)
end
section
variable{ds:List Nat}{fs:List Int}
theorem gX(t:Nat):dX (cj t)/\dX (pW t):=by
 have L0:Atom [41]:=.inr (.inr (.inl rfl))
 have Tc:Atom [40]:=.inr (.inl rfl)
 have S9:Atom [34]:=.inl rfl
 have a9:Atom [92,40]:=.inr (.inr (.inr ⟨40,.inr (.inl rfl),rfl⟩))
 match t with
 |0=>exact⟨.inl ⟨L0,trivial⟩,.inl ⟨L0,.inl ⟨Tc,trivial⟩⟩⟩
 |1=>exact⟨.inl ⟨S9,.inl ⟨L0,trivial⟩⟩,.inl ⟨S9,.inl ⟨L0,.inl ⟨Tc,trivial⟩⟩⟩⟩
 |t+2=>exact⟨.inl ⟨L0,.inr ⟨rfl,rfl⟩⟩,.inl ⟨L0,.inl ⟨a9,trivial⟩⟩⟩
theorem zH(n:Nat):∀a∈zG n,Atom a:=by
 have e:∀c,yX c->Atom [92,c]:=λc h=>.inr (.inr (.inr ⟨c,h,rfl⟩))
 match n with
 |0=>exactλ_ m=>nomatch m
 |1=>intro a m;rw[fG m];exact e 41 (.inr (.inr (.inl rfl)))
 |2=>
  intro a m
  rcases eX m with rfl|m
  ·exact .inl rfl
  rcases eX m with rfl|m
  ·exact .inr (.inl rfl)
  rw[fG m];exact .inl rfl
 |3=>
  intro a m
  rcases eX m with rfl|m
  ·exact .inl rfl
  rcases eX m with rfl|m
  ·exact e 34 (.inl rfl)
  rcases eX m with rfl|m
  ·exact .inr (.inr (.inl rfl))
  rw[fG m];exact .inl rfl
 |4=>intro a m;rw[fG m];exact e 92 (.inr (.inr (.inr rfl)))
 |n+5=>intro a m;rw[fG m];exact e 34 (.inl rfl)
theorem CA(p:Nat):∀a∈hid ds p,Atom a:=by
 unfold hid;split
 ·exact zH _
 ·exactλ_ m=>nomatch m
theorem j8(n:Nat){a:List Nat}(h:Atom a):∀b∈List.replicate n a,Atom b:=λb m=>by rw[(List.mem_replicate.mp m).2];exact h
theorem DE:∀(fs:List Int) (p:Nat),∀a∈dR (hid ds) p fs,Atom a:=by
 intro w
 induction w with
 |nil=>intro _ _ m;exact nomatch m
 |cons f fs ih=>
  intro p a m
  rcases List.mem_append.mp m with m|m
  ·rcases List.mem_append.mp m with m|m
   ·exact CA p a m
   ·rcases List.mem_append.mp m with m|m
    ·exact j8 _ (.inr (.inl rfl)) a m
    ·exact j8 _ (.inr (.inr (.inl rfl))) a m
  ·exact ih (p+1) a m
theorem n9{L m:Nat}{t:List (List Nat)}(h:dX t):dX (g9 (hid ds) fs L m t):=
 gj (j8 _ (.inr (.inl rfl))) (gj (DE fs 0) (gj (j8 _ (.inr (.inr (.inl rfl)))) h))
theorem iY{L m:Nat}{t:List (List Nat)}:(g9 (hid ds) fs L m t).flatten=((List.replicate L 40++(dR (hid ds) 0 fs).flatten)++List.replicate m 41)++t.flatten:=by
 unfold g9
 rw[List.flatten_append,List.flatten_append,List.flatten_append,j9,j9,List.append_assoc,List.append_assoc]
theorem rM:∀(fs:List Int) (p:Nat),(∀f∈fs,-14<=f/\f<=8)->(dR (hid ds) p fs).flatten.length<=22*fs.length/\(dR (hid ds) p fs).length<=21*fs.length:=by
 intro w
 induction w with
 |nil=>intros;exact⟨Nat.le_refl _,Nat.le_refl _⟩
 |cons f fs ih=>
  intro p h
  have ih:=ih (p+1) λf m=>h f (f5 _ m)
  have b:=h f eF
  have hl:=q9 ds p
  rw[show dR (hid ds) p (f::fs)=fE (hid ds p) f++dR (hid ds) (p+1) fs from rfl,List.flatten_append,ay,ay,lG,ay,ay,List.length_replicate,List.length_replicate,List.length_cons]
  unfold fE
  rw[ay,ay,List.length_replicate,List.length_replicate]
  have t:=Er (f:=f) (n:=17) (by clear ih hl;lia) (by clear ih hl;lia)
  generalize(3-f).toNat=x at *
  generalize(f-3).toNat=y at *
  clear b h
  lia
theorem Gu:∀(fs:List Int) (d k B:Int),(∀f∈fs,f<=8)->k<=B->-d+5*fs.length<=B->aB d k fs<=B:=by
 intro w
 induction w with
 |nil=>intro _ _ _ _ h _;exact h
 |cons f fs ih=>
  intro d k B hf h1 h2
  rw[List.length_cons]at h2
  have b:=hf f eF
  exact ih (d+(3-f)) (max k (-(d+(3-f)))) B (λf m=>hf f (f5 _ m)) (Int.max_le.mpr ⟨h1,by lia⟩) (by lia)
theorem mG:∀(fs:List Int) (d:Int),qS d fs=d+(3*(fs.length:Int)-fs.sum)
 | [],d=>by show d=d+(3*0-0);lia
 |f::fs,d=>by
  show qS (d+(3-f)) fs=_
  rw[mG fs,List.length_cons,List.sum_cons];lia
theorem kZ{L m:Nat}{t:List (List Nat)}{b:Bool}(h:dX t)(hf:∀f∈fs,-14<=f/\f<=8)(hz:fs.length<=16)(hL:L<=200)(hm:m<=250)(ht:t.flatten.length<=10/\t.length<=10)(hb:iS 0 (sA none (g9 (hid ds) fs L m t))=b):(eO.d9 7).fn 1 [.str (tx (((List.replicate L 40++(dR (hid ds) 0 fs).flatten)++List.replicate m 41)++t.flatten))]=some (.bool b):=by
 have r:=rM (ds:=ds) fs 0 hf
 have c:=Bj (k:=4) (n9 (ds:=ds) (fs:=fs) (L:=L) (m:=m) h) (by rw[iY,ay,ay,ay,List.length_replicate,List.length_replicate];lia) (by unfold g9;rw[ay,ay,ay,List.length_replicate,List.length_replicate];lia)
 rw[iY,hb]at c
 exact c
theorem iP(t:Nat):((cj t).flatten.length<=10/\(cj t).length<=10)/\((pW t).flatten.length<=10/\(pW t).length<=10):=by
 match t with
 |0=>decide
 |1=>decide
 |t+2=>exact⟨⟨by show 2<=10;decide,by show 2<=10;decide⟩,by show 3<=10;decide,by show 2<=10;decide⟩
theorem w7(t:Nat):(pW t).flatten=(cj t).flatten++[40]:=by
 match t with
 |0=>rfl
 |1=>rfl
 |t+2=>rfl
theorem lk{K:Int}(hl:0<=aB 0 0 fs/\aB 0 0 fs<=80)(hK:1<=K/\K<=3):((aB 0 0 fs-(1-1)).toNat:Int)=aB 0 0 fs/\((aB 0 0 fs+12*K-1).toNat:Int)=aB 0 0 fs+12*K-1/\(aB 0 0 fs-(1-1)).toNat<=80/\(aB 0 0 fs+12*K-1).toNat<=115:=by
 rw[show(1:Int)-1=0 from rfl,Int.sub_zero]
 generalize aB 0 0 fs=x at *
 exact⟨Int.toNat_of_nonneg hl.1,Int.toNat_of_nonneg (by lia),Int.toNat_le.mpr hl.2,Int.toNat_le.mpr (by lia)⟩
section
variable{K:Int}{t:Nat}(hf:∀f∈fs,-14<=f/\f<=8)(hz:fs.length<=16)(hK:1<=K/\K<=3)(hD:3*(fs.length:Int)-fs.sum=12*K)(ht:t<3)
include hf hz
theorem jW:0<=aB 0 0 fs/\aB 0 0 fs<=80:=⟨yi fs 0 0,Gu fs 0 0 80 (λf m=>(hf f m).2) (by decide) (by lia)⟩
include hK hD ht
theorem Ll:(eO.d9 7).fn 1 [.str (tx (dz (aB 0 0 fs) K 1 (dR (hid ds) 0 fs).flatten (cj t).flatten))]=some (.bool true):=by
 obtain⟨e1,e2,l1,l2⟩:=lk (jW hf hz) hK
 have d:=(mG fs 0).trans (Int.zero_add _)
 rw[hD]at d
 refine kZ (gX t).1 hf hz (Nat.le_trans l1 (by decide)) (Nat.le_trans l2 (by decide)) (iP t).1 ?_
 rw[tS (q8 ds) (Int.le_of_eq e1.symm) (by rw[e1,e2,d];exact Int.sub_le_self _ (by decide)),e1,e2,d,show aB 0 0 fs+12*K-(aB 0 0 fs+12*K-1)=1 by lia]
 exact Ej ht
theorem Lm(u:Nat):(eO.d9 7).fn 1 [.str (tx (br u (dz (aB 0 0 fs) K 1 (dR (hid ds) 0 fs).flatten (cj t).flatten)))]=some (.bool false):=by
 obtain⟨e1,e2,l1,l2⟩:=lk (jW hf hz) hK
 have d:=(mG fs 0).trans (Int.zero_add _)
 rw[hD]at d
 unfold br
 by_cases hu:u=0
 ·rw[if_pos hu]
  have r:=rM (ds:=ds) fs 0 hf
  have tl:=(iP t).2
  have c:=Bj (k:=4) (as:=[41]::g9 (hid ds) fs (aB 0 0 fs-(1-1)).toNat (aB 0 0 fs+12*K-1).toNat (pW t)) (.inl ⟨.inr (.inr (.inl rfl)),n9 (gX t).2⟩) (by rw[List.flatten_cons,ay,iY,ay,ay,ay,List.length_replicate,List.length_replicate];show 1+_<=_;clear e1 e2 d hf hK hD;lia) (by rw[List.length_cons];unfold g9;rw[ay,ay,ay,List.length_replicate,List.length_replicate];clear e1 e2 d hf hK hD;lia)
  rw[List.flatten_cons,iY,w7]at c
  have e:iS 0 (sA none ([41]::g9 (hid ds) fs (aB 0 0 fs-(1-1)).toNat (aB 0 0 fs+12*K-1).toNat (pW t)))=false:=by
   rw[show∀v,sA none ([41]::v)=[41]::sA none v fromλv=>if_neg (by decide)];rfl
  rw[e]at c
  rw[<-List.append_assoc,<-List.append_assoc]at c
  exact c
 ·rw[if_neg hu]
  have c:=kZ (ds:=ds) (fs:=fs) (L:=(aB 0 0 fs-(1-1)).toNat+1) (m:=(aB 0 0 fs+12*K-1).toNat) (b:=false) (gX t).1 hf hz (Nat.le_trans (Nat.succ_le_succ l1) (by decide)) (Nat.le_trans l2 (by decide)) (iP t).1 (by
   rw[tS (q8 ds) (by rw[Int.natCast_add,e1];exact Int.le_add_one (Int.le_refl _)) (by rw[Int.natCast_add,e1,e2,d];lia),Int.natCast_add,e1,e2,d,show aB 0 0 fs+((1:Nat):Int)+12*K-(aB 0 0 fs+12*K-1)=2 by lia]
   exact Ek ht)
  exact c
theorem Ln(hk:0<aB 0 0 fs):(eO.d9 7).fn 1 [.str (tx (dz (aB 0 0 fs) K 2 (dR (hid ds) 0 fs).flatten (cj t).flatten))]=some (.bool false):=by
 have l:=jW hf hz
 exact kZ (gX t).1 hf hz (Int.toNat_le.mpr (by lia)) (Int.toNat_le.mpr (by lia)) (iP t).1 (CY (q8 ds) (by rw[Int.toNat_of_nonneg (by lia)];lia))
end
end
section
variable{r:Nat->Slot}{K:Int}{ds:List Nat}{fs:List Int}
theorem vD{j:Int}{t:Nat}(hf:∀f∈fs,-14<=f/\f<=8)(hz:fs.length<=16)(hK:1<=K/\K<=3)(hj:0<=j/\j<=5):(dR (hid ds) 0 fs).flatten.length<=5000/\(cj t).flatten.length<=10/\(dz (aB 0 0 fs) K j (dR (hid ds) 0 fs).flatten (cj t).flatten).length<=6000:=by
 have l:=jW hf hz
 have a:=(rM (ds:=ds) fs 0 hf).1
 have b:=(iP t).1.1
 have a:(dR (hid ds) 0 fs).flatten.length<=352:=Nat.le_trans a (Nat.mul_le_mul_left 22 hz)
 refine⟨Nat.le_trans a (by decide),b,?_⟩
 unfold dz
 rw[ay,ay,ay,List.length_replicate,List.length_replicate]
 have x:=Int.toNat_le (n:=200) (m:=aB 0 0 fs-(j-1))|>.mpr (by clear a b;lia)
 have y:=Int.toNat_le (n:=200) (m:=aB 0 0 fs+12*K-j)|>.mpr (by clear a b;lia)
 exact Nat.le_trans (Nat.add_le_add (Nat.add_le_add (Nat.add_le_add x a) y) b) (by decide)
inductive HX(r:Nat->Slot):Prop
 |mk (r':Nat->Slot) (h0:(∀(rest:SL (bk.sc nm)) (o:Option Out),rest.ex F8 (FW r')=o->(SL.cons qD (.cons qE (.cons qF (.cons m8 (.cons qG (.cons qH rest)))))).ex F8 (FW r)=o)) (h1:∀j,j<47->r' j=r j):HX r
theorem Gy(hd:ds.length=8)(h5:ds.getD 5 0<3)(h6:ds.getD 6 0<2)(hf:∀f∈fs,-14<=f/\f<=8)(hz:fs.length<=16)(hK:1<=K/\K<=3)(hD:3*(fs.length:Int)-fs.sum=12*K)
  (h11:r 11=.val (.lst (nv ds))) (iE:r 20=iV K) (xZ:r 43=.val (.str (tx (dR (hid ds) 0 fs).flatten))) (pG:r 45=iV (aB 0 0 fs)):
  HX r:=by
 have l:=jW hf hz
 have ln:=vD (ds:=ds) (K:=K) (j:=1) (t:=ds.getD 5 0) hf hz hK (by decide)
 have e1:=Ll (ds:=ds) (t:=ds.getD 5 0) hf hz hK hD h5
 have e2:=Lm (ds:=ds) (t:=ds.getD 5 0) hf hz hK hD h5 (ds.getD 6 0)
 have e3:=Ln (ds:=ds) (t:=ds.getD 5 0) hf hz hK hD h5
 generalize hC:dz (aB 0 0 fs) K 1 (dR (hid ds) 0 fs).flatten (cj (ds.getD 5 0)).flatten=C at e1 e2 ln
 have T9:=Pu h11 hd h5
 have Sf:=Py (r:=upd r 47 (.val (.str (tx (cj (ds.getD 5 0)).flatten)))) (k:=aB 0 0 fs) (K:=K) iE xZ pG rfl (by lia) (by lia) ln.1 ln.2.1
 rw[hC]at Sf
 have Ua:=Pz (r:=upd (upd r 47 (.val (.str (tx (cj (ds.getD 5 0)).flatten)))) 48 (.val (.str (tx C)))) (C:=C) h11 hd h6 rfl ln.2.2
 by_cases hk:aB 0 0 fs=0
 ·have Qg:=Ew (r:=upd (upd (upd r 47 (.val (.str (tx (cj (ds.getD 5 0)).flatten)))) 48 (.val (.str (tx C)))) 49 (.own (bV [C,br (ds.getD 6 0) C]))) pG hk
  have Sg:=Jd (r:=upd (upd (upd r 47 (.val (.str (tx (cj (ds.getD 5 0)).flatten)))) 48 (.val (.str (tx C)))) 49 (.own (bV [C,br (ds.getD 6 0) C]))) (Ls:=[C,br (ds.getD 6 0) C]) rfl (bE rfl)
  have Sh:=Je (r:=upd (upd (upd (upd r 47 (.val (.str (tx (cj (ds.getD 5 0)).flatten)))) 48 (.val (.str (tx C)))) 49 (.own (bV [C,br (ds.getD 6 0) C]))) 50 (.val (.lst (bV [C,br (ds.getD 6 0) C])))) (C:=C) (fs:=[br (ds.getD 6 0) C]) e1 (λx m=>by rw[fG m];exact e2) (bE rfl) rfl rfl rfl
  exact⟨_,λrest o h=>ao T9 (ao Sf (ao Ua (ao Qg (ao Sg (ao Sh h))))),λj hj=>by rw[aM (bU (by lia)),aM (bU (by lia)),aM (bU (by lia)),aM (bU (by lia))]⟩
 ·have e3:=e3 (by lia)
  generalize hX:dz (aB 0 0 fs) K 2 (dR (hid ds) 0 fs).flatten (cj (ds.getD 5 0)).flatten=X at e3
  have Qg:=Ah (r:=upd (upd (upd r 47 (.val (.str (tx (cj (ds.getD 5 0)).flatten)))) 48 (.val (.str (tx C)))) 49 (.own (bV [C,br (ds.getD 6 0) C]))) (k:=aB 0 0 fs) (K:=K) (Ls:=[C,br (ds.getD 6 0) C]) iE xZ pG rfl rfl (bE rfl) (by lia) hK ln.1 ln.2.1
  rw[hX,p8]at Qg
  have Sg:=Jd (r:=upd (upd (upd r 47 (.val (.str (tx (cj (ds.getD 5 0)).flatten)))) 48 (.val (.str (tx C)))) 49 (.own (bV ([C,br (ds.getD 6 0) C]++[X])))) (Ls:=[C,br (ds.getD 6 0) C]++[X]) rfl (bE rfl)
  have Sh:=Je (r:=upd (upd (upd (upd r 47 (.val (.str (tx (cj (ds.getD 5 0)).flatten)))) 48 (.val (.str (tx C)))) 49 (.own (bV ([C,br (ds.getD 6 0) C]++[X])))) 50 (.val (.lst (bV ([C,br (ds.getD 6 0) C]++[X]))))) (C:=C) (fs:=[br (ds.getD 6 0) C,X]) e1 (λx m=>by
   rcases eX m with rfl|m
   ·exact e2
   ·rw[fG m];exact e3) (bE rfl) rfl rfl rfl
  exact⟨_,λrest o h=>ao T9 (ao Sf (ao Ua (ao Qg (ao Sg (ao Sh h))))),λj hj=>by rw[aM (bU (by lia)),aM (bU (by lia)),aM (bU (by lia)),aM (bU (by lia))]⟩
end
section
variable{Φ:bO}{s0 s1 s8:Slot}{b n nt:Nat}{cnt:List Nat}
abbrev lH(s0 s1:Slot)(cnt:List Nat)(b n nt:Nat)(s8:Slot):List Slot:=[s0,s1,.val (.str (tx [32])),.val (.str (tx [9])),.own (nv cnt),iV b,iV n,iV nt,s8]
theorem EL:oK.body.ex Φ (lH s0 s1 cnt b n nt (.val (.str (tx [32]))))=some (.next (lH s0 s1 cnt (b+1) (n+1) nt (.val (.str (tx [32]))))):=by kernel_rfl
theorem HK:oK.body.ex Φ (lH s0 s1 cnt b n nt (.val (.str (tx [120]))))=some (.brk (lH s0 s1 cnt b n nt (.val (.str (tx [120]))))):=by kernel_rfl
noncomputable def grow(cnt:List Nat)(b:Nat):List Nat:=if cnt.length<=b then cnt++List.replicate (b-cnt.length+1) 0 else cnt
def bump(cnt:List Nat)(b:Nat):List Nat:=(grow cnt b).set b ((grow cnt b).getD b 0+1)
theorem jx(l:List Nat):(nv l).length=l.length:=List.length_map _
theorem Cj{cnt:List Nat}{b:Nat}(h:cnt.length<=b):(grow cnt b).length=b+1:=by
 unfold grow
 rw[if_pos h,ay,List.length_replicate,<-Nat.add_assoc,Nat.add_sub_cancel' h]
theorem xX(cnt:List Nat)(b:Nat):b<(grow cnt b).length:=by
 by_cases h:cnt.length<=b
 ·rw[Cj h];exact Nat.lt_succ_self b
 ·unfold grow;rw[if_neg h];exact Nat.lt_of_not_le h
theorem tH(cnt:List Nat)(b:Nat):(grow cnt b).length<=max cnt.length (b+1):=by
 by_cases h:cnt.length<=b
 ·rw[Cj h];exact Nat.le_max_right ..
 ·unfold grow;rw[if_neg h];exact Nat.le_max_left ..
theorem KU(l:List Nat)(i x:Nat):(nv l).set i (.int (x:Int))=nv (l.set i x):=by
 unfold nv;rw[List.map_set]
theorem KS(n:Nat):List.replicate n (PV.int 0)=nv (List.replicate n 0):=by
 unfold nv;rw[List.map_replicate];rfl
theorem Kp{n i:Nat}(h:i<n)(hs:i<=100000):rE n (i:Int)=some i:=by
 unfold rE
 rw[Int.natAbs_natCast,Int.toNat_natCast,beq_self_eq_true,Nat.blt_eq.mpr h,mw (by lia) (by lia)];rfl
theorem LB(hb:b<=900)(hc:cnt.length<=2000):oK.body.ex Φ (lH s0 s1 cnt b n nt (.val (.str (tx [9]))))=some (.next (lH s0 s1 (bump cnt b) 0 (n+1) (nt+1) (.val (.str (tx [9]))))):=by
 have hl:(nv cnt).length<=1000000:=by rw[jx];lia
 have gl:=xX cnt b
 have gz:=tH cnt b
 have en:jX.f [.lst (nv cnt)]=some (.int (cnt.length:Int)):=(mK hl).trans (by rw[jx])
 refine bJ (Gp (cE (x:=.str (tx [9])) (y:=.str (tx [32])) rfl rfl rfl) (bJ (uQ (cE (x:=.str (tx [9])) (y:=.str (tx [9])) rfl rfl rfl) ?_)))
 refine ao (σ':=lH s0 s1 cnt b (n+1) nt (.val (.str (tx [9])))) (by kernel_rfl) (ao (σ':=lH s0 s1 cnt b (n+1) (nt+1) (.val (.str (tx [9])))) (by kernel_rfl) ?_)
 refine ao (σ':=lH s0 s1 (grow cnt b) b (n+1) (nt+1) (.val (.str (tx [9])))) ?_ ?_
 ·unfold grow
  by_cases q:cnt.length<=b
  ·rw[if_pos q]
   refine uQ (cE (x:=.int b) (y:=.int (cnt.length:Int)) rfl en (congrArg some (eT (by lia)))) (bJ ?_)
   refine mp (a:=nv (cnt++List.replicate (b-cnt.length+1) 0)) ?_
   refine bnd (a:=PV.lst (nv (List.replicate (b-cnt.length+1) 0))) ?_ ?_
   ·rw[<-KS]
    refine bnd (a:=PV.int ((b-cnt.length+1:Nat):Int)) ?_ (rep1 (x:=.int 0) (by lia))
    refine bnd (a:=PV.int ((b:Int)-cnt.length)) (bnd (a:=PV.int (cnt.length:Int)) en rfl) ?_
    show some (PV.int ((b:Int)-cnt.length+1))=_
    rw[show(b:Int)-cnt.length+1=((b-cnt.length+1:Nat):Int) by lia]
   ·refine(av (aV (by rw[jx,jx,List.length_replicate];lia))).trans ?_
    unfold nv;rw[List.map_append]
  ·rw[if_neg q]
   exact oX (cE (x:=.int b) (y:=.int (cnt.length:Int)) rfl en (congrArg some (eE (by lia))))
 ·have ev:(nv (grow cnt b))[b]?=some (.int ((grow cnt b).getD b 0:Nat)):=Dj gl
  unfold bump
  generalize grow cnt b=c at *
  have e1:at? (nv c).length (b:Int)=some b:=fh (by lia)
  have e2:rE (nv c).length (b:Int)=some b:=Kp (by rw[jx];exact gl) (by lia)
  refine ao (σ':=lH s0 s1 (c.set b (c.getD b 0+1)) b (n+1) (nt+1) (.val (.str (tx [9])))) ?_ (by kernel_rfl)
  have e3:(SE.bin aX (.idx (ow (sc:=Me.sc nm) 4 ("count":Str) (qz 232 27 32)) (v 5 ("b":Str) (qz 232 33 34)) (qz 232 27 35)) (.int 1 0 (qz 232 38 39)) (qz 232 27 39)).ev Φ (lH s0 s1 c b (n+1) (nt+1) (.val (.str (tx [9]))))=some (.int ((c.getD b 0+1:Nat):Int)):=
   bW (x:=.int (c.getD b 0:Nat)) (y:=.int 1) (bnd (o:=at? (nv c).length (b:Int)) e1 ev) rfl rfl
  refine bnd e3 ?_
  refine(mp (o:=rE (nv c).length (b:Int)) e2).trans ?_
  show some (Out.next [s0,s1,.val (.str (tx [32])),.val (.str (tx [9])),.own ((nv c).set b (.int ((c.getD b 0+1:Nat):Int))),iV b,iV (n+1:Nat),iV (nt+1:Nat),.val (.str (tx [9]))])=_
  rw[KU]
end
section
variable{Φ:bO}{s0 s1:Slot}
abbrev oq:=(rV (sc:=Me.sc nm) ⟨8,"ch",(qz 223 12 14)⟩).bind
def As(xs:List Nat):List PV:=xs.map λc=>.str (tx [c])
theorem mE(a b:List Nat):As (a++b)=As a++As b:=List.map_append
theorem yP{rest:List PV}:∀(m:Nat) (cnt:List Nat) (b n nt:Nat) (s8:Slot),∃uy,loopGo oq (oK.body.ex Φ) (As (List.replicate m 32)++rest) (lH s0 s1 cnt b n nt s8)=loopGo oq (oK.body.ex Φ) rest (lH s0 s1 cnt (b+m) (n+m) nt uy):=by
 intro w
 induction w with
 |zero=>intro cnt b n nt s8;exact⟨s8,rfl⟩
 |succ m ih=>
  intro cnt b n nt s8
  obtain⟨uy,e⟩:=ih cnt (b+1) (n+1) nt (.val (.str (tx [32])))
  rw[show b+1+m=b+(m+1) by lia,show n+1+m=n+(m+1) by lia]at e
  exact⟨uy,(cz rfl EL).trans e⟩
noncomputable def cN(xs:List Nat):List Nat:=xs.flatMap λm=>List.replicate m 32++[9]
theorem sy(cnt:List Nat)(b:Nat):(bump cnt b).length<=max cnt.length (b+1):=by
 unfold bump;rw[List.length_set];exact tH cnt b
inductive Mq(Φ:bO)(s0 s1:Slot)(rest:List PV)(xs cnt:List Nat)(n nt:Nat)(s8:Slot):Prop
 |mk (n':Nat) (yD:Nat) (uy:Slot) (h0:loopGo oq (oK.body.ex Φ) (As (cN xs)++rest) (lH s0 s1 cnt 0 n nt s8)=loopGo oq (oK.body.ex Φ) rest (lH s0 s1 (xs.foldl bump cnt) 0 n' yD uy)):Mq Φ s0 s1 rest xs cnt n nt s8
theorem DI{rest:List PV}:∀(xs cnt:List Nat) (n nt:Nat) (s8:Slot),(∀x∈xs,x<=900)->cnt.length<=1000->Mq Φ s0 s1 rest xs cnt n nt s8:=by
 intro w
 induction w with
 |nil=>intro cnt n nt s8 _ _;exact⟨n,nt,s8,rfl⟩
 |cons x xs ih=>
  intro cnt n nt s8 h hc
  have hx:=h x eF
  have bl:=sy cnt x
  obtain⟨n',yD,uy,e⟩:=ih (bump cnt x) (n+x+1) (nt+1) (.val (.str (tx [9]))) (λy m=>h y (f5 _ m)) (by lia)
  obtain⟨t8,e1⟩:=yP (Φ:=Φ) (s0:=s0) (s1:=s1) (rest:=PV.str (tx [9])::(As (cN xs)++rest)) x cnt 0 n nt s8
  refine⟨n',yD,uy,Eq.trans ?_ (e1.trans (Eq.trans ?_ e))⟩
  ·rw[show cN (x::xs)=(List.replicate x 32++[9])++cN xs from rfl,mE,mE,List.append_assoc,List.append_assoc];rfl
  ·rw[Nat.zero_add]
   exact cz rfl (LB hx (by lia))
theorem BL{cnt:List Nat}{b n nt:Nat}{s8:Slot}:loopGo oq (oK.body.ex Φ) (As [120,32,9]) (lH s0 s1 cnt b n nt s8)=some (.next (lH s0 s1 cnt b n nt (.val (.str (tx [120]))))):=tV rfl HK
theorem HJ{xs:List Nat}{d:Nat}{s8:Slot}(h:∀x∈xs,x<=900):∃n' yD uy,loopGo oq (oK.body.ex Φ) (As ((cN xs++List.replicate d 32)++[120,32,9])) (lH s0 s1 [] 0 0 0 s8)=some (.next (lH s0 s1 (xs.foldl bump []) d n' yD uy)):=by
 obtain⟨n1,VU,t1,e1⟩:=DI (Φ:=Φ) (s0:=s0) (s1:=s1) (rest:=As (List.replicate d 32)++As [120,32,9]) xs [] 0 0 s8 h (Nat.zero_le _)
 obtain⟨t2,e2⟩:=yP (Φ:=Φ) (s0:=s0) (s1:=s1) (rest:=As [120,32,9]) d (xs.foldl bump []) 0 n1 VU t1
 rw[Nat.zero_add]at e2
 refine⟨_,_,_,Eq.trans ?_ (e1.trans (e2.trans BL))⟩
 rw[mE,mE,List.append_assoc]
def Mc(cnt l:List Nat):Prop:=(∀k,cnt.getD k 0=l.count k)/\∀x∈l,x<cnt.length
theorem tG(cnt:List Nat)(b k:Nat):(grow cnt b).getD k 0=cnt.getD k 0:=by
 unfold grow;split
 ·rw[List.getD_eq_getElem?_getD,List.getD_eq_getElem?_getD]
  by_cases h:k<cnt.length
  ·rw[List.getElem?_append_left h]
  ·rw[List.getElem?_append_right (by lia),List.getElem?_eq_none (l:=cnt) (by lia),List.getElem?_replicate]
   split<;>rfl
 ·rfl
theorem Br{cnt l:List Nat}{b:Nat}(h:Mc cnt l):Mc (bump cnt b) (l++[b]):=by
 have gl:=xX cnt b
 constructor
 ·intro k
  unfold bump
  rw[List.count_append,<-h.1 k,List.getD_eq_getElem?_getD,List.getElem?_set]
  by_cases q:b=k
  ·subst q
   rw[if_pos rfl,if_pos gl,List.count_singleton_self,tG];rfl
  ·rw[if_neg q,<-List.getD_eq_getElem?_getD,tG,List.count_singleton,beq_eq_false_iff_ne.mpr q];rfl
 ·intro x m
  have gc:cnt.length<=(grow cnt b).length:=by
   unfold grow;split
   ·rw[ay];lia
   ·lia
  unfold bump
  rw[List.length_set]
  rcases List.mem_append.mp m with m|m
  ·have:=h.2 x m;lia
  ·rw[fG m];exact gl
theorem Bt:∀(xs cnt l:List Nat),Mc cnt l->Mc (xs.foldl bump cnt) (l++xs):=by
 intro w
 induction w with
 |nil=>intro cnt l h;rw[List.append_nil];exact h
 |cons x xs ih=>
  intro cnt l h
  have:=ih (bump cnt x) (l++[x]) (Br h)
  rw[List.append_assoc]at this
  exact this
theorem Fw(xs:List Nat):Mc (xs.foldl bump []) xs:=Bt xs [] [] ⟨λ_=>rfl,λ_ m=>nomatch m⟩
theorem sY:∀(xs cnt:List Nat) (B:Nat),(∀x∈xs,x+1<=B)->cnt.length<=B->(xs.foldl bump cnt).length<=B:=by
 intro w
 induction w with
 |nil=>intro _ _ _ h;exact h
 |cons x xs ih=>
  intro cnt B h hc
  have:=sy cnt x
  have:=h x eF
  exact ih (bump cnt x) B (λy m=>h y (f5 _ m)) (by lia)
theorem PN{xs:List Nat}{d:Nat}(h:∀x∈xs,x<=900):∃q0 q1 q2 q4,F8.fn 13 [.str (tx ((cN xs++List.replicate d 32)++[120,32,9]))]=some (.obj 188 [q0,q1,q2,.tup [.tup (nv (xs.foldl bump [])),.int d],q4]):=by
 have cl:=sY xs [] 901 (λx m=>by have:=h x m;lia) (Nat.zero_le _)
 obtain⟨n',yD,uy,e⟩:=HJ (Φ:=eO.d9 7) (s0:=.is 0) (s1:=.val (.str (tx ((cN xs++List.replicate d 32)++[120,32,9])))) (d:=d) (s8:=.unset) h
 generalize(cN xs++List.replicate d 32)++[120,32,9]=S at *
 generalize xs.foldl bump []=cnt at *
 have hl:(nv cnt).length<=1000000:=by rw[jx];lia
 have en:jX.f [.lst (nv cnt)]=some (.int (cnt.length:Int)):=(mK hl).trans (by rw[jx])
 have ef:fits (nv cnt).length=true:=aV hl
 have k:F8.fn 13 [.str (tx S)]=((nextOf (loopGo oq (oK.body.ex (eO.d9 7)) (As S) (lH (.is 0) (.val (.str (tx S))) [] 0 0 0 .unset))).bind λσ₄=>(oK.a1.ev (eO.d9 7) σ₄).bind λq1=>(oK.a2.ev (eO.d9 7) σ₄).bind λq2=>(oK.a3.ev (eO.d9 7) σ₄).bind λq3=>(oK.a4.ev (eO.d9 7) σ₄).map λq4=>[.str (tx S),q1,q2,q3,q4]).map (.obj 188):=by kernel_rfl
 have e3:oK.a3.ev (eO.d9 7) (lH (.is 0) (.val (.str (tx S))) cnt d n' yD uy)=some (.tup [.tup (nv cnt),.int d]):=by
  show(ig (eO.d9 7) (lH (.is 0) (.val (.str (tx S))) cnt d n' yD uy) [_,_]).bind _=_
  refine bnd (a:=[PV.tup (nv cnt),PV.int d]) (gp ?_ rfl) rfl
  exact av ef
 have e4:∃q4,oK.a4.ev (eO.d9 7) (lH (.is 0) (.val (.str (tx S))) cnt d n' yD uy)=some q4:=⟨_,Nh (x:=.int (cnt.length:Int)) (y:=.int 1) en rfl rfl⟩
 obtain⟨q4,e4⟩:=e4
 refine⟨.str (tx S),.int (n':Nat),.int (yD:Nat),q4,?_⟩
 rw[k,e]
 show(((oK.a1.ev (eO.d9 7) (lH (.is 0) (.val (.str (tx S))) cnt d n' yD uy)).bind λq1=>(oK.a2.ev (eO.d9 7) (lH (.is 0) (.val (.str (tx S))) cnt d n' yD uy)).bind λq2=>(oK.a3.ev (eO.d9 7) (lH (.is 0) (.val (.str (tx S))) cnt d n' yD uy)).bind λq3=>(oK.a4.ev (eO.d9 7) (lH (.is 0) (.val (.str (tx S))) cnt d n' yD uy)).map λq4=>[.str (tx S),q1,q2,q3,q4])).map (PV.obj 188)=_
 rw[e3,e4];rfl
end
section
variable{r:Nat->Slot}{ds:List Nat}{fs:List Int}{M:Int}
theorem Kw:∀(l:List Int) (m:Int),aF ltI.gt m l<=m/\(∀x∈l,aF ltI.gt m l<=x)/\(aF ltI.gt m l=m\/aF ltI.gt m l∈l):=by
 intro w
 induction w with
 |nil=>intro m;exact⟨Int.le_refl _,(λ_ h=>nomatch h),.inl rfl⟩
 |cons x l ih=>
  intro m
  have e:aF ltI.gt m (x::l)=aF ltI.gt (bif decide (x<m)then x else m) l:=rfl
  obtain⟨h1,h2,h3⟩:=ih (bif decide (x<m)then x else m)
  rw[e]
  by_cases q:x<m
  ·rw[eT q]at h1 h2 h3⊢
   refine⟨Int.le_trans h1 (Int.le_of_lt q),λy m=>?_,?_⟩
   ·rcases eX m with rfl|m
    ·exact h1
    ·exact h2 y m
   ·rcases h3 with h3|h3
    ·rw[show aF ltI.gt (bif true then x else m) l=x from h3];exact .inr eF
    ·exact .inr (f5 _ h3)
  ·rw[eE q]at h1 h2 h3⊢
   refine⟨h1,λy mm=>?_,?_⟩
   ·rcases eX mm with rfl|mm
    ·exact Int.le_trans h1 (Int.not_lt.mp q)
    ·exact h2 y mm
   ·rcases h3 with h3|h3
    ·exact .inl h3
    ·exact .inr (f5 _ h3)
theorem PA(hd:ds.length=8)(h7:ds.getD 7 0<4)(hf:∀f∈fs,-14<=f/\f<=8)(hn:0<fs.length)(h11:r 11=.val (.lst (nv ds)))(hs:r 7=.val (.lst (iv fs))):∃M:Int,(0<=M/\M<=14)/\(∀f∈fs,0<=f+M)/\vc.ex F8 (FW r)=some (.next (FW (upd r 51 (iV M)))):=by
 cases fs with|nil=>cases hn|cons f fs=>
  obtain⟨l1,l2,l3⟩:=Kw fs f
  have em:KD.f [.lst (iv (f::fs))]=some (.int (aF ltI.gt f fs)):=by
   show(DM cQ (iv (f::fs))).bind _=_
   rw[wV];rfl
  generalize aF ltI.gt f fs=μ at *
  have bm:-14<=μ:=by
   rcases l3 with l3|l3
   ·have:=hf f eF;lia
   ·exact(hf μ (f5 _ l3)).1
  have hr:=Int.le_max_right (ds.getD 7 0:Nat) (-μ)
  refine⟨max (ds.getD 7 0:Nat) (-μ),⟨Int.le_trans (Int.natCast_nonneg _) (Int.le_max_left ..),Int.max_le.mpr ⟨Int.le_trans (Int.ofNat_le.mpr (Nat.le_of_lt h7)) (by decide),Int.neg_le_of_neg_le bm⟩⟩,λx m=>?_,?_⟩
  ·generalize max ((ds.getD 7 0:Nat):Int) (-μ)=k at hr
   rcases eX m with rfl|m
   ·lia
   ·have:=l2 x m;lia
  ·rw[<-sF]
   refine mp (a:=PV.int (max (ds.getD 7 0:Nat) (-μ))) (bnd (a:=[PV.int (ds.getD 7 0:Nat),PV.int (-μ)]) (gp (sP (i:=7) h11 (by lia) (by lia)) ?_) (TZ _ _))
   exact bnd (a:=PV.int μ) (bnd (qU (gV hs)) em) rfl
theorem PB(hf:∀f∈fs,-14<=f/\f<=8)(hz:fs.length<=16)(hM:0<=M/\M<=14)(hs:r 7=.val (.lst (iv fs)))(Rn:r 51=iV M):vf.ex F8 (FW r)=some (.next (FW (upd r 52 (.val (.str (tx (cN (fs.map λf=>(f+M).toNat)))))))):=by
 have ek:AV.ev F8 (FW r)=some (bV (fs.map λf=>List.replicate (f+M).toNat 32++[9])):=by
  refine lR (xs:=iv fs) (bnd (gV hs) rfl) ?_ (by rw[gY,List.length_map];lia)
  unfold bV iv
  rw[List.map_map]
  refine comp_map λf m=>⟨.val (.int f)::FW r,rfl,rfl,?_⟩
  have b:=hf f m
  have U9:ee (.val (.int f)::FW r) 52=some (.int M):=gV Rn
  exact bW (x:=.str (tx (List.replicate (f+M).toNat 32))) (y:=.str (tx [9])) (bW (x:=.str (tx [32])) (y:=.int (f+M)) rfl (bW (x:=.int f) (y:=.int M) rfl U9 rfl) (mul_neg (by lia) (by lia))) rfl (dj (by rw[List.length_replicate];show _+1<=_;lia))
 have el:cN (fs.map λf=>(f+M).toNat)=(fs.map λf=>List.replicate (f+M).toNat 32++[9]).flatten:=by
  unfold cN
  rw[List.flatMap_def,List.map_map];rfl
 have len:∀l:List Int,(∀f∈l,-14<=f/\f<=8)->(l.map λf=>List.replicate (f+M).toNat 32++[9]).flatten.length<=23*l.length:=λl=>by
  induction l with
  |nil=>exactλ_=>Nat.le_refl _
  |cons f l ih=>
   intro h
   have:=ih λx m=>h x (f5 _ m)
   have b:=h f eF
   rw[List.map_cons,List.flatten_cons,ay,ay,List.length_replicate,List.length_singleton,List.length_cons]
   exact Nat.le_trans (Nat.add_le_add (Nat.succ_le_succ (Int.toNat_le.mpr (show f+M<=((22:Nat):Int) by clear this;lia))) this) (Nat.le_of_eq (Nat.add_comm 23 _))
 rw[<-sF,el]
 have:=len fs hf
 refine mp (a:=PV.str (tx (fs.map λf=>List.replicate (f+M).toNat 32++[9]).flatten)) ?_
 show(Nf F8 (FW r) [_]).bind _=_
 refine bnd (a:=[PV.lst (bV (fs.map λf=>List.replicate (f+M).toNat 32++[9]))]) ?_ (nZ (by lia))
 unfold Nf
 rw[show(SE.x (.comp AV)).ev F8 (FW r)=some (PV.lst (bV (fs.map λf=>List.replicate (f+M).toNat 32++[9])))from gM ek];rfl
theorem G1(r:Nat->Slot)(a b:PV):iL [⟨53,"counts",(qz 365 4 10)⟩,⟨54,"behind",(qz 365 12 18)⟩] [a,b] (FW r)=some (FW (upd (upd r 53 (.val a)) 54 (.val b))):=by kernel_rfl
theorem PC{xs:List Nat}(hd:ds.length=8)(h7:ds.getD 7 0<4)(h11:r 11=.val (.lst (nv ds)))(Vj:r 52=.val (.str (tx (cN xs))))(hx:∀x∈xs,x<=900)(hl:(cN xs).length<=5000):vg.ex F8 (FW r)=some (.next (FW (upd (upd r 53 (.val (.tup (nv (xs.foldl bump []))))) 54 (iV (ds.getD 7 0:Nat))))):=by
 obtain⟨q0,q1,q2,q4,e⟩:=PN (d:=ds.getD 7 0) hx
 have lr:(List.replicate (ds.getD 7 0) 32).length<=10:=by rw[List.length_replicate];lia
 have em:iG.f (.str (tx [32])) (.int ((ds.getD 7 0:Nat):Int))=some (.str (tx (List.replicate (ds.getD 7 0) 32))):=by
  have:=mul_neg (c:=32) (n:=((ds.getD 7 0:Nat):Int)) (by lia) (by lia)
  rw[Int.toNat_natCast]at this;exact this
 refine bnd (a:=.tup [.tup (nv (xs.foldl bump [])),.int (ds.getD 7 0:Nat)]) (bnd (a:=.obj 188 [q0,q1,q2,.tup [.tup (nv (xs.foldl bump [])),.int (ds.getD 7 0:Nat)],q4]) (bnd (qU ?_) e) rfl) (bnd (a:=[PV.tup (nv (xs.foldl bump [])),.int (ds.getD 7 0:Nat)]) rfl (mp (G1 r _ _)))
 exact bW (x:=.str (tx (cN xs++List.replicate (ds.getD 7 0) 32))) (y:=.str (tx [120,32,9])) (bW (x:=.str (tx (cN xs))) (y:=.str (tx (List.replicate (ds.getD 7 0) 32))) (gV Vj) (bW (x:=.str (tx [32])) (y:=.int (ds.getD 7 0:Nat)) rfl (sP (i:=7) h11 (by lia) (by lia)) em) (dj (by lia))) rfl (dj (by rw[ay];show _+3<=_;lia))
theorem FJ:∀(cnt:List Nat) (p:Nat),bP p (nv cnt)=(List.range cnt.length).map λi=>PV.tup [.int ((p+i:Nat):Int),.int (cnt.getD i 0:Nat)]:=by
 intro w
 induction w with
 |nil=>intros;exact rfl
 |cons x cnt ih=>
  intro p
  show PV.tup [.int (p:Int),.int (x:Int)]::bP (p+1) (nv cnt)=_
  rw[ih (p+1),List.length_cons,List.range_succ_eq_map,List.map_cons,List.map_map]
  refine congrArg (PV.tup [.int (p:Int),.int (x:Int)]::·) (List.map_congr_left λi _=>?_)
  show PV.tup [.int ((p+1+i:Nat):Int),.int (cnt.getD i 0:Nat)]=PV.tup [.int ((p+(i+1):Nat):Int),.int ((x::cnt).getD (i+1) 0:Nat)]
  rw[show p+1+i=p+(i+1) by lia];rfl
theorem HL(A:Int)(f:Nat->Nat):∀n,((List.range n).map λ(i:Nat)=>(A-(i:Int))*(f i:Int)).sum=Q1.wsum A f n:=by
 intro w
 induction w with
 |zero=>exact rfl
 |succ n ih=>
  rw[List.range_succ,List.map_append,List.sum_append,ih]
  show _+((A-(n:Int))*(f n:Int)+0)=Q1.wsum A f n+(A-(n:Int))*(f n:Int)
  rw[Int.add_zero]
theorem DJ:∀(fs:List Int),(∀f∈fs,0<=f+M)->((fs.map λf=>(f+M).toNat).map λ(x:Nat)=>3+M-(x:Int)).sum=3*(fs.length:Int)-fs.sum:=by
 intro w
 induction w with
 |nil=>intros;exact rfl
 |cons f fs ih=>
  intro h
  have b:=h f eF
  rw[List.map_cons,List.map_cons,List.sum_cons,ih λx m=>h x (f5 _ m),List.length_cons,List.sum_cons]
  lia
theorem PD{K:Int}{cnt:List Nat}(hd:ds.length=8)(hM:0<=M/\M<=14)(hc:cnt.length<=1000)(hS:((List.range cnt.length).map λ(i:Nat)=>(3+M-(i:Int))*(cnt.getD i 0:Int)).sum=12*K)(h11:r 11=.val (.lst (nv ds)))(iE:r 20=iV K)(Rn:r 51=iV M)(Vk:r 53=.val (.tup (nv cnt)))(Vl:r 54=iV (ds.getD 7 0:Nat)):vh.ex F8 (FW r)=some (.next (FW r)):=by
 have T3:∀k:Int,ry.f (.int k) (.int k)=some false:=λk=>by show some (!(k==k))=_;rw[beq_self_eq_true];rfl
 have ek:AW.ev F8 (FW r)=some (iv ((List.range cnt.length).map λ(i:Nat)=>(3+M-(i:Int))*(cnt.getD i 0:Int))):=by
  have ei:AW.it.ev F8 (FW r)=some ((List.range cnt.length).map λi=>PV.tup [.int ((0+i:Nat):Int),.int (cnt.getD i 0:Nat)]):=by
   rw[<-FJ]
   exact bnd (gV Vk) rfl
  refine lR ei ?_ (by rw[nX,List.length_map,List.length_range];lia)
  unfold iv
  rw[List.map_map]
  refine comp_map λi m=>⟨.val (.int ((0+i:Nat):Int))::.val (.int (cnt.getD i 0:Nat))::FW r,rfl,rfl,?_⟩
  have hi:=List.mem_range.mp m
  have TH:ee (.val (.int ((0+i:Nat):Int))::.val (.int (cnt.getD i 0:Nat))::FW r) 53=some (.int M):=gV Rn
  rw[Nat.zero_add]at TH⊢
  exact bW (x:=.int (3+M-i)) (y:=.int (cnt.getD i 0:Nat)) (bW (x:=.int (3+M)) (y:=.int (i:Int)) (bW (x:=.int 3) (y:=.int M) rfl TH rfl) rfl rfl) rfl (av (mw (by lia) (by lia)))
 refine oX (bnd (a:=false) (cE (x:=.int (ds.getD 7 0:Nat)) (y:=.int (ds.getD 7 0:Nat)) (gV Vl) (sP (i:=7) (q3:=(qz 366 17 25)) h11 (by lia) (by lia)) (T3 _)) ?_)
 refine cE (x:=.int (12*K)) (y:=.int (12*K)) (bnd (qU (gM ek)) ?_) (bnd (a:=PV.int K) (gV iE) rfl) (T3 _)
 show(DM cQ (iv _)).map _=_
 rw[wV,<-hS];rfl
end
section
variable{r:Nat->Slot}
theorem JL:F8.fn 7 [.int 12,.int 12]=some (.tup [.int 1,.int 0]):=by kernel_rfl
theorem JM:F8.fn 7 [.int 24,.int 12]=some (.tup [.int 2,.int 0]):=by kernel_rfl
theorem JN:F8.fn 7 [.int 36,.int 12]=some (.tup [.int 3,.int 0]):=by kernel_rfl
theorem PE{K:Int}(hK:1<=K/\K<=3)(iE:r 20=iV K)(Co:r 44=iV (12*K)):vm.ex F8 (FW r)=some (.ret (.bool true)):=by
 have ed:F8.fn 7 [.int (12*K),.int 12]=some (.tup [.int K,.int 0]):=by
  have:K=1\/K=2\/K=3:=by lia
  rcases this with rfl|rfl|rfl
  ·exact JL
  ·exact JM
  ·exact JN
 refine vN (Nh (x:=.tup [.int K,.int 0]) (y:=.tup [.int K,.int 0]) (bnd (a:=[PV.int (12*K),PV.int 12]) (gp (gV Co) rfl) ed) (bnd (a:=[PV.int K,PV.int 0]) (gp (gV iE) rfl) rfl) ?_)
 show some (and (K==K) (and ((0:Int)==0) true))=_
 rw[beq_self_eq_true];rfl
theorem GY{K:Int}{ds:List Nat}{fs:List Int}(hd:ds.length=8)(hb:∀i,i<5->ds.getD i 0<6)(h5:ds.getD 5 0<3)(h6:ds.getD 6 0<2)(TL:ds.getD 7 0<4)(hf:∀f∈fs,-14<=f/\f<=8)(hz:fs.length<=16)(hn:0<fs.length)(hK:1<=K/\K<=3)(hD:3*(fs.length:Int)-fs.sum=12*K)
  (h7:r 7=.own (iv fs)) (h11:r 11=.val (.lst (nv ds))) (iE:r 20=iV K):
  (SL.cons qx (.cons qy (.cons qA (.cons qB (.freeze 7 (.cons qC (.cons qD (.cons qE (.cons qF (.cons m8 (.cons qG (.cons qH (.cons vc (.cons vf (.cons vg (.cons vh (.cons vm .nil))))))))))))))))).ex F8 (FW r)=some (.ret (.bool true)):=by
 obtain⟨r1,e1,a7,LZ,y9,Mw,Mx,My⟩:=G0 hd hb hf hz h7 h11
 obtain⟨r2,e2,k2⟩:=Gy (r:=r1) hd h5 h6 hf hz hK hD LZ (y9.trans iE) Mw My
 have b7:=(k2 7 (bE rfl)).trans a7
 have MC:=(k2 11 (bE rfl)).trans LZ
 have L1:=(k2 20 (bE rfl)).trans (y9.trans iE)
 have QG:=(k2 44 (bE rfl)).trans Mx
 obtain⟨M,hM,hp,UT⟩:=PA (r:=r2) hd TL hf hn MC b7
 have UU:=PB (r:=upd r2 51 (iV M)) hf hz hM b7 rfl
 have hx:∀x∈fs.map λf=>(f+M).toNat,x<=900:=λx m=>by
  obtain⟨f,mf,rfl⟩:=List.mem_map.mp m
  have:=hf f mf
  exact Int.toNat_le.mpr (show f+M<=((900:Nat):Int) by lia)
 have ll:∀l:List Int,(∀f∈l,-14<=f/\f<=8)->(cN (l.map λf=>(f+M).toNat)).length<=23*l.length:=λl=>by
  induction l with
  |nil=>exactλ_=>Nat.le_refl _
  |cons f l ih=>
   intro h
   have:=ih λx m=>h x (f5 _ m)
   have b:=h f eF
   rw[List.map_cons,show cN ((f+M).toNat::l.map λf=>(f+M).toNat)=(List.replicate (f+M).toNat 32++[9])++cN (l.map λf=>(f+M).toNat)from rfl,ay,ay,List.length_replicate,List.length_singleton,List.length_cons]
   exact Nat.le_trans (Nat.add_le_add (Nat.succ_le_succ (Int.toNat_le.mpr (show f+M<=((22:Nat):Int) by clear this;lia))) this) (Nat.le_of_eq (Nat.add_comm 23 _))
 have l5:=ll fs hf
 have To:=PC (r:=upd (upd r2 51 (iV M)) 52 (.val (.str (tx (cN (fs.map λf=>(f+M).toNat)))))) (xs:=fs.map λf=>(f+M).toNat) hd TL MC rfl hx (by lia)
 have cn:=Fw (fs.map λf=>(f+M).toNat)
 have cl:=sY (fs.map λf=>(f+M).toNat) [] 901 (λx m=>by have:=hx x m;lia) (Nat.zero_le _)
 generalize(fs.map λf=>(f+M).toNat).foldl bump []=cnt at To cn cl
 have hS:((List.range cnt.length).map λ(i:Nat)=>(3+M-(i:Int))*(cnt.getD i 0:Int)).sum=12*K:=by
  rw[HL (3+M) (λi=>cnt.getD i 0),show(λi=>cnt.getD i 0)=λi=>(fs.map λf=>(f+M).toNat).count i from funext cn.1,Q1.zq _ _ _ cn.2,DJ fs hp,hD]
 have UW:=PD (r:=upd (upd (upd (upd r2 51 (iV M)) 52 (.val (.str (tx (cN (fs.map λf=>(f+M).toNat)))))) 53 (.val (.tup (nv cnt)))) 54 (iV (ds.getD 7 0:Nat))) (K:=K) (M:=M) (cnt:=cnt) hd hM (by lia) hS MC L1 rfl rfl rfl
 have UX:=PE (r:=upd (upd (upd (upd r2 51 (iV M)) 52 (.val (.str (tx (cN (fs.map λf=>(f+M).toNat)))))) 53 (.val (.tup (nv cnt)))) 54 (iV (ds.getD 7 0:Nat))) hK L1 (QG.trans (by rw[mG,hD,Int.zero_add]))
 exact e1 _ _ (e2 _ _ (ao UT (ao UU (ao To (ao UW (cW UX))))))
theorem below_at:∀{ds bs:List Nat},Below ds bs->ds.length=bs.length/\∀i,i<bs.length->ds.getD i 0<bs.getD i 0:=by
 intro w
 induction w with
 |nil=>intro v h;cases v with|nil=>exact⟨rfl,nofun⟩|cons=>cases h
 |cons d ds ih=>
  intro v h
  obtain⟨b,bs,rfl⟩:∃b bs,v=b::bs:=by cases v with|nil=>cases h|cons b bs=>exact⟨b,bs,rfl⟩
  refine⟨congrArg Nat.succ (ih h.2).1,λi hi=>?_⟩
  cases i with
  |zero=>exact h.1
  |succ i=>exact(ih h.2).2 i (Nat.lt_of_succ_lt_succ hi)
theorem Of:Pure:=λns hz=>by
 have fr:bk.slots [.lst (ns.map .int)]=FW λi=>Nat.casesOn (motive:=λ_=>Slot) i (.val (.lst (ns.map .int))) λ_=>.unset:=by kernel_rfl
 have e:MR.ex F8 (FW λi=>Nat.casesOn (motive:=λ_=>Slot) i (.val (.lst (ns.map .int))) λ_=>.unset)=some (.ret (.bool true)):=by
  obtain⟨c,g,x,y,w,ds,fs,l,r',H,e1⟩:=Ge (r:=λi=>Nat.casesOn (motive:=λ_=>Slot) i (.val (.lst (ns.map .int))) λ_=>.unset) hz rfl
  obtain⟨r2,K,e2,a7,LZ,y9,hD,hK⟩:=zl H
  have W:=H.wk
  have dr:=H.dr
  obtain⟨hl,hb⟩:=below_at dr
  have six:∀i,i<5->([6,6,6,6,6,3,2,4]:List Nat).getD i 0=6:=by decide
  have e3:=GY (r:=r2) hl (λi hi=>six i hi▸hb i (Nat.lt_trans hi (by decide))) (hb 5 (by decide)) (hb 6 (by decide)) (hb 7 (by decide)) W.fb W.hi (Nat.lt_of_lt_of_le (by decide) W.lo) hK hD a7 LZ y9
  exact e1 _ _ (e2 _ _ e3)
 show(bif Nat.beq _ _ then(MR.ex F8 (bk.slots [.lst (ns.map .int)])).bind _ else none)=_
 rw[fr,e];rfl
end
end L
end Mine.Internal
end
end
set_option maxRecDepth 100000 in
theorem PySem.Challenge.cw_ux0036_01_holds : PySem.Challenge.rw_ux0036_01.Holds :=
 Mine.Internal.L.RS Mine.Internal.L.Of